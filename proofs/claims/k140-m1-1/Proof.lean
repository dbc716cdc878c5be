import JvmDerived
import JvmDerived.Pilot.@@N@@Statement
import JvmDerived.Pilot.@@N@@Code
set_option linter.unusedVariables false
set_option linter.unusedSimpArgs false
@@BLOCK:HandJ.lean.txt@@
@@BLOCK:HandW.lean.txt@@
@@BLOCK:HandBits.lean.txt@@
@@BLOCK:RowBasics.lean.txt@@
@@BLOCK:Sorts.lean.txt@@
@@BLOCK:StaticW.lean.txt@@
@@BLOCK:NumsL.lean.txt@@
namespace Jvm.Pilot.@@N@@
open Jvm Jvm.ClassFile Sem Op Jvm.Lib Jvm.Free Jvm.Stand Jvm.Free.Fl Jvm.Pilot.@@N@@.Jvm.D

/-! ## 1. THE PLAIN LAW: a whole number that is not negative, divided as doubles by a whole number above nought, is a finite double that is not negative -/
def RC : String := "com/example/cardanic/cardanic/Rotation"
def INF : UInt64 := 9218868437227405312
def own_m (a : Int64) : Int64 := a &&& 9223372036854775807
def own_i (b : Int32) : Int32 := b &&& 65535
def own_d (b : Int32) : Int64 := 1 + (own_i b).toInt64
def own_t (a : Int64) (b : Int32) : UInt64 := FP.ddiv (FP.l2d (own_m a)) (FP.l2d (own_d b))

theorem own_m_nn (a : Int64) : 0 ≤ (own_m a).toInt := by
  have h : (a &&& 9223372036854775807).toInt = a.toInt % 2 ^ 63 := Jvm.Kit.i64_mask a 9223372036854775807 (k := 63) (by decide) (by decide)
  show 0 ≤ (a &&& 9223372036854775807).toInt
  omega
theorem own_d_pos (b : Int32) : 0 < (own_d b).toInt := by
  have h : (b &&& 65535).toInt = b.toInt % 2 ^ 16 := Jvm.Kit.i32_mask b 65535 (k := 16) (by decide) (by decide)
  have h1 : (b &&& 65535).toInt64.toInt = (b &&& 65535).toInt := Jvm.Kit.i64_of_i32 _
  have h2 : (1 : Int64).toInt = 1 := by decide
  have h3 : (1 + (b &&& 65535).toInt64).toInt = (1 : Int64).toInt + (b &&& 65535).toInt64.toInt := Jvm.Kit.i64_add (by omega) (by omega)
  show 0 < (1 + (b &&& 65535).toInt64).toInt
  omega

/-- the quotient of two such longs, as doubles: finite, its sign '+' -/
theorem own_quot (m d : Int64) (hm : 0 ≤ m.toInt) (hd : 0 < d.toInt) : ∃ c q, FP.Core.val64 (FP.Core.ddiv (FP.Core.l2d m) (FP.Core.l2d d)) = .fin false c q := by
  obtain ⟨c, q, h1⟩ := FP.Core.l2d_shape m
  obtain ⟨c', r, h2⟩ := FP.Core.l2d_shape d
  rw [decide_eq_false (by omega)] at h1 h2
  have hb := FP.Core.l2d_big (v := d) (by omega)
  have hma := FP.Core.l2d_mag m
  have hc : c' ≠ 0 := by
    intro h
    have := (FP.Core.zero_bits2 (FP.Core.l2d d)).mp ⟨false, r, by rw [h2, h]⟩
    omega
  have hfin : FP.Core.DFin (FP.Core.ddiv (FP.Core.l2d m) (FP.Core.l2d d)) := by
    have := FP.Core.ddiv_mag (K := 1088) (L := 1023) hma hb.1 hb.2 (by decide) (by decide)
    rw [FP.Core.fin_bits]
    omega
  have hv := FP.Core.val64_ddiv (FP.Core.l2d m) (FP.Core.l2d d)
  rw [h1, h2] at hv
  have hq : FP.Core.quotient FP.Core.b64 (.fin false c q) (.fin false c' r) = FP.Core.roundRatio FP.Core.b64 false c c' (q - r) := if_neg hc
  rw [hq] at hv
  rcases FP.Core.roundRatio_cases FP.Core.b64 false c c' (q - r) with ⟨c2, q2, h⟩ | h
  · exact ⟨c2, q2, hv.trans h⟩
  · obtain ⟨s, c3, q3, h3⟩ := hfin
    rw [hv, h] at h3
    cases h3
theorem own_fin (a : Int64) (b : Int32) : ∃ c q, FP.Core.val64 (own_t a b) = .fin false c q := own_quot _ _ (own_m_nn a) (own_d_pos b)
theorem own_dfin (a : Int64) (b : Int32) : FP.Core.DFin (own_t a b) := by
  obtain ⟨c, q, h⟩ := own_fin a b
  exact ⟨_, c, q, h⟩
theorem own_num (a : Int64) (b : Int32) : NoNaN64 (FP.ddiv (FP.l2d (own_m a)) (FP.l2d (own_d b))) := (fin64_core.mpr (own_dfin a b)).noNaN
theorem own_same (a : Int64) (b : Int32) : cmpValue (FP.dcmp (own_t a b) (own_t a b)) .l = 0 := by
  have h : FP.dcmp (own_t a b) (own_t a b) = some .eq := FP.Core.dcmp_refl (own_dfin a b).notNaN
  rw [h]; rfl
theorem own_below (a : Int64) (b : Int32) : cmpValue (FP.dcmp (own_t a b) INF) .g = -1 := by
  have h : FP.dcmp (own_t a b) INF = some .lt := (FP.Core.fin_lt_inf (own_dfin a b)).1
  rw [h]; rfl
theorem own_order (c : Nat) (q : Int) : FP.Core.order (.fin false c q) (.fin false 0 FP.Core.b64.qmin) ≠ some .lt ∧ FP.Core.order (.fin false c q) (.fin false 0 FP.Core.b64.qmin) ≠ none := by
  have h : FP.Core.order (.fin false c q) (.fin false 0 FP.Core.b64.qmin) = some (compare ((FP.Core.inUnits c q (min q FP.Core.b64.qmin) : Nat) : Int) ((FP.Core.inUnits 0 FP.Core.b64.qmin (min q FP.Core.b64.qmin) : Nat) : Int)) := rfl
  have hz : FP.Core.inUnits 0 FP.Core.b64.qmin (min q FP.Core.b64.qmin) = 0 := Nat.zero_mul _
  rw [h, hz]
  refine ⟨fun h' => ?_, fun h' => by cases h'⟩
  have h2 := Option.some.inj h'
  rw [FP.Core.compare_ite] at h2
  rw [if_neg (by omega)] at h2
  split at h2 <;> cases h2
theorem own_ge (a : Int64) (b : Int32) : ¬ cmpValue (FP.dcmp (own_t a b) FP.dconst0) .l < 0 := by
  obtain ⟨c, q, h⟩ := own_fin a b
  have h0 : FP.Core.val64 FP.dconst0 = .fin false 0 FP.Core.b64.qmin := by decide +kernel
  have h1 : FP.dcmp (own_t a b) FP.dconst0 = FP.Core.order (FP.Core.val64 (own_t a b)) (FP.Core.val64 FP.dconst0) := rfl
  rw [h, h0] at h1
  obtain ⟨g1, g2⟩ := own_order c q
  rw [← h1] at g1 g2
  rcases hh : FP.dcmp (own_t a b) FP.dconst0 with _ | o
  · exact absurd hh g2
  · cases o
    · exact absurd hh g1
    · decide
    · decide

/-! ## 2. THE CALLEE's CONTRACT, OVER ITS OWN BYTES (lines turned from example/floats/fp-same) -/
def kp : MethodName := ⟨RC, "checkTolerance", "(D)D"⟩
theorem q0 : decode prog_10_method_6_code 0 = .ok (.dload_n 0, 1) := by decide +kernel
theorem q1 : decode prog_10_method_6_code 1 = .ok (.dconst 0, 1) := by decide +kernel
theorem q2 : decode prog_10_method_6_code 2 = .ok (.dcmp .l, 1) := by decide +kernel
theorem q3 : decode prog_10_method_6_code 3 = .ok (.ifCond .lt 11, 3) := by decide +kernel
theorem q6 : decode prog_10_method_6_code 6 = .ok (.dload_n 0, 1) := by decide +kernel
theorem q7 : decode prog_10_method_6_code 7 = .ok (.ldc2_w 122, 3) := by decide +kernel
theorem q10 : decode prog_10_method_6_code 10 = .ok (.dcmp .g, 1) := by decide +kernel
theorem q11 : decode prog_10_method_6_code 11 = .ok (.ifCond .lt 17, 3) := by decide +kernel
theorem q28 : decode prog_10_method_6_code 28 = .ok (.dload_n 0, 1) := by decide +kernel
theorem q29 : decode prog_10_method_6_code 29 = .ok (.dreturn, 1) := by decide +kernel
def kpIs (t : UInt64) : Cond := .eq (.arg 0) (.op1 .bitsD (.long t.toInt64))
def kpPre (t : UInt64) : Cond := .and (.code kp prog_10_method_6_code 2 (some .double)) (.and (.constantDouble RC 122 INF) (.and (.count 1) (kpIs t)))
def kpPost : Cond := .eq .result (.arg 0)
def kpRoom : Room := { frames := 1, cells := 0, slots := 0, locals := 20 }
def kpSpec (t : UInt64) : Spec := { pre := kpPre t, room := kpRoom, post := kpPost, changes := some [], grows := true, warmsH := true }
theorem own_arg (t : UInt64) (s : State) : (kpIs t).before #[.double t] s = true := by
  simp [kpIs, Cond.before, Cond.holds, Cond.value, Term.eval, Unary.apply]
theorem own_arg_spec {t : UInt64} {args : Array Value} {s : State} (h : (kpIs t).before args s = true) : args[0]? = some (.double t) := by
  simp only [kpIs, Cond.before, Cond.holds, Cond.value, Term.eval, Unary.apply] at h
  cases h0 : args[0]? with
  | none => simp [h0] at h
  | some w => cases w <;> simp [h0] at h ⊢; exact h
set_option maxHeartbeats 1000000 in
theorem kpMeets (l : Launch) (t : UInt64) (h0 : ¬ cmpValue (FP.dcmp t FP.dconst0) .l < 0) (hI : cmpValue (FP.dcmp t INF) .g = -1) : MeetsLoose l kp (kpSpec t) := by
  refine MeetsLoose.of_body (code := prog_10_method_6_code) (maxLocals := 2) (ret := some .double) (by decide) (fun args s h => ?_) ?_
  · have h' : (kpPre t).before args s = true := h
    simp only [kpPre, Cond.before_and, Bool.and_eq_true] at h'
    exact h'.1
  · intro p e s m args below meth c s₁ B
    have hpre : (kpPre t).before args s = true := B.pre
    simp only [kpPre, Cond.before_and, Bool.and_eq_true] at hpre
    obtain ⟨-, cf, hc, hi0⟩ := hpre
    obtain rfl := Cond.one_arg hc (own_arg_spec hi0)
    have hown : s.vm.findClass RC = some m.cls := findClass_of_methodNamed B.named
    have X₀ : Stand p l e kpRoom s m #[Value.double t] below meth c s₁ [] 0 0 := Stand.of_body B
    obtain ⟨fs, hret, hrun, hended, hWend, hsame⟩ := X₀.leave (v := some (.double t)) (fun h => by rw [B.returns] at h; cases h)
    have hmeth' : s₁.vm.method? m = some meth := X₀.method'
    refine ⟨s₁.setFrames fs, .returned (some (.double t)), ?_, hrun, hended, ?_, hWend, hsame⟩
    · show Steps p.tables e below (s₁.setTop { method := m, pc := 0, locals := #[.val (.double t), .second], stack := [], locked := none }) _
      jvm_step B.here [B.exec, B.bytes, q0]
      jvm_step B.here [B.exec, B.bytes, q1]
      show Steps p.tables e below (s₁.setTop { method := m, pc := 2, locals := #[.val (.double t), .second], stack := [.double FP.dconst0, .double t], locked := none }) _
      jvm_step B.here [B.exec, B.bytes, q2]
      show Steps p.tables e below (s₁.setTop { method := m, pc := 3, locals := #[.val (.double t), .second], stack := [.int (cmpValue (FP.dcmp t FP.dconst0) .l)], locked := none }) _
      jvm_step B.here [B.exec, B.bytes, q3, ifCond.holds, h0]
      show Steps p.tables e below (s₁.setTop { method := m, pc := 6, locals := #[.val (.double t), .second], stack := [], locked := none }) _
      jvm_step B.here [B.exec, B.bytes, q6]
      refine X₀.ldc2DoubleC B.exec hown cf (g := { method := m, pc := 7, locals := #[.val (.double t), .second], stack := [.double t], locked := none }) rfl (by rw [B.bytes]; exact q7) _ ?_
      show Steps p.tables e below (s₁.setTop { method := m, pc := 10, locals := #[.val (.double t), .second], stack := [.double INF, .double t], locked := none }) _
      jvm_step B.here [B.exec, B.bytes, q10]
      show Steps p.tables e below (s₁.setTop { method := m, pc := 11, locals := #[.val (.double t), .second], stack := [.int (cmpValue (FP.dcmp t INF) .g)], locked := none }) _
      jvm_step B.here [B.exec, B.bytes, q11, ifCond.holds, hI]
      show Steps p.tables e below (s₁.setTop { method := m, pc := 28, locals := #[.val (.double t), .second], stack := [], locked := none }) _
      jvm_step B.here [B.exec, B.bytes, q28]
      jvm_step X₀.here [X₀.here.top, B.exec, B.bytes, q29, hmeth', B.returns, narrow]
      (try refine ⟨rfl, ?_⟩); (try refine ⟨rfl, ?_⟩)
      first | (intro acts; rw [hret _ acts rfl rfl rfl]) | rw [hret _ _ rfl rfl rfl]
      exact Steps.refl _
    · show kpPost.after _ s _ _ = true
      simp [kpPost, Cond.after, Cond.holds, Cond.value, Term.eval]

/-! ## 3. THE LAW's WALK -/
def P (a : Int64) (b : Int32) (args : Array Value) (_ : State) : Prop := args = #[.long a, .int b]
def Q (_ : Array Value) (s : State) (o : Outcome) (t' : State) : Prop := o = .returned (some (.int 1)) ∧ Framed s o t' [] 0 0
set_option maxHeartbeats 4000000 in
theorem walk (l : Launch) (a : Int64) (b : Int32) : MetFree l x (headSpec (Jvm.Cond.code x code maxLocals ret :: tables_1) room_1) (P a b) (fun _ _ _ _ _ => True) Q := by
  refine MetFree.of_bodyS (code := code) (maxLocals := maxLocals) (ret := ret) (by decide) ?_ ?_
  · intro args s m h hn
    obtain ⟨meth, c, h1, h2, h3, h4, h5, h6, -, -⟩ := Cond.code_spec hn (atoms_spec (ws := Jvm.Cond.code x code maxLocals ret :: tables_1) h _ List.mem_cons_self)
    exact ⟨meth, c, h1, h2, h3, h4, h5, h6⟩
  · intro p e s m args below meth c s₁ B hml hP _
    obtain rfl := hP
    have hown : s.vm.findClass x.cls = some m.cls := findClass_of_methodNamed B.named
    have hts : ∀ c ∈ (Jvm.Cond.code x code maxLocals ret :: tables_1), c.before #[Value.long a, Value.int b] s = true := atoms_spec (ws := Jvm.Cond.code x code maxLocals ret :: tables_1) B.pre
    have cl : (Jvm.Cond.constantLong x.cls 9 9223372036854775807).before #[Value.long a, Value.int b] s = true := hts _ (by decide +kernel)
    have ci : (Jvm.Cond.constant x.cls 11 65535).before #[Value.long a, Value.int b] s = true := hts _ (by decide +kernel)
    have X₀ : Stand p l e room_1 s m #[Value.long a, Value.int b] below meth c s₁ [] 0 0 := Stand.of_body B
    obtain ⟨r, vm₁, mk, T2, hW₁, X₂, hsameN, hens, st₂⟩ := X₀.staticGrows B.exec (own := x.cls) (index := @@{@midx:com/example/cardanic/cardanic/Rotation.checkTolerance:(D)D}@@) (y := kp) (S := kpSpec (own_t a b)) (bytes := prog_10_method_6_code) (maxL := 2) (ret := some .double)
      hown (hts _ (by decide +kernel)) (hts _ (by decide +kernel)) (hts _ (by decide +kernel)) (hts _ (by decide +kernel)) (by decide) (kpMeets l (own_t a b) (own_ge a b) (own_below a b)) (fields := []) rfl rfl
      (fun args' first o s₂ h => by
        have h' : kpPost.after args' first o s₂ = true := h
        cases o <;> simp [kpPost, Cond.after, Cond.holds, Cond.value, Term.eval] at h' ⊢)
      (g := { method := m, pc := 25, locals := #[.val (.long a), .second, .val (.int b), .val (.long (own_m a)), .second, .val (.long (own_d b)), .second, .val (.double (own_t a b)), .second, .unset, .unset], stack := [.double (own_t a b)], locked := none }) rfl (by rw [hml]; rfl) (argsL := [.double (own_t a b)]) (rest := [])
      (fun sig h => by
        have h0 : parseMethodDescriptor kp.desc = some ⟨[.double], some .double⟩ := by decide +kernel
        cases h0.symm.trans h; rfl)
      rfl (by rw [B.bytes]; exact at_25)
      (fun vm' hW => by
        show (kpPre (own_t a b)).before _ (s₁.setVm vm') = true
        simp only [kpPre, Cond.before_and, Bool.and_eq_true]
        exact ⟨Cond.onTables_warm hW rfl rfl (hts (.code kp prog_10_method_6_code 2 (some .double)) (by decide +kernel)), Cond.onTables_warm hW rfl rfl (hts (.constantDouble RC 122 INF) (by decide +kernel)), rfl, own_arg _ _⟩)
      (by simp [kpSpec, kpRoom, room_1]) (by simp [kpSpec, kpRoom, room_1, JFrame.monitorRoom, Value.category]) (by simp [kpSpec, kpRoom, room_1]) (by simp [kpSpec, kpRoom, room_1])
    obtain ⟨hpost, -, -⟩ : kpPost.after #[.double (own_t a b)] _ (.returned r) _ = true ∧ _ ∧ _ := hens
    have hr : r = some (.double (own_t a b)) := by
      cases r with
      | none => simp [kpPost, Cond.after, Cond.holds, Cond.value, Term.eval] at hpost
      | some w => cases w <;> simp [kpPost, Cond.after, Cond.holds, Cond.value, Term.eval] at hpost ⊢; exact hpost
    subst hr
    have hnone : (kpSpec (own_t a b)).frees [] #[Value.double (own_t a b)] (callAt s₁ vm₁ { method := m, pc := 25, locals := #[.val (.long a), .second, .val (.int b), .val (.long (own_m a)), .second, .val (.long (own_d b)), .second, .val (.double (own_t a b)), .second, .unset, .unset], stack := [.double (own_t a b)], locked := none } [] mk [.double (own_t a b)]) = [] := rfl
    have X₂' : Stand p l e room_1 s m #[Value.long a, Value.int b] below meth c T2 [] 0 0 := by
      have := X₂; rw [hnone] at this; simpa [kpSpec, kpRoom] using this
    obtain ⟨fs, hret, hrun, hended, hWend, hsame⟩ := X₂'.leave (v := some (.int 1)) (fun h => by rw [B.returns] at h; cases h)
    have hmeth' : T2.vm.method? m = some meth := X₂'.method'
    refine ⟨T2.setFrames fs, _, ?_, hrun, hended, rfl, ⟨_, rfl⟩, hWend, hsame⟩
    show Steps p.tables e below (s₁.setTop { method := m, pc := 0, locals := #[.val (.long a), .second, .val (.int b), .unset, .unset, .unset, .unset, .unset, .unset, .unset, .unset], stack := [], locked := none }) _
    jvm_step B.here [B.exec, B.bytes, at_0]
    show Steps p.tables e below (s₁.setTop { method := m, pc := 1, locals := #[.val (.long a), .second, .val (.int b), .unset, .unset, .unset, .unset, .unset, .unset, .unset, .unset], stack := [.long a], locked := none }) _
    refine X₀.ldc2Long B.exec hown cl (g := { method := m, pc := 1, locals := #[.val (.long a), .second, .val (.int b), .unset, .unset, .unset, .unset, .unset, .unset, .unset, .unset], stack := [.long a], locked := none }) rfl (by rw [B.bytes]; exact at_1) _ ?_
    show Steps p.tables e below (s₁.setTop { method := m, pc := 4, locals := #[.val (.long a), .second, .val (.int b), .unset, .unset, .unset, .unset, .unset, .unset, .unset, .unset], stack := [.long 9223372036854775807, .long a], locked := none }) _
    jvm_step B.here [B.exec, B.bytes, at_4]
    show Steps p.tables e below (s₁.setTop { method := m, pc := 5, locals := #[.val (.long a), .second, .val (.int b), .unset, .unset, .unset, .unset, .unset, .unset, .unset, .unset], stack := [.long (own_m a)], locked := none }) _
    jvm_step B.here [B.exec, B.bytes, at_5]
    refine ⟨#[.val (.long a), .second, .val (.int b), .val (.long (own_m a)), .second, .unset, .unset, .unset, .unset, .unset, .unset], rfl, ?_⟩
    show Steps p.tables e below (s₁.setTop { method := m, pc := 6, locals := #[.val (.long a), .second, .val (.int b), .val (.long (own_m a)), .second, .unset, .unset, .unset, .unset, .unset, .unset], stack := [], locked := none }) _
    jvm_step B.here [B.exec, B.bytes, at_6]
    show Steps p.tables e below (s₁.setTop { method := m, pc := 7, locals := #[.val (.long a), .second, .val (.int b), .val (.long (own_m a)), .second, .unset, .unset, .unset, .unset, .unset, .unset], stack := [.long 1], locked := none }) _
    jvm_step B.here [B.exec, B.bytes, at_7]
    show Steps p.tables e below (s₁.setTop { method := m, pc := 8, locals := #[.val (.long a), .second, .val (.int b), .val (.long (own_m a)), .second, .unset, .unset, .unset, .unset, .unset, .unset], stack := [.int b, .long 1], locked := none }) _
    refine X₀.ldcInt B.exec hown ci (g := { method := m, pc := 8, locals := #[.val (.long a), .second, .val (.int b), .val (.long (own_m a)), .second, .unset, .unset, .unset, .unset, .unset, .unset], stack := [.int b, .long 1], locked := none }) rfl (by rw [B.bytes]; exact at_8) _ ?_
    show Steps p.tables e below (s₁.setTop { method := m, pc := 10, locals := #[.val (.long a), .second, .val (.int b), .val (.long (own_m a)), .second, .unset, .unset, .unset, .unset, .unset, .unset], stack := [.int 65535, .int b, .long 1], locked := none }) _
    jvm_step B.here [B.exec, B.bytes, at_10]
    show Steps p.tables e below (s₁.setTop { method := m, pc := 11, locals := #[.val (.long a), .second, .val (.int b), .val (.long (own_m a)), .second, .unset, .unset, .unset, .unset, .unset, .unset], stack := [.int (own_i b), .long 1], locked := none }) _
    jvm_step B.here [B.exec, B.bytes, at_11]
    show Steps p.tables e below (s₁.setTop { method := m, pc := 12, locals := #[.val (.long a), .second, .val (.int b), .val (.long (own_m a)), .second, .unset, .unset, .unset, .unset, .unset, .unset], stack := [.long (own_i b).toInt64, .long 1], locked := none }) _
    jvm_step B.here [B.exec, B.bytes, at_12]
    show Steps p.tables e below (s₁.setTop { method := m, pc := 13, locals := #[.val (.long a), .second, .val (.int b), .val (.long (own_m a)), .second, .unset, .unset, .unset, .unset, .unset, .unset], stack := [.long (own_d b)], locked := none }) _
    jvm_step B.here [B.exec, B.bytes, at_13]
    refine ⟨#[.val (.long a), .second, .val (.int b), .val (.long (own_m a)), .second, .val (.long (own_d b)), .second, .unset, .unset, .unset, .unset], rfl, ?_⟩
    show Steps p.tables e below (s₁.setTop { method := m, pc := 15, locals := #[.val (.long a), .second, .val (.int b), .val (.long (own_m a)), .second, .val (.long (own_d b)), .second, .unset, .unset, .unset, .unset], stack := [], locked := none }) _
    jvm_step B.here [B.exec, B.bytes, at_15]
    show Steps p.tables e below (s₁.setTop { method := m, pc := 16, locals := #[.val (.long a), .second, .val (.int b), .val (.long (own_m a)), .second, .val (.long (own_d b)), .second, .unset, .unset, .unset, .unset], stack := [.long (own_m a)], locked := none }) _
    jvm_step B.here [B.exec, B.bytes, at_16]
    show Steps p.tables e below (s₁.setTop { method := m, pc := 17, locals := #[.val (.long a), .second, .val (.int b), .val (.long (own_m a)), .second, .val (.long (own_d b)), .second, .unset, .unset, .unset, .unset], stack := [.double (FP.l2d (own_m a))], locked := none }) _
    jvm_step B.here [B.exec, B.bytes, at_17]
    show Steps p.tables e below (s₁.setTop { method := m, pc := 19, locals := #[.val (.long a), .second, .val (.int b), .val (.long (own_m a)), .second, .val (.long (own_d b)), .second, .unset, .unset, .unset, .unset], stack := [.long (own_d b), .double (FP.l2d (own_m a))], locked := none }) _
    jvm_step B.here [B.exec, B.bytes, at_19]
    show Steps p.tables e below (s₁.setTop { method := m, pc := 20, locals := #[.val (.long a), .second, .val (.int b), .val (.long (own_m a)), .second, .val (.long (own_d b)), .second, .unset, .unset, .unset, .unset], stack := [.double (FP.l2d (own_d b)), .double (FP.l2d (own_m a))], locked := none }) _
    jvm_step B.here [B.exec, B.bytes, at_20, Op.ddiv.at_number B.here.top (own_num a b)]
    show Steps p.tables e below (s₁.setTop { method := m, pc := 21, locals := #[.val (.long a), .second, .val (.int b), .val (.long (own_m a)), .second, .val (.long (own_d b)), .second, .unset, .unset, .unset, .unset], stack := [.double (own_t a b)], locked := none }) _
    jvm_step B.here [B.exec, B.bytes, at_21]
    refine ⟨#[.val (.long a), .second, .val (.int b), .val (.long (own_m a)), .second, .val (.long (own_d b)), .second, .val (.double (own_t a b)), .second, .unset, .unset], rfl, ?_⟩
    show Steps p.tables e below (s₁.setTop { method := m, pc := 23, locals := #[.val (.long a), .second, .val (.int b), .val (.long (own_m a)), .second, .val (.long (own_d b)), .second, .val (.double (own_t a b)), .second, .unset, .unset], stack := [], locked := none }) _
    jvm_step B.here [B.exec, B.bytes, at_23]
    show Steps p.tables e below (s₁.setTop { method := m, pc := 25, locals := #[.val (.long a), .second, .val (.int b), .val (.long (own_m a)), .second, .val (.long (own_d b)), .second, .val (.double (own_t a b)), .second, .unset, .unset], stack := [.double (own_t a b)], locked := none }) _
    refine st₂ _ ?_
    show Steps p.tables e below (T2.setTop { method := m, pc := 28, locals := #[.val (.long a), .second, .val (.int b), .val (.long (own_m a)), .second, .val (.long (own_d b)), .second, .val (.double (own_t a b)), .second, .unset, .unset], stack := [.double (own_t a b)], locked := none }) _
    jvm_step X₂'.here [X₂'.here.top, B.exec, B.bytes, at_28]
    refine ⟨#[.val (.long a), .second, .val (.int b), .val (.long (own_m a)), .second, .val (.long (own_d b)), .second, .val (.double (own_t a b)), .second, .val (.double (own_t a b)), .second], rfl, ?_⟩
    show Steps p.tables e below (T2.setTop { method := m, pc := 30, locals := #[.val (.long a), .second, .val (.int b), .val (.long (own_m a)), .second, .val (.long (own_d b)), .second, .val (.double (own_t a b)), .second, .val (.double (own_t a b)), .second], stack := [], locked := none }) _
    jvm_step X₂'.here [X₂'.here.top, B.exec, B.bytes, at_30]
    show Steps p.tables e below (T2.setTop { method := m, pc := 32, locals := #[.val (.long a), .second, .val (.int b), .val (.long (own_m a)), .second, .val (.long (own_d b)), .second, .val (.double (own_t a b)), .second, .val (.double (own_t a b)), .second], stack := [.double (own_t a b)], locked := none }) _
    jvm_step X₂'.here [X₂'.here.top, B.exec, B.bytes, at_32]
    show Steps p.tables e below (T2.setTop { method := m, pc := 34, locals := #[.val (.long a), .second, .val (.int b), .val (.long (own_m a)), .second, .val (.long (own_d b)), .second, .val (.double (own_t a b)), .second, .val (.double (own_t a b)), .second], stack := [.double (own_t a b), .double (own_t a b)], locked := none }) _
    jvm_step X₂'.here [X₂'.here.top, B.exec, B.bytes, at_34]
    show Steps p.tables e below (T2.setTop { method := m, pc := 35, locals := #[.val (.long a), .second, .val (.int b), .val (.long (own_m a)), .second, .val (.long (own_d b)), .second, .val (.double (own_t a b)), .second, .val (.double (own_t a b)), .second], stack := [.int (cmpValue (FP.dcmp (own_t a b) (own_t a b)) .l)], locked := none }) _
    jvm_step X₂'.here [X₂'.here.top, B.exec, B.bytes, at_35, ifCond.holds, own_same a b]
    show Steps p.tables e below (T2.setTop { method := m, pc := 38, locals := #[.val (.long a), .second, .val (.int b), .val (.long (own_m a)), .second, .val (.long (own_d b)), .second, .val (.double (own_t a b)), .second, .val (.double (own_t a b)), .second], stack := [], locked := none }) _
    jvm_step X₂'.here [X₂'.here.top, B.exec, B.bytes, at_38]
    show Steps p.tables e below (T2.setTop { method := m, pc := 39, locals := #[.val (.long a), .second, .val (.int b), .val (.long (own_m a)), .second, .val (.long (own_d b)), .second, .val (.double (own_t a b)), .second, .val (.double (own_t a b)), .second], stack := [.int 1], locked := none }) _
    jvm_step X₂'.here [X₂'.here.top, B.exec, B.bytes, at_39]
    show Steps p.tables e below (T2.setTop { method := m, pc := 43, locals := #[.val (.long a), .second, .val (.int b), .val (.long (own_m a)), .second, .val (.long (own_d b)), .second, .val (.double (own_t a b)), .second, .val (.double (own_t a b)), .second], stack := [.int 1], locked := none }) _
    jvm_step X₂'.here [X₂'.here.top, B.exec, B.bytes, at_43, hmeth', B.returns, ret, narrow]
    (try refine ⟨rfl, ?_⟩); (try refine ⟨rfl, ?_⟩)
    first | (intro acts; rw [hret _ acts rfl rfl rfl]) | rw [hret _ _ rfl rfl rfl] | (refine ⟨meth, hmeth', ⟨_, B.returns, rfl⟩, fun acts => ?_⟩; rw [hret _ acts rfl rfl rfl])
    exact Steps.refl _

/-! ## 4. FROM THE STATEMENT's WORDS TO P, AND FROM Q TO THE LIMBS -/
theorem own_two {args : Array Value} {s : State} {v w : Value} (hc : (Jvm.Cond.count 2).before args s = true) (h0 : args[0]? = some v) (h1 : args[1]? = some w) : args = #[v, w] := by
  obtain ⟨l⟩ := args
  simp only [Cond.before, Cond.holds, Cond.value, List.size_toArray, beq_iff_eq, Option.some.injEq] at hc
  match l, hc with
  | [p, q], _ => simp at h0 h1; rw [h0, h1]
theorem pre_spec {args : Array Value} {s : State} (h : (Jvm.Cond.and given_1 narrow_1).before args s = true) : ∃ a b, P a b args s := by
  simp only [given_1, Cond.before_and, Bool.and_eq_true] at h
  obtain ⟨⟨hc, hl, hi⟩, -⟩ := h
  obtain ⟨a, ha⟩ := Cond.isLong_spec hl
  obtain ⟨b, hb⟩ := Cond.isInt_spec hi
  exact ⟨a, b, own_two hc (show args[0]? = some (.long a) from ha) (show args[1]? = some (.int b) from hb)⟩
theorem comes_1 (l : Launch) : Comes l x (Jvm.Cond.code x code maxLocals ret :: tables_1) room_1 (fun tb e args s => Calls_1 tb e args s ∧ rest_1 tb e args s ∧ Pre_1 tb e args s)
    (fun _ _ args s o t' => Q args s o t') := by
  intro p e ha hc hk s m args below hf hfit hheap happ hpre
  obtain ⟨a, b, hP⟩ := pre_spec hpre.2.2
  obtain ⟨j, o, h1, h2, h3, hQ⟩ := walk l a b p e ha hc hk s m args below hf ((Spec.applies_iff_loose hf).mp happ).1 hP trivial
  exact ⟨j, o, h1, h2, h3, hQ⟩
theorem main_1_1 : Claimed_1_1 := by
  intro l _ _ _ p e ha hc hk s m args below hf hfit hheap happ hpre
  obtain ⟨j, o, h1, h2, h3, rfl, hF⟩ := comes_1 l p e ha hc hk s m args below hf hfit hheap happ hpre
  exact ⟨j, _, h1, h2, h3, by show limb_1_1.after _ s _ _ = true; simp [limb_1_1, Cond.after, Cond.holds, Cond.value], hF⟩
theorem main_1_2 : Claimed_1_2 := by
  intro l _ _ _ p e ha hc hk s m args below hf hfit hheap happ hpre
  obtain ⟨j, o, h1, h2, h3, rfl, hF⟩ := comes_1 l p e ha hc hk s m args below hf hfit hheap happ hpre
  exact ⟨j, _, h1, h2, h3, by show limb_1_2.after _ s _ _ = true; simp [limb_1_2, Cond.after, Cond.holds, Cond.value, Term.eval], hF⟩
/-! ## 5. THE WITNESS: law(5, 300). The hand-made world bears Rotation as class 2, with the one method on its real bytes and the one double of its pool -/
namespace start1
def cX : Class := Lib.HandW.own x.cls 0x31 [(4, 9, "", "", "", 9223372036854775807, 0), (5, 11, "", "", "", 65535, 0), (1, @@{@midx:com/example/cardanic/cardanic/Rotation.checkTolerance:(D)D}@@, RC, "checkTolerance", "(D)D", 2, 0)] [] (Lib.HandJ.method x.name x.desc [.long, .int] ret 0x9 maxLocals code)
def cR : Class := Lib.HandW.own RC 0x31 [(7, 122, "", "", "", 9218868437227405312, 0)] [] (Lib.HandJ.method "checkTolerance" "(D)D" [.double] (some .double) 0x8 2 prog_10_method_6_code)
def args0 : Array Value := #[.long 5, .int 300]
def about : State where
  vm := { classes := #[cX, Lib.HandBits.cObject, cR] }
  heap := #[]
  slotsUsed := 0
  threads := #[{ frames := .invoking ⟨0, 0⟩ args0 :: Lib.HandBits.below0 }]
def p0 : Program := .bare "" "" ""
def e0 : Env := launch0.env 0 0 0
set_option maxRecDepth 16384 in
theorem atStart : AtStart classFile x code maxLocals ret World_1 tables_1 room_1 Calls_1 rest_1 Pre_1 launch0 p0 e0 about ⟨0, 0⟩ args0 Lib.HandBits.below0 :=
  ⟨lists_1, trivial, launch0.admits_env _ _ _, launch0.least_env, fairChoices_fair.cas, fairChoices_fair.clock, rfl, by decide +kernel, by decide +kernel,
    (Spec.applies_iff rfl).mpr ⟨rfl, rfl, rfl, by decide +kernel, by decide +kernel, by decide +kernel, launch0.hasRoom_least _ room_1 (by decide +kernel) (by decide +kernel) (by decide +kernel) (by decide +kernel) (by decide +kernel) (by decide +kernel), by decide +kernel⟩,
    trivial, trivial, (show (Cond.and given_1 narrow_1).before args0 about = true by decide +kernel)⟩
end start1
theorem witness_1 : WitnessClaimed_1 := ⟨start1.p0, start1.e0, start1.about, ⟨0, 0⟩, start1.args0, Lib.HandBits.below0, start1.atStart⟩
end Jvm.Pilot.@@N@@
