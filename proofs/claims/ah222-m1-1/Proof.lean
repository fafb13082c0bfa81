import JvmDerived
import JvmDerived.Pilot.@@N@@Statement
import JvmDerived.Pilot.@@N@@Code
set_option linter.unusedVariables false
set_option linter.unusedSimpArgs false

namespace Jvm.Pilot.@@N@@
open Jvm Jvm.ClassFile Sem Op Lib Jvm.Free Jvm.Stand Jvm.LawKit Jvm.RoadKit Bundle Jvm.Pilot.@@N@@.Jvm.D
/-- from every end that the second place reaches the first does -/
abbrev own_To (p : Program) (e : Env) (below : List Frame) (T' : State) (f' : JFrame) (T : State) (f : JFrame) : Prop := ∀ t, Steps p.tables e below (T'.setTop f') t → Steps p.tables e below (T.setTop f) t
theorem own_d1_0 : decode jdk_29_method_70_code 0 = .ok (.lload_n 0, 1) := by decide +kernel
theorem own_d1_1 : decode jdk_29_method_70_code 1 = .ok (.lload_n 2, 1) := by decide +kernel
theorem own_d1_2 : decode jdk_29_method_70_code 2 = .ok (.lcmp, 1) := by decide +kernel
theorem own_d1_3 : decode jdk_29_method_70_code 3 = .ok (.ifCond .gt 7, 3) := by decide +kernel
theorem own_d1_6 : decode jdk_29_method_70_code 6 = .ok (.lload_n 0, 1) := by decide +kernel
theorem own_d1_7 : decode jdk_29_method_70_code 7 = .ok (.goto 4, 3) := by decide +kernel
theorem own_d1_10 : decode jdk_29_method_70_code 10 = .ok (.lload_n 2, 1) := by decide +kernel
theorem own_d1_11 : decode jdk_29_method_70_code 11 = .ok (.lreturn, 1) := by decide +kernel
theorem own_ef1 (m : MethodId) (x0 : Int64) (x1 : Int64) : entryFrame m #[(.long x0), (.long x1)] 4 = mkF m 0 #[.val (.long x0), .second, .val (.long x1), .second] [] := by first | (simp [entryFrame, mkF, argsToLocals, Value.category]; done) | rfl
def own_min (q0 q1 : Int64) : Int64 := (if q1 < q0 then q1 else q0)
def Q1 (Z : State) (q0 : Int64) (q1 : Int64) (h0 : Heap) (n0 : Nat) (v : Option Value) (h : Heap) (L : List Loc) : Prop := v = some (.long (own_min q0 q1)) ∧ Fr n0 L ∧ h = h0
set_option maxRecDepth 65536 in
set_option maxHeartbeats 40000000 in
theorem rm1 (l : Launch) (Z : State) (a0 : Array Value) (hw : ∀ d ∈ tables_1, d.before a0 Z = true) (ws : List Jvm.Cond) (q0 : Int64) (q1 : Int64) (h0 : Heap) (n0 : Nat) (Z0 : n0 ≤ h0.size) :
    MetFree l (⟨"java/lang/Math", "min", "(JJ)J"⟩ : MethodName) (head1 (Jvm.Cond.code (⟨"java/lang/Math", "min", "(JJ)J"⟩ : MethodName) jdk_29_method_70_code 4 (some .long) :: ws) ({ frames := 0, cells := 0, slots := 0, locals := 0 } : Room)) (fun a U => a = #[(.long q0), (.long q1)] ∧ Z.Warmed39 U.vm ∧ U.heap = h0) (fun _ _ _ _ _ => True) (fun _ U o U' => ∃ v L, o = .returned v ∧ Q1 Z q0 q1 h0 n0 v U'.heap L ∧ FrameEnd U o U' L ({ frames := 0, cells := 0, slots := 0, locals := 0 } : Room).cells ({ frames := 0, cells := 0, slots := 0, locals := 0 } : Room).slots) := by
  refine MetFree.of_bodySF (Jvm.Free.JP.mathPlain rfl (by decide +kernel)) hisR ?_
  intro p e s m args below meth c s₁ Bd hml0 hP hK
  obtain ⟨rfl, hZ, hh⟩ := hP
  have hx := Bd.exec
  have hby := Bd.bytes
  have hml : c.maxLocals = 4 := hml0
  have hown : s.vm.findClass "java/lang/Math" = some m.cls := findClass_of_methodNamed Bd.named
  have hnm := (name_of_methodNamed Bd.named Bd.method).1
  have X0 : Stand p l e ({ frames := 0, cells := 0, slots := 0, locals := 0 } : Room) s m #[(.long q0), (.long q1)] below meth c s₁ [] 0 0 := Stand.of_body Bd
  have e0 : s₁.heap = h0 := by rw [← hh, Bd.state]; rfl
  have N0 := Fr.nil n0
  have k0 : own_To p e below s₁ (mkF m 0 #[.val (.long q0), .second, .val (.long q1), .second] []) s₁ (entryFrame m #[(.long q0), (.long q1)] 4) := fun t k => castTop (own_ef1 m q0 q1) k
  have ki : own_To p e below s₁ (mkF m 0 #[.val (.long q0), .second, .val (.long q1), .second] []) s₁ (mkF m 0 #[.val (.long q0), .second, .val (.long q1), .second] []) := fun t q => q
  have k1 : own_To p e below s₁ (mkF m 3 #[.val (.long q0), .second, .val (.long q1), .second] [(.int (lcmpW q0 q1))]) s₁ (mkF m 0 #[.val (.long q0), .second, .val (.long q1), .second] []) := fun t q => ki t (by
    refine XS.lloadN X0.here hx rfl (hb hby own_d1_0) rfl ?_
    show Steps p.tables e below (s₁.setTop (mkF m 1 #[.val (.long q0), .second, .val (.long q1), .second] [(.long q0)])) _
    refine XS.lloadN X0.here hx rfl (hb hby own_d1_1) rfl ?_
    show Steps p.tables e below (s₁.setTop (mkF m 2 #[.val (.long q0), .second, .val (.long q1), .second] [(.long q1), (.long q0)])) _
    refine XS.lcmp X0.here hx rfl (hb hby own_d1_2) rfl ?_
    show Steps p.tables e below (s₁.setTop (mkF m 3 #[.val (.long q0), .second, .val (.long q1), .second] [(.int (lcmpW q0 q1))])) _
    exact q)
  by_cases hc2 : q1 < q0
  ·
    have k3 : own_To p e below s₁ (mkF m 11 #[.val (.long q0), .second, .val (.long q1), .second] [(.long q1)]) s₁ (mkF m 0 #[.val (.long q0), .second, .val (.long q1), .second] []) := fun t q => k1 t (by
      refine XS.ifYes X0.here hx rfl (pc0 := 3) (pc' := 10) rfl (hb hby own_d1_3) rfl ((if0 _ _).trans (tlt ((lw_gt q0 q1).mpr hc2)).2.2.1) (by decide) (by decide) ?_
      show Steps p.tables e below (s₁.setTop (mkF m 10 #[.val (.long q0), .second, .val (.long q1), .second] [])) _
      refine XS.lloadN X0.here hx rfl (hb hby own_d1_10) rfl ?_
      show Steps p.tables e below (s₁.setTop (mkF m 11 #[.val (.long q0), .second, .val (.long q1), .second] [(.long q1)])) _
      exact q)
    obtain ⟨fs, hr, hrun, hended, hW, hsame⟩ := X0.leave (v := some (.long q1)) (fun h => by rw [Bd.returns] at h; cases h)
    refine ⟨_, _, k0 _ (k3 _ ?_), hrun, hended, _, _, rfl, ?_, ⟨_, rfl⟩, hW, hsame.mono (by decide) (by decide)⟩
    · show Steps p.tables e below (s₁.setTop (mkF m 11 #[.val (.long q0), .second, .val (.long q1), .second] [(.long q1)])) _
      exact retOut X0 hx Bd.returns rfl (Or.inr (Or.inl ⟨rfl, rfl, _, rfl⟩)) (hb hby own_d1_11) hr
    · show Q1 Z q0 q1 h0 n0 _ s₁.heap _
      rw [e0]
      exact ⟨by rw [own_min, if_pos hc2], N0, rfl⟩
  ·
    have k4 : own_To p e below s₁ (mkF m 11 #[.val (.long q0), .second, .val (.long q1), .second] [(.long q0)]) s₁ (mkF m 0 #[.val (.long q0), .second, .val (.long q1), .second] []) := fun t q => k1 t (by
      refine XS.ifNo X0.here hx rfl (hb hby own_d1_3) rfl ((if0 _ _).trans (flt (mt (lw_gt q0 q1).mp hc2)).2.2.1) ?_
      show Steps p.tables e below (s₁.setTop (mkF m 6 #[.val (.long q0), .second, .val (.long q1), .second] [])) _
      refine XS.lloadN X0.here hx rfl (hb hby own_d1_6) rfl ?_
      show Steps p.tables e below (s₁.setTop (mkF m 7 #[.val (.long q0), .second, .val (.long q1), .second] [(.long q0)])) _
      refine XS.goto X0.here hx rfl (pc0 := 7) (pc' := 11) rfl (hb hby own_d1_7) (by decide) (by decide) ?_
      show Steps p.tables e below (s₁.setTop (mkF m 11 #[.val (.long q0), .second, .val (.long q1), .second] [(.long q0)])) _
      exact q)
    obtain ⟨fs, hr, hrun, hended, hW, hsame⟩ := X0.leave (v := some (.long q0)) (fun h => by rw [Bd.returns] at h; cases h)
    refine ⟨_, _, k0 _ (k4 _ ?_), hrun, hended, _, _, rfl, ?_, ⟨_, rfl⟩, hW, hsame.mono (by decide) (by decide)⟩
    · show Steps p.tables e below (s₁.setTop (mkF m 11 #[.val (.long q0), .second, .val (.long q1), .second] [(.long q0)])) _
      exact retOut X0 hx Bd.returns rfl (Or.inr (Or.inl ⟨rfl, rfl, _, rfl⟩)) (hb hby own_d1_11) hr
    · show Q1 Z q0 q1 h0 n0 _ s₁.heap _
      rw [e0]
      exact ⟨by rw [own_min, if_neg hc2], N0, rfl⟩
theorem own_d2_0 : decode jdk_29_method_66_code 0 = .ok (.lload_n 0, 1) := by decide +kernel
theorem own_d2_1 : decode jdk_29_method_66_code 1 = .ok (.lload_n 2, 1) := by decide +kernel
theorem own_d2_2 : decode jdk_29_method_66_code 2 = .ok (.lcmp, 1) := by decide +kernel
theorem own_d2_3 : decode jdk_29_method_66_code 3 = .ok (.ifCond .lt 7, 3) := by decide +kernel
theorem own_d2_6 : decode jdk_29_method_66_code 6 = .ok (.lload_n 0, 1) := by decide +kernel
theorem own_d2_7 : decode jdk_29_method_66_code 7 = .ok (.goto 4, 3) := by decide +kernel
theorem own_d2_10 : decode jdk_29_method_66_code 10 = .ok (.lload_n 2, 1) := by decide +kernel
theorem own_d2_11 : decode jdk_29_method_66_code 11 = .ok (.lreturn, 1) := by decide +kernel
theorem own_ef2 (m : MethodId) (x0 : Int64) (x1 : Int64) : entryFrame m #[(.long x0), (.long x1)] 4 = mkF m 0 #[.val (.long x0), .second, .val (.long x1), .second] [] := by first | (simp [entryFrame, mkF, argsToLocals, Value.category]; done) | rfl
def own_max (q0 q1 : Int64) : Int64 := (if q0 < q1 then q1 else q0)
def Q2 (Z : State) (q0 : Int64) (q1 : Int64) (h0 : Heap) (n0 : Nat) (v : Option Value) (h : Heap) (L : List Loc) : Prop := v = some (.long (own_max q0 q1)) ∧ Fr n0 L ∧ h = h0
set_option maxRecDepth 65536 in
set_option maxHeartbeats 40000000 in
theorem rm2 (l : Launch) (Z : State) (a0 : Array Value) (hw : ∀ d ∈ tables_1, d.before a0 Z = true) (ws : List Jvm.Cond) (q0 : Int64) (q1 : Int64) (h0 : Heap) (n0 : Nat) (Z0 : n0 ≤ h0.size) :
    MetFree l (⟨"java/lang/Math", "max", "(JJ)J"⟩ : MethodName) (head1 (Jvm.Cond.code (⟨"java/lang/Math", "max", "(JJ)J"⟩ : MethodName) jdk_29_method_66_code 4 (some .long) :: ws) ({ frames := 0, cells := 0, slots := 0, locals := 0 } : Room)) (fun a U => a = #[(.long q0), (.long q1)] ∧ Z.Warmed39 U.vm ∧ U.heap = h0) (fun _ _ _ _ _ => True) (fun _ U o U' => ∃ v L, o = .returned v ∧ Q2 Z q0 q1 h0 n0 v U'.heap L ∧ FrameEnd U o U' L ({ frames := 0, cells := 0, slots := 0, locals := 0 } : Room).cells ({ frames := 0, cells := 0, slots := 0, locals := 0 } : Room).slots) := by
  refine MetFree.of_bodySF (Jvm.Free.JP.mathPlain rfl (by decide +kernel)) hisR ?_
  intro p e s m args below meth c s₁ Bd hml0 hP hK
  obtain ⟨rfl, hZ, hh⟩ := hP
  have hx := Bd.exec
  have hby := Bd.bytes
  have hml : c.maxLocals = 4 := hml0
  have hown : s.vm.findClass "java/lang/Math" = some m.cls := findClass_of_methodNamed Bd.named
  have hnm := (name_of_methodNamed Bd.named Bd.method).1
  have X0 : Stand p l e ({ frames := 0, cells := 0, slots := 0, locals := 0 } : Room) s m #[(.long q0), (.long q1)] below meth c s₁ [] 0 0 := Stand.of_body Bd
  have e0 : s₁.heap = h0 := by rw [← hh, Bd.state]; rfl
  have N0 := Fr.nil n0
  have k0 : own_To p e below s₁ (mkF m 0 #[.val (.long q0), .second, .val (.long q1), .second] []) s₁ (entryFrame m #[(.long q0), (.long q1)] 4) := fun t k => castTop (own_ef2 m q0 q1) k
  have ki : own_To p e below s₁ (mkF m 0 #[.val (.long q0), .second, .val (.long q1), .second] []) s₁ (mkF m 0 #[.val (.long q0), .second, .val (.long q1), .second] []) := fun t q => q
  have k1 : own_To p e below s₁ (mkF m 3 #[.val (.long q0), .second, .val (.long q1), .second] [(.int (lcmpW q0 q1))]) s₁ (mkF m 0 #[.val (.long q0), .second, .val (.long q1), .second] []) := fun t q => ki t (by
    refine XS.lloadN X0.here hx rfl (hb hby own_d2_0) rfl ?_
    show Steps p.tables e below (s₁.setTop (mkF m 1 #[.val (.long q0), .second, .val (.long q1), .second] [(.long q0)])) _
    refine XS.lloadN X0.here hx rfl (hb hby own_d2_1) rfl ?_
    show Steps p.tables e below (s₁.setTop (mkF m 2 #[.val (.long q0), .second, .val (.long q1), .second] [(.long q1), (.long q0)])) _
    refine XS.lcmp X0.here hx rfl (hb hby own_d2_2) rfl ?_
    show Steps p.tables e below (s₁.setTop (mkF m 3 #[.val (.long q0), .second, .val (.long q1), .second] [(.int (lcmpW q0 q1))])) _
    exact q)
  by_cases hc2 : q0 < q1
  ·
    have k3 : own_To p e below s₁ (mkF m 11 #[.val (.long q0), .second, .val (.long q1), .second] [(.long q1)]) s₁ (mkF m 0 #[.val (.long q0), .second, .val (.long q1), .second] []) := fun t q => k1 t (by
      refine XS.ifYes X0.here hx rfl (pc0 := 3) (pc' := 10) rfl (hb hby own_d2_3) rfl ((if0 _ _).trans (tlt ((lw_lt q0 q1).mpr hc2)).1) (by decide) (by decide) ?_
      show Steps p.tables e below (s₁.setTop (mkF m 10 #[.val (.long q0), .second, .val (.long q1), .second] [])) _
      refine XS.lloadN X0.here hx rfl (hb hby own_d2_10) rfl ?_
      show Steps p.tables e below (s₁.setTop (mkF m 11 #[.val (.long q0), .second, .val (.long q1), .second] [(.long q1)])) _
      exact q)
    obtain ⟨fs, hr, hrun, hended, hW, hsame⟩ := X0.leave (v := some (.long q1)) (fun h => by rw [Bd.returns] at h; cases h)
    refine ⟨_, _, k0 _ (k3 _ ?_), hrun, hended, _, _, rfl, ?_, ⟨_, rfl⟩, hW, hsame.mono (by decide) (by decide)⟩
    · show Steps p.tables e below (s₁.setTop (mkF m 11 #[.val (.long q0), .second, .val (.long q1), .second] [(.long q1)])) _
      exact retOut X0 hx Bd.returns rfl (Or.inr (Or.inl ⟨rfl, rfl, _, rfl⟩)) (hb hby own_d2_11) hr
    · show Q2 Z q0 q1 h0 n0 _ s₁.heap _
      rw [e0]
      exact ⟨by rw [own_max, if_pos hc2], N0, rfl⟩
  ·
    have k4 : own_To p e below s₁ (mkF m 11 #[.val (.long q0), .second, .val (.long q1), .second] [(.long q0)]) s₁ (mkF m 0 #[.val (.long q0), .second, .val (.long q1), .second] []) := fun t q => k1 t (by
      refine XS.ifNo X0.here hx rfl (hb hby own_d2_3) rfl ((if0 _ _).trans (flt (mt (lw_lt q0 q1).mp hc2)).1) ?_
      show Steps p.tables e below (s₁.setTop (mkF m 6 #[.val (.long q0), .second, .val (.long q1), .second] [])) _
      refine XS.lloadN X0.here hx rfl (hb hby own_d2_6) rfl ?_
      show Steps p.tables e below (s₁.setTop (mkF m 7 #[.val (.long q0), .second, .val (.long q1), .second] [(.long q0)])) _
      refine XS.goto X0.here hx rfl (pc0 := 7) (pc' := 11) rfl (hb hby own_d2_7) (by decide) (by decide) ?_
      show Steps p.tables e below (s₁.setTop (mkF m 11 #[.val (.long q0), .second, .val (.long q1), .second] [(.long q0)])) _
      exact q)
    obtain ⟨fs, hr, hrun, hended, hW, hsame⟩ := X0.leave (v := some (.long q0)) (fun h => by rw [Bd.returns] at h; cases h)
    refine ⟨_, _, k0 _ (k4 _ ?_), hrun, hended, _, _, rfl, ?_, ⟨_, rfl⟩, hW, hsame.mono (by decide) (by decide)⟩
    · show Steps p.tables e below (s₁.setTop (mkF m 11 #[.val (.long q0), .second, .val (.long q1), .second] [(.long q0)])) _
      exact retOut X0 hx Bd.returns rfl (Or.inr (Or.inl ⟨rfl, rfl, _, rfl⟩)) (hb hby own_d2_11) hr
    · show Q2 Z q0 q1 h0 n0 _ s₁.heap _
      rw [e0]
      exact ⟨by rw [own_max, if_neg hc2], N0, rfl⟩
/-- how many digits of base 26 the number has (none: 0), at most k -/
def own_dg : Nat → Nat → Nat
  | 0, _ => 0
  | k + 1, x => if x = 0 then 0 else own_dg k (x / 26) + 1
def own_dI (k : Nat) (x : Int64) : Int32 := Int32.ofNat (own_dg k x.toInt.toNat)
theorem own_dI0 (k : Nat) (x : Int64) (h : 0 ≤ x.toInt) (h2 : ¬ (0 : Int64) < x) (n : Int32) : n + own_dI k x = n := by
  rw [Int64.lt_iff_toInt_lt, show (0 : Int64).toInt = 0 from rfl] at h2
  have e : x.toInt.toNat = 0 := by omega
  have z : own_dg k 0 = 0 := by cases k with
    | zero => rfl
    | succ k => rw [own_dg, if_pos rfl]
  rw [own_dI, e, z]; exact Int32.add_zero n
theorem own_dI1 (k : Nat) (x : Int64) (h2 : (0 : Int64) < x) (n : Int32) : n + own_dI (k + 1) x = (n + (1 : Int32)) + own_dI k (x / (26 : Int64)) ∧ 0 ≤ (x / (26 : Int64)).toInt ∧ (x.toInt < 26 ^ (k + 1) → (x / (26 : Int64)).toInt < 26 ^ k) := by
  rw [Int64.lt_iff_toInt_lt, show (0 : Int64).toInt = 0 from rfl] at h2
  have d := (c_ldiv x 26 26 rfl (by decide)).1 (by omega)
  have e : (x.toInt / 26).toNat = x.toInt.toNat / 26 := by omega
  refine ⟨?_, by omega, fun q => ?_⟩
  · rw [own_dI, own_dI, d, e, own_dg, if_neg (by omega), Int32.add_assoc]
    congr 1
    rw [Int32.ofNat_add, Int32.add_comm]; rfl
  · rw [d]
    have : (26 : Int) ^ (k + 1) = 26 ^ k * 26 := Int.pow_succ ..
    omega
theorem own_d4_0 : decode prog_2_method_8_code 0 = .ok (.iconst 1, 1) := by decide +kernel
theorem own_d4_1 : decode prog_2_method_8_code 1 = .ok (.istore_n 2, 1) := by decide +kernel
theorem own_d4_2 : decode prog_2_method_8_code 2 = .ok (.lload_n 0, 1) := by decide +kernel
theorem own_d4_3 : decode prog_2_method_8_code 3 = .ok (.ldc2_w 167, 3) := by decide +kernel
theorem own_d4_6 : decode prog_2_method_8_code 6 = .ok (.ldiv, 1) := by decide +kernel
theorem own_d4_7 : decode prog_2_method_8_code 7 = .ok (.lstore_n 3, 1) := by decide +kernel
theorem own_d4_8 : decode prog_2_method_8_code 8 = .ok (.lload_n 3, 1) := by decide +kernel
theorem own_d4_9 : decode prog_2_method_8_code 9 = .ok (.lconst 0, 1) := by decide +kernel
theorem own_d4_10 : decode prog_2_method_8_code 10 = .ok (.lcmp, 1) := by decide +kernel
theorem own_d4_11 : decode prog_2_method_8_code 11 = .ok (.ifCond .le 15, 3) := by decide +kernel
theorem own_d4_14 : decode prog_2_method_8_code 14 = .ok (.iinc 2 1, 3) := by decide +kernel
theorem own_d4_17 : decode prog_2_method_8_code 17 = .ok (.lload_n 3, 1) := by decide +kernel
theorem own_d4_18 : decode prog_2_method_8_code 18 = .ok (.ldc2_w 167, 3) := by decide +kernel
theorem own_d4_21 : decode prog_2_method_8_code 21 = .ok (.ldiv, 1) := by decide +kernel
theorem own_d4_22 : decode prog_2_method_8_code 22 = .ok (.lstore_n 3, 1) := by decide +kernel
theorem own_d4_23 : decode prog_2_method_8_code 23 = .ok (.goto (-15), 3) := by decide +kernel
theorem own_d4_26 : decode prog_2_method_8_code 26 = .ok (.iload_n 2, 1) := by decide +kernel
theorem own_d4_27 : decode prog_2_method_8_code 27 = .ok (.ireturn, 1) := by decide +kernel
set_option maxRecDepth 65536 in
set_option maxHeartbeats 40000000 in
theorem own_loop {p : Program} {l : Launch} {e : Env} {R : Room} {s : State} {m : MethodId} {args : Array Value} {below : List Frame} {meth : Method} {c : Code} {T0 : State} {locs : List Loc} {cells slots : Nat} {Z : State} {a0 : Array Value} {h0 : Heap} (X0 : Stand p l e R s m args below meth c T0 locs cells slots) (hx : p.tables.exec = Jvm.exec) (hZ : Z.Warmed39 s.vm) (hw : ∀ d ∈ tables_1, d.before a0 Z = true) (hby : c.code = prog_2_method_8_code) (hml : c.maxLocals = 5) (hown : s.vm.findClass "com/example/ordrly/ordrly/commits/Progress" = some m.cls) (e0 : T0.heap = h0) (q0 : Int64) : ∀ (k : Nat) (n : Int32) (x : Int64), 0 ≤ x.toInt → x.toInt < 26 ^ k → ∃ x', own_To p e below T0 (mkF m 26 #[.val (.long q0), .second, .val (.int (n + own_dI k x)), .val (.long x'), .second] []) T0 (mkF m 8 #[.val (.long q0), .second, .val (.int n), .val (.long x), .second] []) := by
  intro k
  induction k with
  | zero =>
    intro n x h1 h2
    have hc : ¬ (0 : Int64) < x := by rw [Int64.lt_iff_toInt_lt, show (0 : Int64).toInt = 0 from rfl]; simp at h2; omega
    have ki : own_To p e below T0 (mkF m 8 #[.val (.long q0), .second, .val (.int n), .val (.long x), .second] []) T0 (mkF m 8 #[.val (.long q0), .second, .val (.int n), .val (.long x), .second] []) := fun t q => q
    have k1 : own_To p e below T0 (mkF m 26 #[.val (.long q0), .second, .val (.int n), .val (.long x), .second] []) T0 (mkF m 8 #[.val (.long q0), .second, .val (.int n), .val (.long x), .second] []) := fun t q => ki t (by
      refine XS.lloadN X0.here hx rfl (hb hby own_d4_8) rfl ?_
      show Steps p.tables e below (T0.setTop (mkF m 9 #[.val (.long q0), .second, .val (.int n), .val (.long x), .second] [(.long x)])) _
      refine XS.lconst X0.here hx rfl (hb hby own_d4_9) ?_
      show Steps p.tables e below (T0.setTop (mkF m 10 #[.val (.long q0), .second, .val (.int n), .val (.long x), .second] [(.long (0 : Int64)), (.long x)])) _
      refine XS.lcmp X0.here hx rfl (hb hby own_d4_10) rfl ?_
      show Steps p.tables e below (T0.setTop (mkF m 11 #[.val (.long q0), .second, .val (.int n), .val (.long x), .second] [(.int (lcmpW x (0 : Int64)))])) _
      refine XS.ifYes X0.here hx rfl (pc0 := 11) (pc' := 26) rfl (hb hby own_d4_11) rfl ((if0 _ _).trans (flt (mt (lw_gt x (0 : Int64)).mp hc)).2.2.2) (by decide) (by decide) ?_
      show Steps p.tables e below (T0.setTop (mkF m 26 #[.val (.long q0), .second, .val (.int n), .val (.long x), .second] [])) _
      exact q)
    rw [own_dI0 0 x h1 hc n]
    exact ⟨x, k1⟩
  | succ k ih =>
    intro n x h1 h2
    by_cases hc : (0 : Int64) < x
    · obtain ⟨d1, d2, d3⟩ := own_dI1 k x hc n
      obtain ⟨x', kI⟩ := ih (n + (1 : Int32)) (x / (26 : Int64)) d2 (d3 h2)
      have ki : own_To p e below T0 (mkF m 8 #[.val (.long q0), .second, .val (.int n), .val (.long x), .second] []) T0 (mkF m 8 #[.val (.long q0), .second, .val (.int n), .val (.long x), .second] []) := fun t q => q
      have k1 : own_To p e below T0 (mkF m 8 #[.val (.long q0), .second, .val (.int (n + (1 : Int32))), .val (.long (x / (26 : Int64))), .second] []) T0 (mkF m 8 #[.val (.long q0), .second, .val (.int n), .val (.long x), .second] []) := fun t q => ki t (by
        refine XS.lloadN X0.here hx rfl (hb hby own_d4_8) rfl ?_
        show Steps p.tables e below (T0.setTop (mkF m 9 #[.val (.long q0), .second, .val (.int n), .val (.long x), .second] [(.long x)])) _
        refine XS.lconst X0.here hx rfl (hb hby own_d4_9) ?_
        show Steps p.tables e below (T0.setTop (mkF m 10 #[.val (.long q0), .second, .val (.int n), .val (.long x), .second] [(.long (0 : Int64)), (.long x)])) _
        refine XS.lcmp X0.here hx rfl (hb hby own_d4_10) rfl ?_
        show Steps p.tables e below (T0.setTop (mkF m 11 #[.val (.long q0), .second, .val (.int n), .val (.long x), .second] [(.int (lcmpW x (0 : Int64)))])) _
        refine XS.ifNo X0.here hx rfl (hb hby own_d4_11) rfl ((if0 _ _).trans (tlt ((lw_gt x (0 : Int64)).mpr hc)).2.2.2) ?_
        show Steps p.tables e below (T0.setTop (mkF m 14 #[.val (.long q0), .second, .val (.int n), .val (.long x), .second] [])) _
        refine XS.iinc X0.here hx rfl (hb hby own_d4_14) rfl (l' := #[.val (.long q0), .second, .val (.int (n + (1 : Int32))), .val (.long x), .second]) rfl ?_
        show Steps p.tables e below (T0.setTop (mkF m 17 #[.val (.long q0), .second, .val (.int (n + (1 : Int32))), .val (.long x), .second] [])) _
        refine XS.lloadN X0.here hx rfl (hb hby own_d4_17) rfl ?_
        show Steps p.tables e below (T0.setTop (mkF m 18 #[.val (.long q0), .second, .val (.int (n + (1 : Int32))), .val (.long x), .second] [(.long x)])) _
        refine X0.ldc2Long hx hown (mvT hZ (hw _ (List.mem_of_getElem? (i := 15) rfl))) (g := (mkF m 18 #[.val (.long q0), .second, .val (.int (n + (1 : Int32))), .val (.long x), .second] [(.long x)])) rfl (hb hby own_d4_18) _ ?_
        show Steps p.tables e below (T0.setTop (mkF m 21 #[.val (.long q0), .second, .val (.int (n + (1 : Int32))), .val (.long x), .second] [(.long (26 : Int64)), (.long x)])) _
        refine XS.ldiv X0.here hx rfl (hb hby own_d4_21) rfl (by decide) ?_
        show Steps p.tables e below (T0.setTop (mkF m 22 #[.val (.long q0), .second, .val (.int (n + (1 : Int32))), .val (.long x), .second] [(.long (x / (26 : Int64)))])) _
        refine XS.lstoreN X0.here hx rfl (hb hby own_d4_22) rfl (l' := #[.val (.long q0), .second, .val (.int (n + (1 : Int32))), .val (.long (x / (26 : Int64))), .second]) rfl ?_
        show Steps p.tables e below (T0.setTop (mkF m 23 #[.val (.long q0), .second, .val (.int (n + (1 : Int32))), .val (.long (x / (26 : Int64))), .second] [])) _
        refine XS.goto X0.here hx rfl (pc0 := 23) (pc' := 8) rfl (hb hby own_d4_23) (by decide) (by decide) ?_
        show Steps p.tables e below (T0.setTop (mkF m 8 #[.val (.long q0), .second, .val (.int (n + (1 : Int32))), .val (.long (x / (26 : Int64))), .second] [])) _
        exact q)
      rw [d1]
      exact ⟨x', fun t q => k1 t (kI t q)⟩
    · skip
      have ki : own_To p e below T0 (mkF m 8 #[.val (.long q0), .second, .val (.int n), .val (.long x), .second] []) T0 (mkF m 8 #[.val (.long q0), .second, .val (.int n), .val (.long x), .second] []) := fun t q => q
      have k1 : own_To p e below T0 (mkF m 26 #[.val (.long q0), .second, .val (.int n), .val (.long x), .second] []) T0 (mkF m 8 #[.val (.long q0), .second, .val (.int n), .val (.long x), .second] []) := fun t q => ki t (by
        refine XS.lloadN X0.here hx rfl (hb hby own_d4_8) rfl ?_
        show Steps p.tables e below (T0.setTop (mkF m 9 #[.val (.long q0), .second, .val (.int n), .val (.long x), .second] [(.long x)])) _
        refine XS.lconst X0.here hx rfl (hb hby own_d4_9) ?_
        show Steps p.tables e below (T0.setTop (mkF m 10 #[.val (.long q0), .second, .val (.int n), .val (.long x), .second] [(.long (0 : Int64)), (.long x)])) _
        refine XS.lcmp X0.here hx rfl (hb hby own_d4_10) rfl ?_
        show Steps p.tables e below (T0.setTop (mkF m 11 #[.val (.long q0), .second, .val (.int n), .val (.long x), .second] [(.int (lcmpW x (0 : Int64)))])) _
        refine XS.ifYes X0.here hx rfl (pc0 := 11) (pc' := 26) rfl (hb hby own_d4_11) rfl ((if0 _ _).trans (flt (mt (lw_gt x (0 : Int64)).mp hc)).2.2.2) (by decide) (by decide) ?_
        show Steps p.tables e below (T0.setTop (mkF m 26 #[.val (.long q0), .second, .val (.int n), .val (.long x), .second] [])) _
        exact q)
      rw [own_dI0 (k + 1) x h1 hc n]
      exact ⟨x, k1⟩
def own_CL (q0 : Int64) : Int32 := (1 : Int32) + own_dI 14 (q0 / (26 : Int64))
theorem own_pn4 : plainName "com/example/ordrly/ordrly/commits/Progress" = true := by first | (simp [plainName, overriddenIn]; done) | decide +kernel
theorem own_ef4 (m : MethodId) (x0 : Int64) : entryFrame m #[(.long x0)] 5 = mkF m 0 #[.val (.long x0), .second, .unset, .unset, .unset] [] := by first | (simp [entryFrame, mkF, argsToLocals, Value.category]; done) | rfl
def Q4 (Z : State) (q0 : Int64) (h0 : Heap) (n0 : Nat) (v : Option Value) (h : Heap) (L : List Loc) : Prop := v = some (.int (own_CL q0)) ∧ Fr n0 L ∧ h = h0
set_option maxRecDepth 65536 in
set_option maxHeartbeats 40000000 in
theorem rm4 (l : Launch) (Z : State) (a0 : Array Value) (hw : ∀ d ∈ tables_1, d.before a0 Z = true) (ws : List Jvm.Cond) (q0 : Int64) (h0 : Heap) (n0 : Nat) (Z0 : n0 ≤ h0.size) (hq : 0 ≤ q0.toInt) :
    MetFree l (⟨"com/example/ordrly/ordrly/commits/Progress", "countLength", "(J)I"⟩ : MethodName) (head1 (Jvm.Cond.code (⟨"com/example/ordrly/ordrly/commits/Progress", "countLength", "(J)I"⟩ : MethodName) prog_2_method_8_code 5 (some .int) :: ws) ({ frames := 0, cells := 0, slots := 0, locals := 0 } : Room)) (fun a U => a = #[(.long q0)] ∧ Z.Warmed39 U.vm ∧ U.heap = h0) (fun _ _ _ _ _ => True) (fun _ U o U' => ∃ v L, o = .returned v ∧ Q4 Z q0 h0 n0 v U'.heap L ∧ FrameEnd U o U' L ({ frames := 0, cells := 0, slots := 0, locals := 0 } : Room).cells ({ frames := 0, cells := 0, slots := 0, locals := 0 } : Room).slots) := by
  refine MetFree.of_bodySF (plainFor_of_name own_pn4) hisR ?_
  intro p e s m args below meth c s₁ Bd hml0 hP hK
  obtain ⟨rfl, hZ, hh⟩ := hP
  have hx := Bd.exec
  have hby := Bd.bytes
  have hml : c.maxLocals = 5 := hml0
  have hown : s.vm.findClass "com/example/ordrly/ordrly/commits/Progress" = some m.cls := findClass_of_methodNamed Bd.named
  have hnm := (name_of_methodNamed Bd.named Bd.method).1
  have X0 : Stand p l e ({ frames := 0, cells := 0, slots := 0, locals := 0 } : Room) s m #[(.long q0)] below meth c s₁ [] 0 0 := Stand.of_body Bd
  have e0 : s₁.heap = h0 := by rw [← hh, Bd.state]; rfl
  have N0 := Fr.nil n0
  have k0 : own_To p e below s₁ (mkF m 0 #[.val (.long q0), .second, .unset, .unset, .unset] []) s₁ (entryFrame m #[(.long q0)] 5) := fun t k => castTop (own_ef4 m q0) k
  have ki : own_To p e below s₁ (mkF m 0 #[.val (.long q0), .second, .unset, .unset, .unset] []) s₁ (mkF m 0 #[.val (.long q0), .second, .unset, .unset, .unset] []) := fun t q => q
  have k1 : own_To p e below s₁ (mkF m 8 #[.val (.long q0), .second, .val (.int (1 : Int32)), .val (.long (q0 / (26 : Int64))), .second] []) s₁ (mkF m 0 #[.val (.long q0), .second, .unset, .unset, .unset] []) := fun t q => ki t (by
    refine XS.iconst X0.here hx rfl (hb hby own_d4_0) ?_
    show Steps p.tables e below (s₁.setTop (mkF m 1 #[.val (.long q0), .second, .unset, .unset, .unset] [(.int (1 : Int32))])) _
    refine XS.istoreN X0.here hx rfl (hb hby own_d4_1) rfl (l' := #[.val (.long q0), .second, .val (.int (1 : Int32)), .unset, .unset]) rfl ?_
    show Steps p.tables e below (s₁.setTop (mkF m 2 #[.val (.long q0), .second, .val (.int (1 : Int32)), .unset, .unset] [])) _
    refine XS.lloadN X0.here hx rfl (hb hby own_d4_2) rfl ?_
    show Steps p.tables e below (s₁.setTop (mkF m 3 #[.val (.long q0), .second, .val (.int (1 : Int32)), .unset, .unset] [(.long q0)])) _
    refine X0.ldc2Long hx hown (mvT hZ (hw _ (List.mem_of_getElem? (i := 15) rfl))) (g := (mkF m 3 #[.val (.long q0), .second, .val (.int (1 : Int32)), .unset, .unset] [(.long q0)])) rfl (hb hby own_d4_3) _ ?_
    show Steps p.tables e below (s₁.setTop (mkF m 6 #[.val (.long q0), .second, .val (.int (1 : Int32)), .unset, .unset] [(.long (26 : Int64)), (.long q0)])) _
    refine XS.ldiv X0.here hx rfl (hb hby own_d4_6) rfl (by decide) ?_
    show Steps p.tables e below (s₁.setTop (mkF m 7 #[.val (.long q0), .second, .val (.int (1 : Int32)), .unset, .unset] [(.long (q0 / (26 : Int64)))])) _
    refine XS.lstoreN X0.here hx rfl (hb hby own_d4_7) rfl (l' := #[.val (.long q0), .second, .val (.int (1 : Int32)), .val (.long (q0 / (26 : Int64))), .second]) rfl ?_
    show Steps p.tables e below (s₁.setTop (mkF m 8 #[.val (.long q0), .second, .val (.int (1 : Int32)), .val (.long (q0 / (26 : Int64))), .second] [])) _
    exact q)
  have hd := (c_ldiv q0 26 26 rfl (by decide)).1 hq
  have hr := (rng64 q0).2
  obtain ⟨x', kL⟩ := own_loop (h0 := h0) X0 hx hZ hw hby hml hown e0 q0 14 (1 : Int32) (q0 / (26 : Int64)) (by omega) (by rw [hd]; omega)
  have kM : own_To p e below s₁ (mkF m 26 #[.val (.long q0), .second, .val (.int ((1 : Int32) + own_dI 14 (q0 / (26 : Int64)))), .val (.long x'), .second] []) s₁ (mkF m 0 #[.val (.long q0), .second, .unset, .unset, .unset] []) := fun t q => k1 t (kL t q)
  have k2 : own_To p e below s₁ (mkF m 27 #[.val (.long q0), .second, .val (.int ((1 : Int32) + own_dI 14 (q0 / (26 : Int64)))), .val (.long x'), .second] [(.int ((1 : Int32) + own_dI 14 (q0 / (26 : Int64))))]) s₁ (mkF m 0 #[.val (.long q0), .second, .unset, .unset, .unset] []) := fun t q => kM t (by
    refine XS.iloadN X0.here hx rfl (hb hby own_d4_26) rfl ?_
    show Steps p.tables e below (s₁.setTop (mkF m 27 #[.val (.long q0), .second, .val (.int ((1 : Int32) + own_dI 14 (q0 / (26 : Int64)))), .val (.long x'), .second] [(.int ((1 : Int32) + own_dI 14 (q0 / (26 : Int64))))])) _
    exact q)
  obtain ⟨fs, hr, hrun, hended, hW, hsame⟩ := X0.leave (v := some (.int ((1 : Int32) + own_dI 14 (q0 / (26 : Int64))))) (fun h => by rw [Bd.returns] at h; cases h)
  refine ⟨_, _, k0 _ (k2 _ ?_), hrun, hended, _, _, rfl, ?_, ⟨_, rfl⟩, hW, hsame.mono (by decide) (by decide)⟩
  · show Steps p.tables e below (s₁.setTop (mkF m 27 #[.val (.long q0), .second, .val (.int ((1 : Int32) + own_dI 14 (q0 / (26 : Int64)))), .val (.long x'), .second] [(.int ((1 : Int32) + own_dI 14 (q0 / (26 : Int64))))])) _
    exact retOut X0 hx Bd.returns rfl (Or.inl ⟨rfl, Or.inl rfl, _, rfl⟩) (hb hby own_d4_27) hr
  · show Q4 Z q0 h0 n0 _ s₁.heap _
    rw [e0]
    exact ⟨rfl, N0, rfl⟩
def own_st (c K : Int64) (n : Int32) : Int32 := if c < K then n else n + (1 : Int32)
def own_DG (q0 : Int64) : Int32 := own_st q0 (2481152873203736576 : Int64) (own_st q0 (95428956661682176 : Int64) (own_st q0 (3670344486987776 : Int64) (own_st q0 (141167095653376 : Int64) (own_st q0 (5429503678976 : Int64) (own_st q0 (208827064576 : Int64) (own_st q0 (8031810176 : Int64) (own_st q0 (308915776 : Int64) (own_st q0 (11881376 : Int64) (own_st q0 (456976 : Int64) (own_st q0 (17576 : Int64) (own_st q0 (676 : Int64) (own_st q0 (26 : Int64) ((1 : Int32))))))))))))))
theorem own_d5_0 : decode method_2_code 0 = .ok (.iconst 1, 1) := by decide +kernel
theorem own_d5_1 : decode method_2_code 1 = .ok (.istore_n 2, 1) := by decide +kernel
theorem own_d5_2 : decode method_2_code 2 = .ok (.lload_n 0, 1) := by decide +kernel
theorem own_d5_3 : decode method_2_code 3 = .ok (.ldc2_w 7, 3) := by decide +kernel
theorem own_d5_6 : decode method_2_code 6 = .ok (.lcmp, 1) := by decide +kernel
theorem own_d5_7 : decode method_2_code 7 = .ok (.ifCond .lt 6, 3) := by decide +kernel
theorem own_d5_10 : decode method_2_code 10 = .ok (.iinc 2 1, 3) := by decide +kernel
theorem own_d5_13 : decode method_2_code 13 = .ok (.lload_n 0, 1) := by decide +kernel
theorem own_d5_14 : decode method_2_code 14 = .ok (.ldc2_w 9, 3) := by decide +kernel
theorem own_d5_17 : decode method_2_code 17 = .ok (.lcmp, 1) := by decide +kernel
theorem own_d5_18 : decode method_2_code 18 = .ok (.ifCond .lt 6, 3) := by decide +kernel
theorem own_d5_21 : decode method_2_code 21 = .ok (.iinc 2 1, 3) := by decide +kernel
theorem own_d5_24 : decode method_2_code 24 = .ok (.lload_n 0, 1) := by decide +kernel
theorem own_d5_25 : decode method_2_code 25 = .ok (.ldc2_w 11, 3) := by decide +kernel
theorem own_d5_28 : decode method_2_code 28 = .ok (.lcmp, 1) := by decide +kernel
theorem own_d5_29 : decode method_2_code 29 = .ok (.ifCond .lt 6, 3) := by decide +kernel
theorem own_d5_32 : decode method_2_code 32 = .ok (.iinc 2 1, 3) := by decide +kernel
theorem own_d5_35 : decode method_2_code 35 = .ok (.lload_n 0, 1) := by decide +kernel
theorem own_d5_36 : decode method_2_code 36 = .ok (.ldc2_w 13, 3) := by decide +kernel
theorem own_d5_39 : decode method_2_code 39 = .ok (.lcmp, 1) := by decide +kernel
theorem own_d5_40 : decode method_2_code 40 = .ok (.ifCond .lt 6, 3) := by decide +kernel
theorem own_d5_43 : decode method_2_code 43 = .ok (.iinc 2 1, 3) := by decide +kernel
theorem own_d5_46 : decode method_2_code 46 = .ok (.lload_n 0, 1) := by decide +kernel
theorem own_d5_47 : decode method_2_code 47 = .ok (.ldc2_w 15, 3) := by decide +kernel
theorem own_d5_50 : decode method_2_code 50 = .ok (.lcmp, 1) := by decide +kernel
theorem own_d5_51 : decode method_2_code 51 = .ok (.ifCond .lt 6, 3) := by decide +kernel
theorem own_d5_54 : decode method_2_code 54 = .ok (.iinc 2 1, 3) := by decide +kernel
theorem own_d5_57 : decode method_2_code 57 = .ok (.lload_n 0, 1) := by decide +kernel
theorem own_d5_58 : decode method_2_code 58 = .ok (.ldc2_w 17, 3) := by decide +kernel
theorem own_d5_61 : decode method_2_code 61 = .ok (.lcmp, 1) := by decide +kernel
theorem own_d5_62 : decode method_2_code 62 = .ok (.ifCond .lt 6, 3) := by decide +kernel
theorem own_d5_65 : decode method_2_code 65 = .ok (.iinc 2 1, 3) := by decide +kernel
theorem own_d5_68 : decode method_2_code 68 = .ok (.lload_n 0, 1) := by decide +kernel
theorem own_d5_69 : decode method_2_code 69 = .ok (.ldc2_w 19, 3) := by decide +kernel
theorem own_d5_72 : decode method_2_code 72 = .ok (.lcmp, 1) := by decide +kernel
theorem own_d5_73 : decode method_2_code 73 = .ok (.ifCond .lt 6, 3) := by decide +kernel
theorem own_d5_76 : decode method_2_code 76 = .ok (.iinc 2 1, 3) := by decide +kernel
theorem own_d5_79 : decode method_2_code 79 = .ok (.lload_n 0, 1) := by decide +kernel
theorem own_d5_80 : decode method_2_code 80 = .ok (.ldc2_w 21, 3) := by decide +kernel
theorem own_d5_83 : decode method_2_code 83 = .ok (.lcmp, 1) := by decide +kernel
theorem own_d5_84 : decode method_2_code 84 = .ok (.ifCond .lt 6, 3) := by decide +kernel
theorem own_d5_87 : decode method_2_code 87 = .ok (.iinc 2 1, 3) := by decide +kernel
theorem own_d5_90 : decode method_2_code 90 = .ok (.lload_n 0, 1) := by decide +kernel
theorem own_d5_91 : decode method_2_code 91 = .ok (.ldc2_w 23, 3) := by decide +kernel
theorem own_d5_94 : decode method_2_code 94 = .ok (.lcmp, 1) := by decide +kernel
theorem own_d5_95 : decode method_2_code 95 = .ok (.ifCond .lt 6, 3) := by decide +kernel
theorem own_d5_98 : decode method_2_code 98 = .ok (.iinc 2 1, 3) := by decide +kernel
theorem own_d5_101 : decode method_2_code 101 = .ok (.lload_n 0, 1) := by decide +kernel
theorem own_d5_102 : decode method_2_code 102 = .ok (.ldc2_w 25, 3) := by decide +kernel
theorem own_d5_105 : decode method_2_code 105 = .ok (.lcmp, 1) := by decide +kernel
theorem own_d5_106 : decode method_2_code 106 = .ok (.ifCond .lt 6, 3) := by decide +kernel
theorem own_d5_109 : decode method_2_code 109 = .ok (.iinc 2 1, 3) := by decide +kernel
theorem own_d5_112 : decode method_2_code 112 = .ok (.lload_n 0, 1) := by decide +kernel
theorem own_d5_113 : decode method_2_code 113 = .ok (.ldc2_w 27, 3) := by decide +kernel
theorem own_d5_116 : decode method_2_code 116 = .ok (.lcmp, 1) := by decide +kernel
theorem own_d5_117 : decode method_2_code 117 = .ok (.ifCond .lt 6, 3) := by decide +kernel
theorem own_d5_120 : decode method_2_code 120 = .ok (.iinc 2 1, 3) := by decide +kernel
theorem own_d5_123 : decode method_2_code 123 = .ok (.lload_n 0, 1) := by decide +kernel
theorem own_d5_124 : decode method_2_code 124 = .ok (.ldc2_w 29, 3) := by decide +kernel
theorem own_d5_127 : decode method_2_code 127 = .ok (.lcmp, 1) := by decide +kernel
theorem own_d5_128 : decode method_2_code 128 = .ok (.ifCond .lt 6, 3) := by decide +kernel
theorem own_d5_131 : decode method_2_code 131 = .ok (.iinc 2 1, 3) := by decide +kernel
theorem own_d5_134 : decode method_2_code 134 = .ok (.lload_n 0, 1) := by decide +kernel
theorem own_d5_135 : decode method_2_code 135 = .ok (.ldc2_w 31, 3) := by decide +kernel
theorem own_d5_138 : decode method_2_code 138 = .ok (.lcmp, 1) := by decide +kernel
theorem own_d5_139 : decode method_2_code 139 = .ok (.ifCond .lt 6, 3) := by decide +kernel
theorem own_d5_142 : decode method_2_code 142 = .ok (.iinc 2 1, 3) := by decide +kernel
theorem own_d5_145 : decode method_2_code 145 = .ok (.iload_n 2, 1) := by decide +kernel
theorem own_d5_146 : decode method_2_code 146 = .ok (.ireturn, 1) := by decide +kernel
theorem own_pn5 : plainName "com/example/ordrly/ordrly/commits/ProgressMostGrowthPinLaw" = true := by first | (simp [plainName, overriddenIn]; done) | decide +kernel
theorem own_ef5 (m : MethodId) (x0 : Int64) : entryFrame m #[(.long x0)] 3 = mkF m 0 #[.val (.long x0), .second, .unset] [] := by first | (simp [entryFrame, mkF, argsToLocals, Value.category]; done) | rfl
def Q5 (Z : State) (q0 : Int64) (h0 : Heap) (n0 : Nat) (v : Option Value) (h : Heap) (L : List Loc) : Prop := v = some (.int (own_DG q0)) ∧ Fr n0 L ∧ h = h0
set_option maxRecDepth 65536 in
set_option maxHeartbeats 40000000 in
theorem rm5 (l : Launch) (Z : State) (a0 : Array Value) (hw : ∀ d ∈ tables_1, d.before a0 Z = true) (ws : List Jvm.Cond) (q0 : Int64) (h0 : Heap) (n0 : Nat) (Z0 : n0 ≤ h0.size) :
    MetFree l (⟨"com/example/ordrly/ordrly/commits/ProgressMostGrowthPinLaw", "digits", "(J)I"⟩ : MethodName) (head1 (Jvm.Cond.code (⟨"com/example/ordrly/ordrly/commits/ProgressMostGrowthPinLaw", "digits", "(J)I"⟩ : MethodName) method_2_code 3 (some .int) :: ws) ({ frames := 0, cells := 0, slots := 0, locals := 0 } : Room)) (fun a U => a = #[(.long q0)] ∧ Z.Warmed39 U.vm ∧ U.heap = h0) (fun _ _ _ _ _ => True) (fun _ U o U' => ∃ v L, o = .returned v ∧ Q5 Z q0 h0 n0 v U'.heap L ∧ FrameEnd U o U' L ({ frames := 0, cells := 0, slots := 0, locals := 0 } : Room).cells ({ frames := 0, cells := 0, slots := 0, locals := 0 } : Room).slots) := by
  refine MetFree.of_bodySF (plainFor_of_name own_pn5) hisR ?_
  intro p e s m args below meth c s₁ Bd hml0 hP hK
  obtain ⟨rfl, hZ, hh⟩ := hP
  have hx := Bd.exec
  have hby := Bd.bytes
  have hml : c.maxLocals = 3 := hml0
  have hown : s.vm.findClass "com/example/ordrly/ordrly/commits/ProgressMostGrowthPinLaw" = some m.cls := findClass_of_methodNamed Bd.named
  have hnm := (name_of_methodNamed Bd.named Bd.method).1
  have X0 : Stand p l e ({ frames := 0, cells := 0, slots := 0, locals := 0 } : Room) s m #[(.long q0)] below meth c s₁ [] 0 0 := Stand.of_body Bd
  have e0 : s₁.heap = h0 := by rw [← hh, Bd.state]; rfl
  have N0 := Fr.nil n0
  have k0 : own_To p e below s₁ (mkF m 0 #[.val (.long q0), .second, .unset] []) s₁ (entryFrame m #[(.long q0)] 3) := fun t k => castTop (own_ef5 m q0) k
  have ki : own_To p e below s₁ (mkF m 0 #[.val (.long q0), .second, .unset] []) s₁ (mkF m 0 #[.val (.long q0), .second, .unset] []) := fun t q => q
  have k1 : own_To p e below s₁ (mkF m 7 #[.val (.long q0), .second, .val (.int (1 : Int32))] [(.int (lcmpW q0 (26 : Int64)))]) s₁ (mkF m 0 #[.val (.long q0), .second, .unset] []) := fun t q => ki t (by
    refine XS.iconst X0.here hx rfl (hb hby own_d5_0) ?_
    show Steps p.tables e below (s₁.setTop (mkF m 1 #[.val (.long q0), .second, .unset] [(.int (1 : Int32))])) _
    refine XS.istoreN X0.here hx rfl (hb hby own_d5_1) rfl (l' := #[.val (.long q0), .second, .val (.int (1 : Int32))]) rfl ?_
    show Steps p.tables e below (s₁.setTop (mkF m 2 #[.val (.long q0), .second, .val (.int (1 : Int32))] [])) _
    refine XS.lloadN X0.here hx rfl (hb hby own_d5_2) rfl ?_
    show Steps p.tables e below (s₁.setTop (mkF m 3 #[.val (.long q0), .second, .val (.int (1 : Int32))] [(.long q0)])) _
    refine X0.ldc2Long hx hown (mvT hZ (hw _ (List.mem_of_getElem? (i := 20) rfl))) (g := (mkF m 3 #[.val (.long q0), .second, .val (.int (1 : Int32))] [(.long q0)])) rfl (hb hby own_d5_3) _ ?_
    show Steps p.tables e below (s₁.setTop (mkF m 6 #[.val (.long q0), .second, .val (.int (1 : Int32))] [(.long (26 : Int64)), (.long q0)])) _
    refine XS.lcmp X0.here hx rfl (hb hby own_d5_6) rfl ?_
    show Steps p.tables e below (s₁.setTop (mkF m 7 #[.val (.long q0), .second, .val (.int (1 : Int32))] [(.int (lcmpW q0 (26 : Int64)))])) _
    exact q)
  obtain ⟨v3, hv3, k4⟩ : ∃ (v3 : Int32), (v3 = (if q0 < (26 : Int64) then (1 : Int32) else ((1 : Int32) + (1 : Int32)))) ∧ own_To p e below s₁ (mkF m 13 #[.val (.long q0), .second, .val (.int v3)] []) s₁ (mkF m 0 #[.val (.long q0), .second, .unset] []) := by
    by_cases hm2 : q0 < (26 : Int64)
    ·
      refine ⟨(1 : Int32), by rw [if_pos hm2], fun t q => k1 t (?_)⟩
      refine XS.ifYes X0.here hx rfl (pc0 := 7) (pc' := 13) rfl (hb hby own_d5_7) rfl ((if0 _ _).trans (tlt ((lw_lt q0 (26 : Int64)).mpr hm2)).1) (by decide) (by decide) ?_
      show Steps p.tables e below (s₁.setTop (mkF m 13 #[.val (.long q0), .second, .val (.int (1 : Int32))] [])) _
      exact q
    ·
      refine ⟨((1 : Int32) + (1 : Int32)), by rw [if_neg hm2], fun t q => k1 t (?_)⟩
      refine XS.ifNo X0.here hx rfl (hb hby own_d5_7) rfl ((if0 _ _).trans (flt (mt (lw_lt q0 (26 : Int64)).mp hm2)).1) ?_
      show Steps p.tables e below (s₁.setTop (mkF m 10 #[.val (.long q0), .second, .val (.int (1 : Int32))] [])) _
      refine XS.iinc X0.here hx rfl (hb hby own_d5_10) rfl (l' := #[.val (.long q0), .second, .val (.int ((1 : Int32) + (1 : Int32)))]) rfl ?_
      show Steps p.tables e below (s₁.setTop (mkF m 13 #[.val (.long q0), .second, .val (.int ((1 : Int32) + (1 : Int32)))] [])) _
      exact q
  have k5 : own_To p e below s₁ (mkF m 18 #[.val (.long q0), .second, .val (.int v3)] [(.int (lcmpW q0 (676 : Int64)))]) s₁ (mkF m 0 #[.val (.long q0), .second, .unset] []) := fun t q => k4 t (by
    refine XS.lloadN X0.here hx rfl (hb hby own_d5_13) rfl ?_
    show Steps p.tables e below (s₁.setTop (mkF m 14 #[.val (.long q0), .second, .val (.int v3)] [(.long q0)])) _
    refine X0.ldc2Long hx hown (mvT hZ (hw _ (List.mem_of_getElem? (i := 21) rfl))) (g := (mkF m 14 #[.val (.long q0), .second, .val (.int v3)] [(.long q0)])) rfl (hb hby own_d5_14) _ ?_
    show Steps p.tables e below (s₁.setTop (mkF m 17 #[.val (.long q0), .second, .val (.int v3)] [(.long (676 : Int64)), (.long q0)])) _
    refine XS.lcmp X0.here hx rfl (hb hby own_d5_17) rfl ?_
    show Steps p.tables e below (s₁.setTop (mkF m 18 #[.val (.long q0), .second, .val (.int v3)] [(.int (lcmpW q0 (676 : Int64)))])) _
    exact q)
  obtain ⟨v7, hv7, k8⟩ : ∃ (v7 : Int32), (v7 = (if q0 < (676 : Int64) then v3 else (v3 + (1 : Int32)))) ∧ own_To p e below s₁ (mkF m 24 #[.val (.long q0), .second, .val (.int v7)] []) s₁ (mkF m 0 #[.val (.long q0), .second, .unset] []) := by
    by_cases hm6 : q0 < (676 : Int64)
    ·
      refine ⟨v3, by rw [if_pos hm6], fun t q => k5 t (?_)⟩
      refine XS.ifYes X0.here hx rfl (pc0 := 18) (pc' := 24) rfl (hb hby own_d5_18) rfl ((if0 _ _).trans (tlt ((lw_lt q0 (676 : Int64)).mpr hm6)).1) (by decide) (by decide) ?_
      show Steps p.tables e below (s₁.setTop (mkF m 24 #[.val (.long q0), .second, .val (.int v3)] [])) _
      exact q
    ·
      refine ⟨(v3 + (1 : Int32)), by rw [if_neg hm6], fun t q => k5 t (?_)⟩
      refine XS.ifNo X0.here hx rfl (hb hby own_d5_18) rfl ((if0 _ _).trans (flt (mt (lw_lt q0 (676 : Int64)).mp hm6)).1) ?_
      show Steps p.tables e below (s₁.setTop (mkF m 21 #[.val (.long q0), .second, .val (.int v3)] [])) _
      refine XS.iinc X0.here hx rfl (hb hby own_d5_21) rfl (l' := #[.val (.long q0), .second, .val (.int (v3 + (1 : Int32)))]) rfl ?_
      show Steps p.tables e below (s₁.setTop (mkF m 24 #[.val (.long q0), .second, .val (.int (v3 + (1 : Int32)))] [])) _
      exact q
  have k9 : own_To p e below s₁ (mkF m 29 #[.val (.long q0), .second, .val (.int v7)] [(.int (lcmpW q0 (17576 : Int64)))]) s₁ (mkF m 0 #[.val (.long q0), .second, .unset] []) := fun t q => k8 t (by
    refine XS.lloadN X0.here hx rfl (hb hby own_d5_24) rfl ?_
    show Steps p.tables e below (s₁.setTop (mkF m 25 #[.val (.long q0), .second, .val (.int v7)] [(.long q0)])) _
    refine X0.ldc2Long hx hown (mvT hZ (hw _ (List.mem_of_getElem? (i := 22) rfl))) (g := (mkF m 25 #[.val (.long q0), .second, .val (.int v7)] [(.long q0)])) rfl (hb hby own_d5_25) _ ?_
    show Steps p.tables e below (s₁.setTop (mkF m 28 #[.val (.long q0), .second, .val (.int v7)] [(.long (17576 : Int64)), (.long q0)])) _
    refine XS.lcmp X0.here hx rfl (hb hby own_d5_28) rfl ?_
    show Steps p.tables e below (s₁.setTop (mkF m 29 #[.val (.long q0), .second, .val (.int v7)] [(.int (lcmpW q0 (17576 : Int64)))])) _
    exact q)
  obtain ⟨v11, hv11, k12⟩ : ∃ (v11 : Int32), (v11 = (if q0 < (17576 : Int64) then v7 else (v7 + (1 : Int32)))) ∧ own_To p e below s₁ (mkF m 35 #[.val (.long q0), .second, .val (.int v11)] []) s₁ (mkF m 0 #[.val (.long q0), .second, .unset] []) := by
    by_cases hm10 : q0 < (17576 : Int64)
    ·
      refine ⟨v7, by rw [if_pos hm10], fun t q => k9 t (?_)⟩
      refine XS.ifYes X0.here hx rfl (pc0 := 29) (pc' := 35) rfl (hb hby own_d5_29) rfl ((if0 _ _).trans (tlt ((lw_lt q0 (17576 : Int64)).mpr hm10)).1) (by decide) (by decide) ?_
      show Steps p.tables e below (s₁.setTop (mkF m 35 #[.val (.long q0), .second, .val (.int v7)] [])) _
      exact q
    ·
      refine ⟨(v7 + (1 : Int32)), by rw [if_neg hm10], fun t q => k9 t (?_)⟩
      refine XS.ifNo X0.here hx rfl (hb hby own_d5_29) rfl ((if0 _ _).trans (flt (mt (lw_lt q0 (17576 : Int64)).mp hm10)).1) ?_
      show Steps p.tables e below (s₁.setTop (mkF m 32 #[.val (.long q0), .second, .val (.int v7)] [])) _
      refine XS.iinc X0.here hx rfl (hb hby own_d5_32) rfl (l' := #[.val (.long q0), .second, .val (.int (v7 + (1 : Int32)))]) rfl ?_
      show Steps p.tables e below (s₁.setTop (mkF m 35 #[.val (.long q0), .second, .val (.int (v7 + (1 : Int32)))] [])) _
      exact q
  have k13 : own_To p e below s₁ (mkF m 40 #[.val (.long q0), .second, .val (.int v11)] [(.int (lcmpW q0 (456976 : Int64)))]) s₁ (mkF m 0 #[.val (.long q0), .second, .unset] []) := fun t q => k12 t (by
    refine XS.lloadN X0.here hx rfl (hb hby own_d5_35) rfl ?_
    show Steps p.tables e below (s₁.setTop (mkF m 36 #[.val (.long q0), .second, .val (.int v11)] [(.long q0)])) _
    refine X0.ldc2Long hx hown (mvT hZ (hw _ (List.mem_of_getElem? (i := 23) rfl))) (g := (mkF m 36 #[.val (.long q0), .second, .val (.int v11)] [(.long q0)])) rfl (hb hby own_d5_36) _ ?_
    show Steps p.tables e below (s₁.setTop (mkF m 39 #[.val (.long q0), .second, .val (.int v11)] [(.long (456976 : Int64)), (.long q0)])) _
    refine XS.lcmp X0.here hx rfl (hb hby own_d5_39) rfl ?_
    show Steps p.tables e below (s₁.setTop (mkF m 40 #[.val (.long q0), .second, .val (.int v11)] [(.int (lcmpW q0 (456976 : Int64)))])) _
    exact q)
  obtain ⟨v15, hv15, k16⟩ : ∃ (v15 : Int32), (v15 = (if q0 < (456976 : Int64) then v11 else (v11 + (1 : Int32)))) ∧ own_To p e below s₁ (mkF m 46 #[.val (.long q0), .second, .val (.int v15)] []) s₁ (mkF m 0 #[.val (.long q0), .second, .unset] []) := by
    by_cases hm14 : q0 < (456976 : Int64)
    ·
      refine ⟨v11, by rw [if_pos hm14], fun t q => k13 t (?_)⟩
      refine XS.ifYes X0.here hx rfl (pc0 := 40) (pc' := 46) rfl (hb hby own_d5_40) rfl ((if0 _ _).trans (tlt ((lw_lt q0 (456976 : Int64)).mpr hm14)).1) (by decide) (by decide) ?_
      show Steps p.tables e below (s₁.setTop (mkF m 46 #[.val (.long q0), .second, .val (.int v11)] [])) _
      exact q
    ·
      refine ⟨(v11 + (1 : Int32)), by rw [if_neg hm14], fun t q => k13 t (?_)⟩
      refine XS.ifNo X0.here hx rfl (hb hby own_d5_40) rfl ((if0 _ _).trans (flt (mt (lw_lt q0 (456976 : Int64)).mp hm14)).1) ?_
      show Steps p.tables e below (s₁.setTop (mkF m 43 #[.val (.long q0), .second, .val (.int v11)] [])) _
      refine XS.iinc X0.here hx rfl (hb hby own_d5_43) rfl (l' := #[.val (.long q0), .second, .val (.int (v11 + (1 : Int32)))]) rfl ?_
      show Steps p.tables e below (s₁.setTop (mkF m 46 #[.val (.long q0), .second, .val (.int (v11 + (1 : Int32)))] [])) _
      exact q
  have k17 : own_To p e below s₁ (mkF m 51 #[.val (.long q0), .second, .val (.int v15)] [(.int (lcmpW q0 (11881376 : Int64)))]) s₁ (mkF m 0 #[.val (.long q0), .second, .unset] []) := fun t q => k16 t (by
    refine XS.lloadN X0.here hx rfl (hb hby own_d5_46) rfl ?_
    show Steps p.tables e below (s₁.setTop (mkF m 47 #[.val (.long q0), .second, .val (.int v15)] [(.long q0)])) _
    refine X0.ldc2Long hx hown (mvT hZ (hw _ (List.mem_of_getElem? (i := 24) rfl))) (g := (mkF m 47 #[.val (.long q0), .second, .val (.int v15)] [(.long q0)])) rfl (hb hby own_d5_47) _ ?_
    show Steps p.tables e below (s₁.setTop (mkF m 50 #[.val (.long q0), .second, .val (.int v15)] [(.long (11881376 : Int64)), (.long q0)])) _
    refine XS.lcmp X0.here hx rfl (hb hby own_d5_50) rfl ?_
    show Steps p.tables e below (s₁.setTop (mkF m 51 #[.val (.long q0), .second, .val (.int v15)] [(.int (lcmpW q0 (11881376 : Int64)))])) _
    exact q)
  obtain ⟨v19, hv19, k20⟩ : ∃ (v19 : Int32), (v19 = (if q0 < (11881376 : Int64) then v15 else (v15 + (1 : Int32)))) ∧ own_To p e below s₁ (mkF m 57 #[.val (.long q0), .second, .val (.int v19)] []) s₁ (mkF m 0 #[.val (.long q0), .second, .unset] []) := by
    by_cases hm18 : q0 < (11881376 : Int64)
    ·
      refine ⟨v15, by rw [if_pos hm18], fun t q => k17 t (?_)⟩
      refine XS.ifYes X0.here hx rfl (pc0 := 51) (pc' := 57) rfl (hb hby own_d5_51) rfl ((if0 _ _).trans (tlt ((lw_lt q0 (11881376 : Int64)).mpr hm18)).1) (by decide) (by decide) ?_
      show Steps p.tables e below (s₁.setTop (mkF m 57 #[.val (.long q0), .second, .val (.int v15)] [])) _
      exact q
    ·
      refine ⟨(v15 + (1 : Int32)), by rw [if_neg hm18], fun t q => k17 t (?_)⟩
      refine XS.ifNo X0.here hx rfl (hb hby own_d5_51) rfl ((if0 _ _).trans (flt (mt (lw_lt q0 (11881376 : Int64)).mp hm18)).1) ?_
      show Steps p.tables e below (s₁.setTop (mkF m 54 #[.val (.long q0), .second, .val (.int v15)] [])) _
      refine XS.iinc X0.here hx rfl (hb hby own_d5_54) rfl (l' := #[.val (.long q0), .second, .val (.int (v15 + (1 : Int32)))]) rfl ?_
      show Steps p.tables e below (s₁.setTop (mkF m 57 #[.val (.long q0), .second, .val (.int (v15 + (1 : Int32)))] [])) _
      exact q
  have k21 : own_To p e below s₁ (mkF m 62 #[.val (.long q0), .second, .val (.int v19)] [(.int (lcmpW q0 (308915776 : Int64)))]) s₁ (mkF m 0 #[.val (.long q0), .second, .unset] []) := fun t q => k20 t (by
    refine XS.lloadN X0.here hx rfl (hb hby own_d5_57) rfl ?_
    show Steps p.tables e below (s₁.setTop (mkF m 58 #[.val (.long q0), .second, .val (.int v19)] [(.long q0)])) _
    refine X0.ldc2Long hx hown (mvT hZ (hw _ (List.mem_of_getElem? (i := 25) rfl))) (g := (mkF m 58 #[.val (.long q0), .second, .val (.int v19)] [(.long q0)])) rfl (hb hby own_d5_58) _ ?_
    show Steps p.tables e below (s₁.setTop (mkF m 61 #[.val (.long q0), .second, .val (.int v19)] [(.long (308915776 : Int64)), (.long q0)])) _
    refine XS.lcmp X0.here hx rfl (hb hby own_d5_61) rfl ?_
    show Steps p.tables e below (s₁.setTop (mkF m 62 #[.val (.long q0), .second, .val (.int v19)] [(.int (lcmpW q0 (308915776 : Int64)))])) _
    exact q)
  obtain ⟨v23, hv23, k24⟩ : ∃ (v23 : Int32), (v23 = (if q0 < (308915776 : Int64) then v19 else (v19 + (1 : Int32)))) ∧ own_To p e below s₁ (mkF m 68 #[.val (.long q0), .second, .val (.int v23)] []) s₁ (mkF m 0 #[.val (.long q0), .second, .unset] []) := by
    by_cases hm22 : q0 < (308915776 : Int64)
    ·
      refine ⟨v19, by rw [if_pos hm22], fun t q => k21 t (?_)⟩
      refine XS.ifYes X0.here hx rfl (pc0 := 62) (pc' := 68) rfl (hb hby own_d5_62) rfl ((if0 _ _).trans (tlt ((lw_lt q0 (308915776 : Int64)).mpr hm22)).1) (by decide) (by decide) ?_
      show Steps p.tables e below (s₁.setTop (mkF m 68 #[.val (.long q0), .second, .val (.int v19)] [])) _
      exact q
    ·
      refine ⟨(v19 + (1 : Int32)), by rw [if_neg hm22], fun t q => k21 t (?_)⟩
      refine XS.ifNo X0.here hx rfl (hb hby own_d5_62) rfl ((if0 _ _).trans (flt (mt (lw_lt q0 (308915776 : Int64)).mp hm22)).1) ?_
      show Steps p.tables e below (s₁.setTop (mkF m 65 #[.val (.long q0), .second, .val (.int v19)] [])) _
      refine XS.iinc X0.here hx rfl (hb hby own_d5_65) rfl (l' := #[.val (.long q0), .second, .val (.int (v19 + (1 : Int32)))]) rfl ?_
      show Steps p.tables e below (s₁.setTop (mkF m 68 #[.val (.long q0), .second, .val (.int (v19 + (1 : Int32)))] [])) _
      exact q
  have k25 : own_To p e below s₁ (mkF m 73 #[.val (.long q0), .second, .val (.int v23)] [(.int (lcmpW q0 (8031810176 : Int64)))]) s₁ (mkF m 0 #[.val (.long q0), .second, .unset] []) := fun t q => k24 t (by
    refine XS.lloadN X0.here hx rfl (hb hby own_d5_68) rfl ?_
    show Steps p.tables e below (s₁.setTop (mkF m 69 #[.val (.long q0), .second, .val (.int v23)] [(.long q0)])) _
    refine X0.ldc2Long hx hown (mvT hZ (hw _ (List.mem_of_getElem? (i := 26) rfl))) (g := (mkF m 69 #[.val (.long q0), .second, .val (.int v23)] [(.long q0)])) rfl (hb hby own_d5_69) _ ?_
    show Steps p.tables e below (s₁.setTop (mkF m 72 #[.val (.long q0), .second, .val (.int v23)] [(.long (8031810176 : Int64)), (.long q0)])) _
    refine XS.lcmp X0.here hx rfl (hb hby own_d5_72) rfl ?_
    show Steps p.tables e below (s₁.setTop (mkF m 73 #[.val (.long q0), .second, .val (.int v23)] [(.int (lcmpW q0 (8031810176 : Int64)))])) _
    exact q)
  obtain ⟨v27, hv27, k28⟩ : ∃ (v27 : Int32), (v27 = (if q0 < (8031810176 : Int64) then v23 else (v23 + (1 : Int32)))) ∧ own_To p e below s₁ (mkF m 79 #[.val (.long q0), .second, .val (.int v27)] []) s₁ (mkF m 0 #[.val (.long q0), .second, .unset] []) := by
    by_cases hm26 : q0 < (8031810176 : Int64)
    ·
      refine ⟨v23, by rw [if_pos hm26], fun t q => k25 t (?_)⟩
      refine XS.ifYes X0.here hx rfl (pc0 := 73) (pc' := 79) rfl (hb hby own_d5_73) rfl ((if0 _ _).trans (tlt ((lw_lt q0 (8031810176 : Int64)).mpr hm26)).1) (by decide) (by decide) ?_
      show Steps p.tables e below (s₁.setTop (mkF m 79 #[.val (.long q0), .second, .val (.int v23)] [])) _
      exact q
    ·
      refine ⟨(v23 + (1 : Int32)), by rw [if_neg hm26], fun t q => k25 t (?_)⟩
      refine XS.ifNo X0.here hx rfl (hb hby own_d5_73) rfl ((if0 _ _).trans (flt (mt (lw_lt q0 (8031810176 : Int64)).mp hm26)).1) ?_
      show Steps p.tables e below (s₁.setTop (mkF m 76 #[.val (.long q0), .second, .val (.int v23)] [])) _
      refine XS.iinc X0.here hx rfl (hb hby own_d5_76) rfl (l' := #[.val (.long q0), .second, .val (.int (v23 + (1 : Int32)))]) rfl ?_
      show Steps p.tables e below (s₁.setTop (mkF m 79 #[.val (.long q0), .second, .val (.int (v23 + (1 : Int32)))] [])) _
      exact q
  have k29 : own_To p e below s₁ (mkF m 84 #[.val (.long q0), .second, .val (.int v27)] [(.int (lcmpW q0 (208827064576 : Int64)))]) s₁ (mkF m 0 #[.val (.long q0), .second, .unset] []) := fun t q => k28 t (by
    refine XS.lloadN X0.here hx rfl (hb hby own_d5_79) rfl ?_
    show Steps p.tables e below (s₁.setTop (mkF m 80 #[.val (.long q0), .second, .val (.int v27)] [(.long q0)])) _
    refine X0.ldc2Long hx hown (mvT hZ (hw _ (List.mem_of_getElem? (i := 27) rfl))) (g := (mkF m 80 #[.val (.long q0), .second, .val (.int v27)] [(.long q0)])) rfl (hb hby own_d5_80) _ ?_
    show Steps p.tables e below (s₁.setTop (mkF m 83 #[.val (.long q0), .second, .val (.int v27)] [(.long (208827064576 : Int64)), (.long q0)])) _
    refine XS.lcmp X0.here hx rfl (hb hby own_d5_83) rfl ?_
    show Steps p.tables e below (s₁.setTop (mkF m 84 #[.val (.long q0), .second, .val (.int v27)] [(.int (lcmpW q0 (208827064576 : Int64)))])) _
    exact q)
  obtain ⟨v31, hv31, k32⟩ : ∃ (v31 : Int32), (v31 = (if q0 < (208827064576 : Int64) then v27 else (v27 + (1 : Int32)))) ∧ own_To p e below s₁ (mkF m 90 #[.val (.long q0), .second, .val (.int v31)] []) s₁ (mkF m 0 #[.val (.long q0), .second, .unset] []) := by
    by_cases hm30 : q0 < (208827064576 : Int64)
    ·
      refine ⟨v27, by rw [if_pos hm30], fun t q => k29 t (?_)⟩
      refine XS.ifYes X0.here hx rfl (pc0 := 84) (pc' := 90) rfl (hb hby own_d5_84) rfl ((if0 _ _).trans (tlt ((lw_lt q0 (208827064576 : Int64)).mpr hm30)).1) (by decide) (by decide) ?_
      show Steps p.tables e below (s₁.setTop (mkF m 90 #[.val (.long q0), .second, .val (.int v27)] [])) _
      exact q
    ·
      refine ⟨(v27 + (1 : Int32)), by rw [if_neg hm30], fun t q => k29 t (?_)⟩
      refine XS.ifNo X0.here hx rfl (hb hby own_d5_84) rfl ((if0 _ _).trans (flt (mt (lw_lt q0 (208827064576 : Int64)).mp hm30)).1) ?_
      show Steps p.tables e below (s₁.setTop (mkF m 87 #[.val (.long q0), .second, .val (.int v27)] [])) _
      refine XS.iinc X0.here hx rfl (hb hby own_d5_87) rfl (l' := #[.val (.long q0), .second, .val (.int (v27 + (1 : Int32)))]) rfl ?_
      show Steps p.tables e below (s₁.setTop (mkF m 90 #[.val (.long q0), .second, .val (.int (v27 + (1 : Int32)))] [])) _
      exact q
  have k33 : own_To p e below s₁ (mkF m 95 #[.val (.long q0), .second, .val (.int v31)] [(.int (lcmpW q0 (5429503678976 : Int64)))]) s₁ (mkF m 0 #[.val (.long q0), .second, .unset] []) := fun t q => k32 t (by
    refine XS.lloadN X0.here hx rfl (hb hby own_d5_90) rfl ?_
    show Steps p.tables e below (s₁.setTop (mkF m 91 #[.val (.long q0), .second, .val (.int v31)] [(.long q0)])) _
    refine X0.ldc2Long hx hown (mvT hZ (hw _ (List.mem_of_getElem? (i := 28) rfl))) (g := (mkF m 91 #[.val (.long q0), .second, .val (.int v31)] [(.long q0)])) rfl (hb hby own_d5_91) _ ?_
    show Steps p.tables e below (s₁.setTop (mkF m 94 #[.val (.long q0), .second, .val (.int v31)] [(.long (5429503678976 : Int64)), (.long q0)])) _
    refine XS.lcmp X0.here hx rfl (hb hby own_d5_94) rfl ?_
    show Steps p.tables e below (s₁.setTop (mkF m 95 #[.val (.long q0), .second, .val (.int v31)] [(.int (lcmpW q0 (5429503678976 : Int64)))])) _
    exact q)
  obtain ⟨v35, hv35, k36⟩ : ∃ (v35 : Int32), (v35 = (if q0 < (5429503678976 : Int64) then v31 else (v31 + (1 : Int32)))) ∧ own_To p e below s₁ (mkF m 101 #[.val (.long q0), .second, .val (.int v35)] []) s₁ (mkF m 0 #[.val (.long q0), .second, .unset] []) := by
    by_cases hm34 : q0 < (5429503678976 : Int64)
    ·
      refine ⟨v31, by rw [if_pos hm34], fun t q => k33 t (?_)⟩
      refine XS.ifYes X0.here hx rfl (pc0 := 95) (pc' := 101) rfl (hb hby own_d5_95) rfl ((if0 _ _).trans (tlt ((lw_lt q0 (5429503678976 : Int64)).mpr hm34)).1) (by decide) (by decide) ?_
      show Steps p.tables e below (s₁.setTop (mkF m 101 #[.val (.long q0), .second, .val (.int v31)] [])) _
      exact q
    ·
      refine ⟨(v31 + (1 : Int32)), by rw [if_neg hm34], fun t q => k33 t (?_)⟩
      refine XS.ifNo X0.here hx rfl (hb hby own_d5_95) rfl ((if0 _ _).trans (flt (mt (lw_lt q0 (5429503678976 : Int64)).mp hm34)).1) ?_
      show Steps p.tables e below (s₁.setTop (mkF m 98 #[.val (.long q0), .second, .val (.int v31)] [])) _
      refine XS.iinc X0.here hx rfl (hb hby own_d5_98) rfl (l' := #[.val (.long q0), .second, .val (.int (v31 + (1 : Int32)))]) rfl ?_
      show Steps p.tables e below (s₁.setTop (mkF m 101 #[.val (.long q0), .second, .val (.int (v31 + (1 : Int32)))] [])) _
      exact q
  have k37 : own_To p e below s₁ (mkF m 106 #[.val (.long q0), .second, .val (.int v35)] [(.int (lcmpW q0 (141167095653376 : Int64)))]) s₁ (mkF m 0 #[.val (.long q0), .second, .unset] []) := fun t q => k36 t (by
    refine XS.lloadN X0.here hx rfl (hb hby own_d5_101) rfl ?_
    show Steps p.tables e below (s₁.setTop (mkF m 102 #[.val (.long q0), .second, .val (.int v35)] [(.long q0)])) _
    refine X0.ldc2Long hx hown (mvT hZ (hw _ (List.mem_of_getElem? (i := 29) rfl))) (g := (mkF m 102 #[.val (.long q0), .second, .val (.int v35)] [(.long q0)])) rfl (hb hby own_d5_102) _ ?_
    show Steps p.tables e below (s₁.setTop (mkF m 105 #[.val (.long q0), .second, .val (.int v35)] [(.long (141167095653376 : Int64)), (.long q0)])) _
    refine XS.lcmp X0.here hx rfl (hb hby own_d5_105) rfl ?_
    show Steps p.tables e below (s₁.setTop (mkF m 106 #[.val (.long q0), .second, .val (.int v35)] [(.int (lcmpW q0 (141167095653376 : Int64)))])) _
    exact q)
  obtain ⟨v39, hv39, k40⟩ : ∃ (v39 : Int32), (v39 = (if q0 < (141167095653376 : Int64) then v35 else (v35 + (1 : Int32)))) ∧ own_To p e below s₁ (mkF m 112 #[.val (.long q0), .second, .val (.int v39)] []) s₁ (mkF m 0 #[.val (.long q0), .second, .unset] []) := by
    by_cases hm38 : q0 < (141167095653376 : Int64)
    ·
      refine ⟨v35, by rw [if_pos hm38], fun t q => k37 t (?_)⟩
      refine XS.ifYes X0.here hx rfl (pc0 := 106) (pc' := 112) rfl (hb hby own_d5_106) rfl ((if0 _ _).trans (tlt ((lw_lt q0 (141167095653376 : Int64)).mpr hm38)).1) (by decide) (by decide) ?_
      show Steps p.tables e below (s₁.setTop (mkF m 112 #[.val (.long q0), .second, .val (.int v35)] [])) _
      exact q
    ·
      refine ⟨(v35 + (1 : Int32)), by rw [if_neg hm38], fun t q => k37 t (?_)⟩
      refine XS.ifNo X0.here hx rfl (hb hby own_d5_106) rfl ((if0 _ _).trans (flt (mt (lw_lt q0 (141167095653376 : Int64)).mp hm38)).1) ?_
      show Steps p.tables e below (s₁.setTop (mkF m 109 #[.val (.long q0), .second, .val (.int v35)] [])) _
      refine XS.iinc X0.here hx rfl (hb hby own_d5_109) rfl (l' := #[.val (.long q0), .second, .val (.int (v35 + (1 : Int32)))]) rfl ?_
      show Steps p.tables e below (s₁.setTop (mkF m 112 #[.val (.long q0), .second, .val (.int (v35 + (1 : Int32)))] [])) _
      exact q
  have k41 : own_To p e below s₁ (mkF m 117 #[.val (.long q0), .second, .val (.int v39)] [(.int (lcmpW q0 (3670344486987776 : Int64)))]) s₁ (mkF m 0 #[.val (.long q0), .second, .unset] []) := fun t q => k40 t (by
    refine XS.lloadN X0.here hx rfl (hb hby own_d5_112) rfl ?_
    show Steps p.tables e below (s₁.setTop (mkF m 113 #[.val (.long q0), .second, .val (.int v39)] [(.long q0)])) _
    refine X0.ldc2Long hx hown (mvT hZ (hw _ (List.mem_of_getElem? (i := 30) rfl))) (g := (mkF m 113 #[.val (.long q0), .second, .val (.int v39)] [(.long q0)])) rfl (hb hby own_d5_113) _ ?_
    show Steps p.tables e below (s₁.setTop (mkF m 116 #[.val (.long q0), .second, .val (.int v39)] [(.long (3670344486987776 : Int64)), (.long q0)])) _
    refine XS.lcmp X0.here hx rfl (hb hby own_d5_116) rfl ?_
    show Steps p.tables e below (s₁.setTop (mkF m 117 #[.val (.long q0), .second, .val (.int v39)] [(.int (lcmpW q0 (3670344486987776 : Int64)))])) _
    exact q)
  obtain ⟨v43, hv43, k44⟩ : ∃ (v43 : Int32), (v43 = (if q0 < (3670344486987776 : Int64) then v39 else (v39 + (1 : Int32)))) ∧ own_To p e below s₁ (mkF m 123 #[.val (.long q0), .second, .val (.int v43)] []) s₁ (mkF m 0 #[.val (.long q0), .second, .unset] []) := by
    by_cases hm42 : q0 < (3670344486987776 : Int64)
    ·
      refine ⟨v39, by rw [if_pos hm42], fun t q => k41 t (?_)⟩
      refine XS.ifYes X0.here hx rfl (pc0 := 117) (pc' := 123) rfl (hb hby own_d5_117) rfl ((if0 _ _).trans (tlt ((lw_lt q0 (3670344486987776 : Int64)).mpr hm42)).1) (by decide) (by decide) ?_
      show Steps p.tables e below (s₁.setTop (mkF m 123 #[.val (.long q0), .second, .val (.int v39)] [])) _
      exact q
    ·
      refine ⟨(v39 + (1 : Int32)), by rw [if_neg hm42], fun t q => k41 t (?_)⟩
      refine XS.ifNo X0.here hx rfl (hb hby own_d5_117) rfl ((if0 _ _).trans (flt (mt (lw_lt q0 (3670344486987776 : Int64)).mp hm42)).1) ?_
      show Steps p.tables e below (s₁.setTop (mkF m 120 #[.val (.long q0), .second, .val (.int v39)] [])) _
      refine XS.iinc X0.here hx rfl (hb hby own_d5_120) rfl (l' := #[.val (.long q0), .second, .val (.int (v39 + (1 : Int32)))]) rfl ?_
      show Steps p.tables e below (s₁.setTop (mkF m 123 #[.val (.long q0), .second, .val (.int (v39 + (1 : Int32)))] [])) _
      exact q
  have k45 : own_To p e below s₁ (mkF m 128 #[.val (.long q0), .second, .val (.int v43)] [(.int (lcmpW q0 (95428956661682176 : Int64)))]) s₁ (mkF m 0 #[.val (.long q0), .second, .unset] []) := fun t q => k44 t (by
    refine XS.lloadN X0.here hx rfl (hb hby own_d5_123) rfl ?_
    show Steps p.tables e below (s₁.setTop (mkF m 124 #[.val (.long q0), .second, .val (.int v43)] [(.long q0)])) _
    refine X0.ldc2Long hx hown (mvT hZ (hw _ (List.mem_of_getElem? (i := 31) rfl))) (g := (mkF m 124 #[.val (.long q0), .second, .val (.int v43)] [(.long q0)])) rfl (hb hby own_d5_124) _ ?_
    show Steps p.tables e below (s₁.setTop (mkF m 127 #[.val (.long q0), .second, .val (.int v43)] [(.long (95428956661682176 : Int64)), (.long q0)])) _
    refine XS.lcmp X0.here hx rfl (hb hby own_d5_127) rfl ?_
    show Steps p.tables e below (s₁.setTop (mkF m 128 #[.val (.long q0), .second, .val (.int v43)] [(.int (lcmpW q0 (95428956661682176 : Int64)))])) _
    exact q)
  obtain ⟨v47, hv47, k48⟩ : ∃ (v47 : Int32), (v47 = (if q0 < (95428956661682176 : Int64) then v43 else (v43 + (1 : Int32)))) ∧ own_To p e below s₁ (mkF m 134 #[.val (.long q0), .second, .val (.int v47)] []) s₁ (mkF m 0 #[.val (.long q0), .second, .unset] []) := by
    by_cases hm46 : q0 < (95428956661682176 : Int64)
    ·
      refine ⟨v43, by rw [if_pos hm46], fun t q => k45 t (?_)⟩
      refine XS.ifYes X0.here hx rfl (pc0 := 128) (pc' := 134) rfl (hb hby own_d5_128) rfl ((if0 _ _).trans (tlt ((lw_lt q0 (95428956661682176 : Int64)).mpr hm46)).1) (by decide) (by decide) ?_
      show Steps p.tables e below (s₁.setTop (mkF m 134 #[.val (.long q0), .second, .val (.int v43)] [])) _
      exact q
    ·
      refine ⟨(v43 + (1 : Int32)), by rw [if_neg hm46], fun t q => k45 t (?_)⟩
      refine XS.ifNo X0.here hx rfl (hb hby own_d5_128) rfl ((if0 _ _).trans (flt (mt (lw_lt q0 (95428956661682176 : Int64)).mp hm46)).1) ?_
      show Steps p.tables e below (s₁.setTop (mkF m 131 #[.val (.long q0), .second, .val (.int v43)] [])) _
      refine XS.iinc X0.here hx rfl (hb hby own_d5_131) rfl (l' := #[.val (.long q0), .second, .val (.int (v43 + (1 : Int32)))]) rfl ?_
      show Steps p.tables e below (s₁.setTop (mkF m 134 #[.val (.long q0), .second, .val (.int (v43 + (1 : Int32)))] [])) _
      exact q
  have k49 : own_To p e below s₁ (mkF m 139 #[.val (.long q0), .second, .val (.int v47)] [(.int (lcmpW q0 (2481152873203736576 : Int64)))]) s₁ (mkF m 0 #[.val (.long q0), .second, .unset] []) := fun t q => k48 t (by
    refine XS.lloadN X0.here hx rfl (hb hby own_d5_134) rfl ?_
    show Steps p.tables e below (s₁.setTop (mkF m 135 #[.val (.long q0), .second, .val (.int v47)] [(.long q0)])) _
    refine X0.ldc2Long hx hown (mvT hZ (hw _ (List.mem_of_getElem? (i := 32) rfl))) (g := (mkF m 135 #[.val (.long q0), .second, .val (.int v47)] [(.long q0)])) rfl (hb hby own_d5_135) _ ?_
    show Steps p.tables e below (s₁.setTop (mkF m 138 #[.val (.long q0), .second, .val (.int v47)] [(.long (2481152873203736576 : Int64)), (.long q0)])) _
    refine XS.lcmp X0.here hx rfl (hb hby own_d5_138) rfl ?_
    show Steps p.tables e below (s₁.setTop (mkF m 139 #[.val (.long q0), .second, .val (.int v47)] [(.int (lcmpW q0 (2481152873203736576 : Int64)))])) _
    exact q)
  obtain ⟨v51, hv51, k52⟩ : ∃ (v51 : Int32), (v51 = (if q0 < (2481152873203736576 : Int64) then v47 else (v47 + (1 : Int32)))) ∧ own_To p e below s₁ (mkF m 145 #[.val (.long q0), .second, .val (.int v51)] []) s₁ (mkF m 0 #[.val (.long q0), .second, .unset] []) := by
    by_cases hm50 : q0 < (2481152873203736576 : Int64)
    ·
      refine ⟨v47, by rw [if_pos hm50], fun t q => k49 t (?_)⟩
      refine XS.ifYes X0.here hx rfl (pc0 := 139) (pc' := 145) rfl (hb hby own_d5_139) rfl ((if0 _ _).trans (tlt ((lw_lt q0 (2481152873203736576 : Int64)).mpr hm50)).1) (by decide) (by decide) ?_
      show Steps p.tables e below (s₁.setTop (mkF m 145 #[.val (.long q0), .second, .val (.int v47)] [])) _
      exact q
    ·
      refine ⟨(v47 + (1 : Int32)), by rw [if_neg hm50], fun t q => k49 t (?_)⟩
      refine XS.ifNo X0.here hx rfl (hb hby own_d5_139) rfl ((if0 _ _).trans (flt (mt (lw_lt q0 (2481152873203736576 : Int64)).mp hm50)).1) ?_
      show Steps p.tables e below (s₁.setTop (mkF m 142 #[.val (.long q0), .second, .val (.int v47)] [])) _
      refine XS.iinc X0.here hx rfl (hb hby own_d5_142) rfl (l' := #[.val (.long q0), .second, .val (.int (v47 + (1 : Int32)))]) rfl ?_
      show Steps p.tables e below (s₁.setTop (mkF m 145 #[.val (.long q0), .second, .val (.int (v47 + (1 : Int32)))] [])) _
      exact q
  have k53 : own_To p e below s₁ (mkF m 146 #[.val (.long q0), .second, .val (.int v51)] [(.int v51)]) s₁ (mkF m 0 #[.val (.long q0), .second, .unset] []) := fun t q => k52 t (by
    refine XS.iloadN X0.here hx rfl (hb hby own_d5_145) rfl ?_
    show Steps p.tables e below (s₁.setTop (mkF m 146 #[.val (.long q0), .second, .val (.int v51)] [(.int v51)])) _
    exact q)
  obtain ⟨fs, hr, hrun, hended, hW, hsame⟩ := X0.leave (v := some (.int v51)) (fun h => by rw [Bd.returns] at h; cases h)
  refine ⟨_, _, k0 _ (k53 _ ?_), hrun, hended, _, _, rfl, ?_, ⟨_, rfl⟩, hW, hsame.mono (by decide) (by decide)⟩
  · show Steps p.tables e below (s₁.setTop (mkF m 146 #[.val (.long q0), .second, .val (.int v51)] [(.int v51)])) _
    exact retOut X0 hx Bd.returns rfl (Or.inl ⟨rfl, Or.inl rfl, _, rfl⟩) (hb hby own_d5_146) hr
  · show Q5 Z q0 h0 n0 _ s₁.heap _
    rw [e0]
    exact ⟨by rw [hv51, hv47, hv43, hv39, hv35, hv31, hv27, hv23, hv19, hv15, hv11, hv7, hv3]; rfl, N0, rfl⟩
set_option maxRecDepth 65536 in
set_option maxHeartbeats 40000000 in
theorem own_len (c : Int64) (h : 0 ≤ c.toInt) : own_CL c = own_DG c := by
  have d := (c_ldiv c 26 26 rfl (by decide)).1 h
  have r := (rng64 c).2
  have e : (c.toInt / 26).toNat = c.toInt.toNat / 26 := by omega
  have i : c.toInt = (c.toInt.toNat : Int) := by omega
  unfold own_CL own_DG own_dI own_st
  rw [d, e]
  simp only [Int64.lt_iff_toInt_lt, Int64.reduceToInt]
  rw [i] at r ⊢
  simp only [Int.toNat_natCast]
  generalize c.toInt.toNat = z at r
  by_cases h6 : z < 8031810176
  ·
    by_cases h3 : z < 456976
    ·
      by_cases h1 : z < 676
      ·
        by_cases h0 : z < 26
        ·
          rw [own_dg, if_pos (by omega)]
          rw [if_pos (by omega), if_pos (by omega), if_pos (by omega), if_pos (by omega), if_pos (by omega), if_pos (by omega), if_pos (by omega), if_pos (by omega), if_pos (by omega), if_pos (by omega), if_pos (by omega), if_pos (by omega), if_pos (by omega)]
          rfl
        ·
          rw [own_dg, if_neg (by omega), own_dg, if_pos (by omega)]
          rw [if_pos (by omega), if_pos (by omega), if_pos (by omega), if_pos (by omega), if_pos (by omega), if_pos (by omega), if_pos (by omega), if_pos (by omega), if_pos (by omega), if_pos (by omega), if_pos (by omega), if_pos (by omega), if_neg (by omega)]
          rfl
      ·
        by_cases h2 : z < 17576
        ·
          rw [own_dg, if_neg (by omega), own_dg, if_neg (by omega), own_dg, if_pos (by omega)]
          rw [if_pos (by omega), if_pos (by omega), if_pos (by omega), if_pos (by omega), if_pos (by omega), if_pos (by omega), if_pos (by omega), if_pos (by omega), if_pos (by omega), if_pos (by omega), if_pos (by omega), if_neg (by omega), if_neg (by omega)]
          rfl
        ·
          rw [own_dg, if_neg (by omega), own_dg, if_neg (by omega), own_dg, if_neg (by omega), own_dg, if_pos (by omega)]
          rw [if_pos (by omega), if_pos (by omega), if_pos (by omega), if_pos (by omega), if_pos (by omega), if_pos (by omega), if_pos (by omega), if_pos (by omega), if_pos (by omega), if_pos (by omega), if_neg (by omega), if_neg (by omega), if_neg (by omega)]
          rfl
    ·
      by_cases h5 : z < 308915776
      ·
        by_cases h4 : z < 11881376
        ·
          rw [own_dg, if_neg (by omega), own_dg, if_neg (by omega), own_dg, if_neg (by omega), own_dg, if_neg (by omega), own_dg, if_pos (by omega)]
          rw [if_pos (by omega), if_pos (by omega), if_pos (by omega), if_pos (by omega), if_pos (by omega), if_pos (by omega), if_pos (by omega), if_pos (by omega), if_pos (by omega), if_neg (by omega), if_neg (by omega), if_neg (by omega), if_neg (by omega)]
          rfl
        ·
          rw [own_dg, if_neg (by omega), own_dg, if_neg (by omega), own_dg, if_neg (by omega), own_dg, if_neg (by omega), own_dg, if_neg (by omega), own_dg, if_pos (by omega)]
          rw [if_pos (by omega), if_pos (by omega), if_pos (by omega), if_pos (by omega), if_pos (by omega), if_pos (by omega), if_pos (by omega), if_pos (by omega), if_neg (by omega), if_neg (by omega), if_neg (by omega), if_neg (by omega), if_neg (by omega)]
          rfl
      ·
        rw [own_dg, if_neg (by omega), own_dg, if_neg (by omega), own_dg, if_neg (by omega), own_dg, if_neg (by omega), own_dg, if_neg (by omega), own_dg, if_neg (by omega), own_dg, if_pos (by omega)]
        rw [if_pos (by omega), if_pos (by omega), if_pos (by omega), if_pos (by omega), if_pos (by omega), if_pos (by omega), if_pos (by omega), if_neg (by omega), if_neg (by omega), if_neg (by omega), if_neg (by omega), if_neg (by omega), if_neg (by omega)]
        rfl
  ·
    by_cases h10 : z < 3670344486987776
    ·
      by_cases h8 : z < 5429503678976
      ·
        by_cases h7 : z < 208827064576
        ·
          rw [own_dg, if_neg (by omega), own_dg, if_neg (by omega), own_dg, if_neg (by omega), own_dg, if_neg (by omega), own_dg, if_neg (by omega), own_dg, if_neg (by omega), own_dg, if_neg (by omega), own_dg, if_pos (by omega)]
          rw [if_pos (by omega), if_pos (by omega), if_pos (by omega), if_pos (by omega), if_pos (by omega), if_pos (by omega), if_neg (by omega), if_neg (by omega), if_neg (by omega), if_neg (by omega), if_neg (by omega), if_neg (by omega), if_neg (by omega)]
          rfl
        ·
          rw [own_dg, if_neg (by omega), own_dg, if_neg (by omega), own_dg, if_neg (by omega), own_dg, if_neg (by omega), own_dg, if_neg (by omega), own_dg, if_neg (by omega), own_dg, if_neg (by omega), own_dg, if_neg (by omega), own_dg, if_pos (by omega)]
          rw [if_pos (by omega), if_pos (by omega), if_pos (by omega), if_pos (by omega), if_pos (by omega), if_neg (by omega), if_neg (by omega), if_neg (by omega), if_neg (by omega), if_neg (by omega), if_neg (by omega), if_neg (by omega), if_neg (by omega)]
          rfl
      ·
        by_cases h9 : z < 141167095653376
        ·
          rw [own_dg, if_neg (by omega), own_dg, if_neg (by omega), own_dg, if_neg (by omega), own_dg, if_neg (by omega), own_dg, if_neg (by omega), own_dg, if_neg (by omega), own_dg, if_neg (by omega), own_dg, if_neg (by omega), own_dg, if_neg (by omega), own_dg, if_pos (by omega)]
          rw [if_pos (by omega), if_pos (by omega), if_pos (by omega), if_pos (by omega), if_neg (by omega), if_neg (by omega), if_neg (by omega), if_neg (by omega), if_neg (by omega), if_neg (by omega), if_neg (by omega), if_neg (by omega), if_neg (by omega)]
          rfl
        ·
          rw [own_dg, if_neg (by omega), own_dg, if_neg (by omega), own_dg, if_neg (by omega), own_dg, if_neg (by omega), own_dg, if_neg (by omega), own_dg, if_neg (by omega), own_dg, if_neg (by omega), own_dg, if_neg (by omega), own_dg, if_neg (by omega), own_dg, if_neg (by omega), own_dg, if_pos (by omega)]
          rw [if_pos (by omega), if_pos (by omega), if_pos (by omega), if_neg (by omega), if_neg (by omega), if_neg (by omega), if_neg (by omega), if_neg (by omega), if_neg (by omega), if_neg (by omega), if_neg (by omega), if_neg (by omega), if_neg (by omega)]
          rfl
    ·
      by_cases h12 : z < 2481152873203736576
      ·
        by_cases h11 : z < 95428956661682176
        ·
          rw [own_dg, if_neg (by omega), own_dg, if_neg (by omega), own_dg, if_neg (by omega), own_dg, if_neg (by omega), own_dg, if_neg (by omega), own_dg, if_neg (by omega), own_dg, if_neg (by omega), own_dg, if_neg (by omega), own_dg, if_neg (by omega), own_dg, if_neg (by omega), own_dg, if_neg (by omega), own_dg, if_pos (by omega)]
          rw [if_pos (by omega), if_pos (by omega), if_neg (by omega), if_neg (by omega), if_neg (by omega), if_neg (by omega), if_neg (by omega), if_neg (by omega), if_neg (by omega), if_neg (by omega), if_neg (by omega), if_neg (by omega), if_neg (by omega)]
          rfl
        ·
          rw [own_dg, if_neg (by omega), own_dg, if_neg (by omega), own_dg, if_neg (by omega), own_dg, if_neg (by omega), own_dg, if_neg (by omega), own_dg, if_neg (by omega), own_dg, if_neg (by omega), own_dg, if_neg (by omega), own_dg, if_neg (by omega), own_dg, if_neg (by omega), own_dg, if_neg (by omega), own_dg, if_neg (by omega), own_dg, if_pos (by omega)]
          rw [if_pos (by omega), if_neg (by omega), if_neg (by omega), if_neg (by omega), if_neg (by omega), if_neg (by omega), if_neg (by omega), if_neg (by omega), if_neg (by omega), if_neg (by omega), if_neg (by omega), if_neg (by omega), if_neg (by omega)]
          rfl
      ·
        rw [own_dg, if_neg (by omega), own_dg, if_neg (by omega), own_dg, if_neg (by omega), own_dg, if_neg (by omega), own_dg, if_neg (by omega), own_dg, if_neg (by omega), own_dg, if_neg (by omega), own_dg, if_neg (by omega), own_dg, if_neg (by omega), own_dg, if_neg (by omega), own_dg, if_neg (by omega), own_dg, if_neg (by omega), own_dg, if_neg (by omega), own_dg, if_pos (by omega)]
        rw [if_neg (by omega), if_neg (by omega), if_neg (by omega), if_neg (by omega), if_neg (by omega), if_neg (by omega), if_neg (by omega), if_neg (by omega), if_neg (by omega), if_neg (by omega), if_neg (by omega), if_neg (by omega), if_neg (by omega)]
        rfl
theorem own_pd0 : parseMethodDescriptor "(J)I" = some ⟨[.long], some .int⟩ := by decide +kernel
theorem own_d3_0 : decode prog_2_method_4_code 0 = .ok (.iload 4, 2) := by decide +kernel
theorem own_d3_2 : decode prog_2_method_4_code 2 = .ok (.ifCond .eq 10, 3) := by decide +kernel
theorem own_d3_5 : decode prog_2_method_4_code 5 = .ok (.iload 5, 2) := by decide +kernel
theorem own_d3_7 : decode prog_2_method_4_code 7 = .ok (.ifCond .eq 5, 3) := by decide +kernel
theorem own_d3_10 : decode prog_2_method_4_code 10 = .ok (.iconst 0, 1) := by decide +kernel
theorem own_d3_11 : decode prog_2_method_4_code 11 = .ok (.ireturn, 1) := by decide +kernel
theorem own_d3_12 : decode prog_2_method_4_code 12 = .ok (.iload 4, 2) := by decide +kernel
theorem own_d3_14 : decode prog_2_method_4_code 14 = .ok (.ifCond .ne 8, 3) := by decide +kernel
theorem own_d3_17 : decode prog_2_method_4_code 17 = .ok (.iload 5, 2) := by decide +kernel
theorem own_d3_19 : decode prog_2_method_4_code 19 = .ok (.ifCond .eq 8, 3) := by decide +kernel
theorem own_d3_22 : decode prog_2_method_4_code 22 = .ok (.lload_n 2, 1) := by decide +kernel
theorem own_d3_23 : decode prog_2_method_4_code 23 = .ok (.invokestatic 84, 3) := by decide +kernel
theorem own_d3_26 : decode prog_2_method_4_code 26 = .ok (.ireturn, 1) := by decide +kernel
theorem own_d3_27 : decode prog_2_method_4_code 27 = .ok (.lload_n 0, 1) := by decide +kernel
theorem own_d3_28 : decode prog_2_method_4_code 28 = .ok (.lconst 1, 1) := by decide +kernel
theorem own_d3_29 : decode prog_2_method_4_code 29 = .ok (.ladd, 1) := by decide +kernel
theorem own_d3_30 : decode prog_2_method_4_code 30 = .ok (.lload_n 2, 1) := by decide +kernel
theorem own_d3_31 : decode prog_2_method_4_code 31 = .ok (.lsub, 1) := by decide +kernel
theorem own_d3_32 : decode prog_2_method_4_code 32 = .ok (.invokestatic 84, 3) := by decide +kernel
theorem own_d3_35 : decode prog_2_method_4_code 35 = .ok (.lload_n 2, 1) := by decide +kernel
theorem own_d3_36 : decode prog_2_method_4_code 36 = .ok (.invokestatic 84, 3) := by decide +kernel
theorem own_d3_39 : decode prog_2_method_4_code 39 = .ok (.iadd, 1) := by decide +kernel
theorem own_d3_40 : decode prog_2_method_4_code 40 = .ok (.ireturn, 1) := by decide +kernel
theorem own_pn3 : plainName "com/example/ordrly/ordrly/commits/Progress" = true := by first | (simp [plainName, overriddenIn]; done) | decide +kernel
theorem own_ef3 (m : MethodId) (x0 : Int64) (x1 : Int64) (x2 : Int32) (x3 : Int32) : entryFrame m #[(.long x0), (.long x1), (.int x2), (.int x3)] 6 = mkF m 0 #[.val (.long x0), .second, .val (.long x1), .second, .val (.int x2), .val (.int x3)] [] := by first | (simp [entryFrame, mkF, argsToLocals, Value.category]; done) | rfl
def own_MG (q0 q1 : Int64) (p2 p3 : Int32) : Int32 := (if p2 = (0 : Int32) then (if p2 = (0 : Int32) then (if p3 = (0 : Int32) then ((own_CL ((q0 + (1 : Int64)) - q1)) + (own_CL q1)) else (own_CL q1)) else (own_CL q1)) else (if p3 = (0 : Int32) then (if p2 = (0 : Int32) then (if p3 = (0 : Int32) then ((own_CL ((q0 + (1 : Int64)) - q1)) + (own_CL q1)) else (own_CL q1)) else (own_CL q1)) else (0 : Int32)))
def Q3 (Z : State) (q0 : Int64) (q1 : Int64) (p2 : Int32) (p3 : Int32) (h0 : Heap) (n0 : Nat) (v : Option Value) (h : Heap) (L : List Loc) : Prop := v = some (.int (own_MG q0 q1 p2 p3)) ∧ Fr n0 L ∧ h = h0
set_option maxRecDepth 65536 in
set_option maxHeartbeats 40000000 in
theorem rm3 (l : Launch) (Z : State) (a0 : Array Value) (hw : ∀ d ∈ tables_1, d.before a0 Z = true) (ws : List Jvm.Cond) (q0 : Int64) (q1 : Int64) (p2 : Int32) (p3 : Int32) (h0 : Heap) (n0 : Nat) (Z0 : n0 ≤ h0.size) (hl : 0 ≤ q1.toInt) (ha : 0 ≤ ((q0 + (1 : Int64)) - q1).toInt) :
    MetFree l (⟨"com/example/ordrly/ordrly/commits/Progress", "mostGrowth", "(JJZZ)I"⟩ : MethodName) (head1 (Jvm.Cond.code (⟨"com/example/ordrly/ordrly/commits/Progress", "mostGrowth", "(JJZZ)I"⟩ : MethodName) prog_2_method_4_code 6 (some .int) :: ws) ({ frames := 1, cells := 0, slots := 0, locals := 17 } : Room)) (fun a U => a = #[(.long q0), (.long q1), (.int p2), (.int p3)] ∧ Z.Warmed39 U.vm ∧ U.heap = h0) (fun _ _ _ _ _ => True) (fun _ U o U' => ∃ v L, o = .returned v ∧ Q3 Z q0 q1 p2 p3 h0 n0 v U'.heap L ∧ FrameEnd U o U' L ({ frames := 1, cells := 0, slots := 0, locals := 17 } : Room).cells ({ frames := 1, cells := 0, slots := 0, locals := 17 } : Room).slots) := by
  refine MetFree.of_bodySF (plainFor_of_name own_pn3) hisR ?_
  intro p e s m args below meth c s₁ Bd hml0 hP hK
  obtain ⟨rfl, hZ, hh⟩ := hP
  have hx := Bd.exec
  have hby := Bd.bytes
  have hml : c.maxLocals = 6 := hml0
  have hown : s.vm.findClass "com/example/ordrly/ordrly/commits/Progress" = some m.cls := findClass_of_methodNamed Bd.named
  have hnm := (name_of_methodNamed Bd.named Bd.method).1
  have X0 : Stand p l e ({ frames := 1, cells := 0, slots := 0, locals := 17 } : Room) s m #[(.long q0), (.long q1), (.int p2), (.int p3)] below meth c s₁ [] 0 0 := Stand.of_body Bd
  have e0 : s₁.heap = h0 := by rw [← hh, Bd.state]; rfl
  have N0 := Fr.nil n0
  have k0 : own_To p e below s₁ (mkF m 0 #[.val (.long q0), .second, .val (.long q1), .second, .val (.int p2), .val (.int p3)] []) s₁ (entryFrame m #[(.long q0), (.long q1), (.int p2), (.int p3)] 6) := fun t k => castTop (own_ef3 m q0 q1 p2 p3) k
  have ki : own_To p e below s₁ (mkF m 0 #[.val (.long q0), .second, .val (.long q1), .second, .val (.int p2), .val (.int p3)] []) s₁ (mkF m 0 #[.val (.long q0), .second, .val (.long q1), .second, .val (.int p2), .val (.int p3)] []) := fun t q => q
  have k1 : own_To p e below s₁ (mkF m 2 #[.val (.long q0), .second, .val (.long q1), .second, .val (.int p2), .val (.int p3)] [(.int p2)]) s₁ (mkF m 0 #[.val (.long q0), .second, .val (.long q1), .second, .val (.int p2), .val (.int p3)] []) := fun t q => ki t (by
    refine XS.iload X0.here hx rfl (hb hby own_d3_0) rfl ?_
    show Steps p.tables e below (s₁.setTop (mkF m 2 #[.val (.long q0), .second, .val (.long q1), .second, .val (.int p2), .val (.int p3)] [(.int p2)])) _
    exact q)
  by_cases hc2 : p2 = (0 : Int32)
  ·
    have k3 : own_To p e below s₁ (mkF m 14 #[.val (.long q0), .second, .val (.long q1), .second, .val (.int p2), .val (.int p3)] [(.int p2)]) s₁ (mkF m 0 #[.val (.long q0), .second, .val (.long q1), .second, .val (.int p2), .val (.int p3)] []) := fun t q => k1 t (by
      refine XS.ifYes X0.here hx rfl (pc0 := 2) (pc' := 12) rfl (hb hby own_d3_2) rfl ((if0 _ _).trans (teq hc2).1) (by decide) (by decide) ?_
      show Steps p.tables e below (s₁.setTop (mkF m 12 #[.val (.long q0), .second, .val (.long q1), .second, .val (.int p2), .val (.int p3)] [])) _
      refine XS.iload X0.here hx rfl (hb hby own_d3_12) rfl ?_
      show Steps p.tables e below (s₁.setTop (mkF m 14 #[.val (.long q0), .second, .val (.long q1), .second, .val (.int p2), .val (.int p3)] [(.int p2)])) _
      exact q)
    by_cases hc4 : p2 = (0 : Int32)
    ·
      have k5 : own_To p e below s₁ (mkF m 19 #[.val (.long q0), .second, .val (.long q1), .second, .val (.int p2), .val (.int p3)] [(.int p3)]) s₁ (mkF m 0 #[.val (.long q0), .second, .val (.long q1), .second, .val (.int p2), .val (.int p3)] []) := fun t q => k3 t (by
        refine XS.ifNo X0.here hx rfl (hb hby own_d3_14) rfl ((if0 _ _).trans (teq hc4).2) ?_
        show Steps p.tables e below (s₁.setTop (mkF m 17 #[.val (.long q0), .second, .val (.long q1), .second, .val (.int p2), .val (.int p3)] [])) _
        refine XS.iload X0.here hx rfl (hb hby own_d3_17) rfl ?_
        show Steps p.tables e below (s₁.setTop (mkF m 19 #[.val (.long q0), .second, .val (.long q1), .second, .val (.int p2), .val (.int p3)] [(.int p3)])) _
        exact q)
      by_cases hc6 : p3 = (0 : Int32)
      ·
        obtain ⟨_, _, ⟨T7, L7, kk7, n7⟩, -, X7, ⟨Lc7, hQ7, l7, y7, z7⟩, st7⟩ := Jvm.LawKit.callS X0 hx (y := (⟨"com/example/ordrly/ordrly/commits/Progress", "countLength", "(J)I"⟩ : MethodName)) hown (mvT hZ (hw _ (List.mem_of_getElem? (i := 12) rfl))) (mvT hZ (hw _ (List.mem_of_getElem? (i := 13) rfl))) (mvT hZ (hw _ (List.mem_of_getElem? (i := 10) rfl))) (mvT hZ (hw _ (List.mem_of_getElem? (i := 14) rfl))) (by decide) (backOf (W := 0) (rm4 l Z a0 hw [] ((q0 + (1 : Int64)) - q1) h0 n0 Z0 ha) hZ (hw _ (List.mem_of_getElem? (i := 14) rfl)) (hw _ (List.mem_of_getElem? (i := 10) rfl)) (by decide) (by decide)) (g := (mkF m 32 #[.val (.long q0), .second, .val (.long q1), .second, .val (.int p2), .val (.int p3)] [(.long ((q0 + (1 : Int64)) - q1))])) rfl (by rw [hml]; rfl) (argsL := [(.long ((q0 + (1 : Int64)) - q1))]) (rest := []) (lenOf own_pd0 rfl) rfl (by show 2 * 0 + _ ≤ _; exact Nat.le_of_eq rfl) (hb hby own_d3_32) (fun _ _ => ⟨rfl, e0, (by decide : 0 + 0 ≤ _), (by decide : 0 + 0 ≤ _)⟩)
        dsimp only [Pt.U, Pt.locs, Pt.cells, Pt.slots] at X7 l7 y7 z7 st7 hQ7
        subst l7 y7 z7
        obtain ⟨rfl, N7q, e7⟩ := hQ7
        have N7 := Fr.app N0 N7q
        obtain ⟨_, _, ⟨T8, L8, kk8, n8⟩, -, X8, ⟨Lc8, hQ8, l8, y8, z8⟩, st8⟩ := Jvm.LawKit.callS X7 hx (y := (⟨"com/example/ordrly/ordrly/commits/Progress", "countLength", "(J)I"⟩ : MethodName)) hown (mvT hZ (hw _ (List.mem_of_getElem? (i := 12) rfl))) (mvT hZ (hw _ (List.mem_of_getElem? (i := 13) rfl))) (mvT hZ (hw _ (List.mem_of_getElem? (i := 10) rfl))) (mvT hZ (hw _ (List.mem_of_getElem? (i := 14) rfl))) (by decide) (backOf (W := 1) (rm4 l Z a0 hw [] q1 h0 n0 Z0 hl) hZ (hw _ (List.mem_of_getElem? (i := 14) rfl)) (hw _ (List.mem_of_getElem? (i := 10) rfl)) (by decide) (by decide)) (g := (mkF m 36 #[.val (.long q0), .second, .val (.long q1), .second, .val (.int p2), .val (.int p3)] [(.long q1), (.int (own_CL ((q0 + (1 : Int64)) - q1)))])) rfl (by rw [hml]; rfl) (argsL := [(.long q1)]) (rest := [(.int (own_CL ((q0 + (1 : Int64)) - q1)))]) (lenOf own_pd0 rfl) rfl (by show 2 * 0 + _ ≤ _; exact Nat.le_of_eq rfl) (hb hby own_d3_36) (fun _ _ => ⟨rfl, e7, (by decide : 0 + 0 ≤ _), (by decide : 0 + 0 ≤ _)⟩)
        dsimp only [Pt.U, Pt.locs, Pt.cells, Pt.slots] at X8 l8 y8 z8 st8 hQ8
        subst l8 y8 z8
        obtain ⟨rfl, N8q, e8⟩ := hQ8
        have N8 := Fr.app N7 N8q
        have k9 : own_To p e below T8 (mkF m 40 #[.val (.long q0), .second, .val (.long q1), .second, .val (.int p2), .val (.int p3)] [(.int ((own_CL ((q0 + (1 : Int64)) - q1)) + (own_CL q1)))]) s₁ (mkF m 0 #[.val (.long q0), .second, .val (.long q1), .second, .val (.int p2), .val (.int p3)] []) := fun t q => k5 t (by
          refine XS.ifYes X0.here hx rfl (pc0 := 19) (pc' := 27) rfl (hb hby own_d3_19) rfl ((if0 _ _).trans (teq hc6).1) (by decide) (by decide) ?_
          show Steps p.tables e below (s₁.setTop (mkF m 27 #[.val (.long q0), .second, .val (.long q1), .second, .val (.int p2), .val (.int p3)] [])) _
          refine XS.lloadN X0.here hx rfl (hb hby own_d3_27) rfl ?_
          show Steps p.tables e below (s₁.setTop (mkF m 28 #[.val (.long q0), .second, .val (.long q1), .second, .val (.int p2), .val (.int p3)] [(.long q0)])) _
          refine XS.lconst X0.here hx rfl (hb hby own_d3_28) ?_
          show Steps p.tables e below (s₁.setTop (mkF m 29 #[.val (.long q0), .second, .val (.long q1), .second, .val (.int p2), .val (.int p3)] [(.long (1 : Int64)), (.long q0)])) _
          refine XS.ladd X0.here hx rfl (hb hby own_d3_29) rfl ?_
          show Steps p.tables e below (s₁.setTop (mkF m 30 #[.val (.long q0), .second, .val (.long q1), .second, .val (.int p2), .val (.int p3)] [(.long (q0 + (1 : Int64)))])) _
          refine XS.lloadN X0.here hx rfl (hb hby own_d3_30) rfl ?_
          show Steps p.tables e below (s₁.setTop (mkF m 31 #[.val (.long q0), .second, .val (.long q1), .second, .val (.int p2), .val (.int p3)] [(.long q1), (.long (q0 + (1 : Int64)))])) _
          refine XS.lsub X0.here hx rfl (hb hby own_d3_31) rfl ?_
          show Steps p.tables e below (s₁.setTop (mkF m 32 #[.val (.long q0), .second, .val (.long q1), .second, .val (.int p2), .val (.int p3)] [(.long ((q0 + (1 : Int64)) - q1))])) _
          refine st7 _ ?_
          show Steps p.tables e below (T7.setTop (mkF m 35 #[.val (.long q0), .second, .val (.long q1), .second, .val (.int p2), .val (.int p3)] [(.int (own_CL ((q0 + (1 : Int64)) - q1)))])) _
          refine XS.lloadN X7.here hx rfl (hb hby own_d3_35) rfl ?_
          show Steps p.tables e below (T7.setTop (mkF m 36 #[.val (.long q0), .second, .val (.long q1), .second, .val (.int p2), .val (.int p3)] [(.long q1), (.int (own_CL ((q0 + (1 : Int64)) - q1)))])) _
          refine st8 _ ?_
          show Steps p.tables e below (T8.setTop (mkF m 39 #[.val (.long q0), .second, .val (.long q1), .second, .val (.int p2), .val (.int p3)] [(.int (own_CL q1)), (.int (own_CL ((q0 + (1 : Int64)) - q1)))])) _
          refine XS.iadd X8.here hx rfl (hb hby own_d3_39) rfl ?_
          show Steps p.tables e below (T8.setTop (mkF m 40 #[.val (.long q0), .second, .val (.long q1), .second, .val (.int p2), .val (.int p3)] [(.int ((own_CL ((q0 + (1 : Int64)) - q1)) + (own_CL q1)))])) _
          exact q)
        obtain ⟨fs, hr, hrun, hended, hW, hsame⟩ := X8.leave (v := some (.int ((own_CL ((q0 + (1 : Int64)) - q1)) + (own_CL q1)))) (fun h => by rw [Bd.returns] at h; cases h)
        refine ⟨_, _, k0 _ (k9 _ ?_), hrun, hended, _, _, rfl, ?_, ⟨_, rfl⟩, hW, hsame.mono (by decide) (by decide)⟩
        · show Steps p.tables e below (T8.setTop (mkF m 40 #[.val (.long q0), .second, .val (.long q1), .second, .val (.int p2), .val (.int p3)] [(.int ((own_CL ((q0 + (1 : Int64)) - q1)) + (own_CL q1)))])) _
          exact retOut X8 hx Bd.returns rfl (Or.inl ⟨rfl, Or.inl rfl, _, rfl⟩) (hb hby own_d3_40) hr
        · show Q3 Z q0 q1 p2 p3 h0 n0 _ T8.heap _
          rw [e8]
          exact ⟨by rw [own_MG, if_pos hc2, if_pos hc4, if_pos hc6], N8, rfl⟩
      ·
        obtain ⟨_, _, ⟨T10, L10, kk10, n10⟩, -, X10, ⟨Lc10, hQ10, l10, y10, z10⟩, st10⟩ := Jvm.LawKit.callS X0 hx (y := (⟨"com/example/ordrly/ordrly/commits/Progress", "countLength", "(J)I"⟩ : MethodName)) hown (mvT hZ (hw _ (List.mem_of_getElem? (i := 12) rfl))) (mvT hZ (hw _ (List.mem_of_getElem? (i := 13) rfl))) (mvT hZ (hw _ (List.mem_of_getElem? (i := 10) rfl))) (mvT hZ (hw _ (List.mem_of_getElem? (i := 14) rfl))) (by decide) (backOf (W := 0) (rm4 l Z a0 hw [] q1 h0 n0 Z0 hl) hZ (hw _ (List.mem_of_getElem? (i := 14) rfl)) (hw _ (List.mem_of_getElem? (i := 10) rfl)) (by decide) (by decide)) (g := (mkF m 23 #[.val (.long q0), .second, .val (.long q1), .second, .val (.int p2), .val (.int p3)] [(.long q1)])) rfl (by rw [hml]; rfl) (argsL := [(.long q1)]) (rest := []) (lenOf own_pd0 rfl) rfl (by show 2 * 0 + _ ≤ _; exact Nat.le_of_eq rfl) (hb hby own_d3_23) (fun _ _ => ⟨rfl, e0, (by decide : 0 + 0 ≤ _), (by decide : 0 + 0 ≤ _)⟩)
        dsimp only [Pt.U, Pt.locs, Pt.cells, Pt.slots] at X10 l10 y10 z10 st10 hQ10
        subst l10 y10 z10
        obtain ⟨rfl, N10q, e10⟩ := hQ10
        have N10 := Fr.app N0 N10q
        have k11 : own_To p e below T10 (mkF m 26 #[.val (.long q0), .second, .val (.long q1), .second, .val (.int p2), .val (.int p3)] [(.int (own_CL q1))]) s₁ (mkF m 0 #[.val (.long q0), .second, .val (.long q1), .second, .val (.int p2), .val (.int p3)] []) := fun t q => k5 t (by
          refine XS.ifNo X0.here hx rfl (hb hby own_d3_19) rfl ((if0 _ _).trans (feq hc6).1) ?_
          show Steps p.tables e below (s₁.setTop (mkF m 22 #[.val (.long q0), .second, .val (.long q1), .second, .val (.int p2), .val (.int p3)] [])) _
          refine XS.lloadN X0.here hx rfl (hb hby own_d3_22) rfl ?_
          show Steps p.tables e below (s₁.setTop (mkF m 23 #[.val (.long q0), .second, .val (.long q1), .second, .val (.int p2), .val (.int p3)] [(.long q1)])) _
          refine st10 _ ?_
          show Steps p.tables e below (T10.setTop (mkF m 26 #[.val (.long q0), .second, .val (.long q1), .second, .val (.int p2), .val (.int p3)] [(.int (own_CL q1))])) _
          exact q)
        obtain ⟨fs, hr, hrun, hended, hW, hsame⟩ := X10.leave (v := some (.int (own_CL q1))) (fun h => by rw [Bd.returns] at h; cases h)
        refine ⟨_, _, k0 _ (k11 _ ?_), hrun, hended, _, _, rfl, ?_, ⟨_, rfl⟩, hW, hsame.mono (by decide) (by decide)⟩
        · show Steps p.tables e below (T10.setTop (mkF m 26 #[.val (.long q0), .second, .val (.long q1), .second, .val (.int p2), .val (.int p3)] [(.int (own_CL q1))])) _
          exact retOut X10 hx Bd.returns rfl (Or.inl ⟨rfl, Or.inl rfl, _, rfl⟩) (hb hby own_d3_26) hr
        · show Q3 Z q0 q1 p2 p3 h0 n0 _ T10.heap _
          rw [e10]
          exact ⟨by rw [own_MG, if_pos hc2, if_pos hc4, if_neg hc6], N10, rfl⟩
    ·
      obtain ⟨_, _, ⟨T12, L12, kk12, n12⟩, -, X12, ⟨Lc12, hQ12, l12, y12, z12⟩, st12⟩ := Jvm.LawKit.callS X0 hx (y := (⟨"com/example/ordrly/ordrly/commits/Progress", "countLength", "(J)I"⟩ : MethodName)) hown (mvT hZ (hw _ (List.mem_of_getElem? (i := 12) rfl))) (mvT hZ (hw _ (List.mem_of_getElem? (i := 13) rfl))) (mvT hZ (hw _ (List.mem_of_getElem? (i := 10) rfl))) (mvT hZ (hw _ (List.mem_of_getElem? (i := 14) rfl))) (by decide) (backOf (W := 0) (rm4 l Z a0 hw [] q1 h0 n0 Z0 hl) hZ (hw _ (List.mem_of_getElem? (i := 14) rfl)) (hw _ (List.mem_of_getElem? (i := 10) rfl)) (by decide) (by decide)) (g := (mkF m 23 #[.val (.long q0), .second, .val (.long q1), .second, .val (.int p2), .val (.int p3)] [(.long q1)])) rfl (by rw [hml]; rfl) (argsL := [(.long q1)]) (rest := []) (lenOf own_pd0 rfl) rfl (by show 2 * 0 + _ ≤ _; exact Nat.le_of_eq rfl) (hb hby own_d3_23) (fun _ _ => ⟨rfl, e0, (by decide : 0 + 0 ≤ _), (by decide : 0 + 0 ≤ _)⟩)
      dsimp only [Pt.U, Pt.locs, Pt.cells, Pt.slots] at X12 l12 y12 z12 st12 hQ12
      subst l12 y12 z12
      obtain ⟨rfl, N12q, e12⟩ := hQ12
      have N12 := Fr.app N0 N12q
      have k13 : own_To p e below T12 (mkF m 26 #[.val (.long q0), .second, .val (.long q1), .second, .val (.int p2), .val (.int p3)] [(.int (own_CL q1))]) s₁ (mkF m 0 #[.val (.long q0), .second, .val (.long q1), .second, .val (.int p2), .val (.int p3)] []) := fun t q => k3 t (by
        refine XS.ifYes X0.here hx rfl (pc0 := 14) (pc' := 22) rfl (hb hby own_d3_14) rfl ((if0 _ _).trans (feq hc4).2) (by decide) (by decide) ?_
        show Steps p.tables e below (s₁.setTop (mkF m 22 #[.val (.long q0), .second, .val (.long q1), .second, .val (.int p2), .val (.int p3)] [])) _
        refine XS.lloadN X0.here hx rfl (hb hby own_d3_22) rfl ?_
        show Steps p.tables e below (s₁.setTop (mkF m 23 #[.val (.long q0), .second, .val (.long q1), .second, .val (.int p2), .val (.int p3)] [(.long q1)])) _
        refine st12 _ ?_
        show Steps p.tables e below (T12.setTop (mkF m 26 #[.val (.long q0), .second, .val (.long q1), .second, .val (.int p2), .val (.int p3)] [(.int (own_CL q1))])) _
        exact q)
      obtain ⟨fs, hr, hrun, hended, hW, hsame⟩ := X12.leave (v := some (.int (own_CL q1))) (fun h => by rw [Bd.returns] at h; cases h)
      refine ⟨_, _, k0 _ (k13 _ ?_), hrun, hended, _, _, rfl, ?_, ⟨_, rfl⟩, hW, hsame.mono (by decide) (by decide)⟩
      · show Steps p.tables e below (T12.setTop (mkF m 26 #[.val (.long q0), .second, .val (.long q1), .second, .val (.int p2), .val (.int p3)] [(.int (own_CL q1))])) _
        exact retOut X12 hx Bd.returns rfl (Or.inl ⟨rfl, Or.inl rfl, _, rfl⟩) (hb hby own_d3_26) hr
      · show Q3 Z q0 q1 p2 p3 h0 n0 _ T12.heap _
        rw [e12]
        exact ⟨by rw [own_MG, if_pos hc2, if_neg hc4], N12, rfl⟩
  ·
    have k14 : own_To p e below s₁ (mkF m 7 #[.val (.long q0), .second, .val (.long q1), .second, .val (.int p2), .val (.int p3)] [(.int p3)]) s₁ (mkF m 0 #[.val (.long q0), .second, .val (.long q1), .second, .val (.int p2), .val (.int p3)] []) := fun t q => k1 t (by
      refine XS.ifNo X0.here hx rfl (hb hby own_d3_2) rfl ((if0 _ _).trans (feq hc2).1) ?_
      show Steps p.tables e below (s₁.setTop (mkF m 5 #[.val (.long q0), .second, .val (.long q1), .second, .val (.int p2), .val (.int p3)] [])) _
      refine XS.iload X0.here hx rfl (hb hby own_d3_5) rfl ?_
      show Steps p.tables e below (s₁.setTop (mkF m 7 #[.val (.long q0), .second, .val (.long q1), .second, .val (.int p2), .val (.int p3)] [(.int p3)])) _
      exact q)
    by_cases hc15 : p3 = (0 : Int32)
    ·
      have k16 : own_To p e below s₁ (mkF m 14 #[.val (.long q0), .second, .val (.long q1), .second, .val (.int p2), .val (.int p3)] [(.int p2)]) s₁ (mkF m 0 #[.val (.long q0), .second, .val (.long q1), .second, .val (.int p2), .val (.int p3)] []) := fun t q => k14 t (by
        refine XS.ifYes X0.here hx rfl (pc0 := 7) (pc' := 12) rfl (hb hby own_d3_7) rfl ((if0 _ _).trans (teq hc15).1) (by decide) (by decide) ?_
        show Steps p.tables e below (s₁.setTop (mkF m 12 #[.val (.long q0), .second, .val (.long q1), .second, .val (.int p2), .val (.int p3)] [])) _
        refine XS.iload X0.here hx rfl (hb hby own_d3_12) rfl ?_
        show Steps p.tables e below (s₁.setTop (mkF m 14 #[.val (.long q0), .second, .val (.long q1), .second, .val (.int p2), .val (.int p3)] [(.int p2)])) _
        exact q)
      by_cases hc17 : p2 = (0 : Int32)
      ·
        have k18 : own_To p e below s₁ (mkF m 19 #[.val (.long q0), .second, .val (.long q1), .second, .val (.int p2), .val (.int p3)] [(.int p3)]) s₁ (mkF m 0 #[.val (.long q0), .second, .val (.long q1), .second, .val (.int p2), .val (.int p3)] []) := fun t q => k16 t (by
          refine XS.ifNo X0.here hx rfl (hb hby own_d3_14) rfl ((if0 _ _).trans (teq hc17).2) ?_
          show Steps p.tables e below (s₁.setTop (mkF m 17 #[.val (.long q0), .second, .val (.long q1), .second, .val (.int p2), .val (.int p3)] [])) _
          refine XS.iload X0.here hx rfl (hb hby own_d3_17) rfl ?_
          show Steps p.tables e below (s₁.setTop (mkF m 19 #[.val (.long q0), .second, .val (.long q1), .second, .val (.int p2), .val (.int p3)] [(.int p3)])) _
          exact q)
        by_cases hc19 : p3 = (0 : Int32)
        ·
          obtain ⟨_, _, ⟨T20, L20, kk20, n20⟩, -, X20, ⟨Lc20, hQ20, l20, y20, z20⟩, st20⟩ := Jvm.LawKit.callS X0 hx (y := (⟨"com/example/ordrly/ordrly/commits/Progress", "countLength", "(J)I"⟩ : MethodName)) hown (mvT hZ (hw _ (List.mem_of_getElem? (i := 12) rfl))) (mvT hZ (hw _ (List.mem_of_getElem? (i := 13) rfl))) (mvT hZ (hw _ (List.mem_of_getElem? (i := 10) rfl))) (mvT hZ (hw _ (List.mem_of_getElem? (i := 14) rfl))) (by decide) (backOf (W := 0) (rm4 l Z a0 hw [] ((q0 + (1 : Int64)) - q1) h0 n0 Z0 ha) hZ (hw _ (List.mem_of_getElem? (i := 14) rfl)) (hw _ (List.mem_of_getElem? (i := 10) rfl)) (by decide) (by decide)) (g := (mkF m 32 #[.val (.long q0), .second, .val (.long q1), .second, .val (.int p2), .val (.int p3)] [(.long ((q0 + (1 : Int64)) - q1))])) rfl (by rw [hml]; rfl) (argsL := [(.long ((q0 + (1 : Int64)) - q1))]) (rest := []) (lenOf own_pd0 rfl) rfl (by show 2 * 0 + _ ≤ _; exact Nat.le_of_eq rfl) (hb hby own_d3_32) (fun _ _ => ⟨rfl, e0, (by decide : 0 + 0 ≤ _), (by decide : 0 + 0 ≤ _)⟩)
          dsimp only [Pt.U, Pt.locs, Pt.cells, Pt.slots] at X20 l20 y20 z20 st20 hQ20
          subst l20 y20 z20
          obtain ⟨rfl, N20q, e20⟩ := hQ20
          have N20 := Fr.app N0 N20q
          obtain ⟨_, _, ⟨T21, L21, kk21, n21⟩, -, X21, ⟨Lc21, hQ21, l21, y21, z21⟩, st21⟩ := Jvm.LawKit.callS X20 hx (y := (⟨"com/example/ordrly/ordrly/commits/Progress", "countLength", "(J)I"⟩ : MethodName)) hown (mvT hZ (hw _ (List.mem_of_getElem? (i := 12) rfl))) (mvT hZ (hw _ (List.mem_of_getElem? (i := 13) rfl))) (mvT hZ (hw _ (List.mem_of_getElem? (i := 10) rfl))) (mvT hZ (hw _ (List.mem_of_getElem? (i := 14) rfl))) (by decide) (backOf (W := 1) (rm4 l Z a0 hw [] q1 h0 n0 Z0 hl) hZ (hw _ (List.mem_of_getElem? (i := 14) rfl)) (hw _ (List.mem_of_getElem? (i := 10) rfl)) (by decide) (by decide)) (g := (mkF m 36 #[.val (.long q0), .second, .val (.long q1), .second, .val (.int p2), .val (.int p3)] [(.long q1), (.int (own_CL ((q0 + (1 : Int64)) - q1)))])) rfl (by rw [hml]; rfl) (argsL := [(.long q1)]) (rest := [(.int (own_CL ((q0 + (1 : Int64)) - q1)))]) (lenOf own_pd0 rfl) rfl (by show 2 * 0 + _ ≤ _; exact Nat.le_of_eq rfl) (hb hby own_d3_36) (fun _ _ => ⟨rfl, e20, (by decide : 0 + 0 ≤ _), (by decide : 0 + 0 ≤ _)⟩)
          dsimp only [Pt.U, Pt.locs, Pt.cells, Pt.slots] at X21 l21 y21 z21 st21 hQ21
          subst l21 y21 z21
          obtain ⟨rfl, N21q, e21⟩ := hQ21
          have N21 := Fr.app N20 N21q
          have k22 : own_To p e below T21 (mkF m 40 #[.val (.long q0), .second, .val (.long q1), .second, .val (.int p2), .val (.int p3)] [(.int ((own_CL ((q0 + (1 : Int64)) - q1)) + (own_CL q1)))]) s₁ (mkF m 0 #[.val (.long q0), .second, .val (.long q1), .second, .val (.int p2), .val (.int p3)] []) := fun t q => k18 t (by
            refine XS.ifYes X0.here hx rfl (pc0 := 19) (pc' := 27) rfl (hb hby own_d3_19) rfl ((if0 _ _).trans (teq hc19).1) (by decide) (by decide) ?_
            show Steps p.tables e below (s₁.setTop (mkF m 27 #[.val (.long q0), .second, .val (.long q1), .second, .val (.int p2), .val (.int p3)] [])) _
            refine XS.lloadN X0.here hx rfl (hb hby own_d3_27) rfl ?_
            show Steps p.tables e below (s₁.setTop (mkF m 28 #[.val (.long q0), .second, .val (.long q1), .second, .val (.int p2), .val (.int p3)] [(.long q0)])) _
            refine XS.lconst X0.here hx rfl (hb hby own_d3_28) ?_
            show Steps p.tables e below (s₁.setTop (mkF m 29 #[.val (.long q0), .second, .val (.long q1), .second, .val (.int p2), .val (.int p3)] [(.long (1 : Int64)), (.long q0)])) _
            refine XS.ladd X0.here hx rfl (hb hby own_d3_29) rfl ?_
            show Steps p.tables e below (s₁.setTop (mkF m 30 #[.val (.long q0), .second, .val (.long q1), .second, .val (.int p2), .val (.int p3)] [(.long (q0 + (1 : Int64)))])) _
            refine XS.lloadN X0.here hx rfl (hb hby own_d3_30) rfl ?_
            show Steps p.tables e below (s₁.setTop (mkF m 31 #[.val (.long q0), .second, .val (.long q1), .second, .val (.int p2), .val (.int p3)] [(.long q1), (.long (q0 + (1 : Int64)))])) _
            refine XS.lsub X0.here hx rfl (hb hby own_d3_31) rfl ?_
            show Steps p.tables e below (s₁.setTop (mkF m 32 #[.val (.long q0), .second, .val (.long q1), .second, .val (.int p2), .val (.int p3)] [(.long ((q0 + (1 : Int64)) - q1))])) _
            refine st20 _ ?_
            show Steps p.tables e below (T20.setTop (mkF m 35 #[.val (.long q0), .second, .val (.long q1), .second, .val (.int p2), .val (.int p3)] [(.int (own_CL ((q0 + (1 : Int64)) - q1)))])) _
            refine XS.lloadN X20.here hx rfl (hb hby own_d3_35) rfl ?_
            show Steps p.tables e below (T20.setTop (mkF m 36 #[.val (.long q0), .second, .val (.long q1), .second, .val (.int p2), .val (.int p3)] [(.long q1), (.int (own_CL ((q0 + (1 : Int64)) - q1)))])) _
            refine st21 _ ?_
            show Steps p.tables e below (T21.setTop (mkF m 39 #[.val (.long q0), .second, .val (.long q1), .second, .val (.int p2), .val (.int p3)] [(.int (own_CL q1)), (.int (own_CL ((q0 + (1 : Int64)) - q1)))])) _
            refine XS.iadd X21.here hx rfl (hb hby own_d3_39) rfl ?_
            show Steps p.tables e below (T21.setTop (mkF m 40 #[.val (.long q0), .second, .val (.long q1), .second, .val (.int p2), .val (.int p3)] [(.int ((own_CL ((q0 + (1 : Int64)) - q1)) + (own_CL q1)))])) _
            exact q)
          obtain ⟨fs, hr, hrun, hended, hW, hsame⟩ := X21.leave (v := some (.int ((own_CL ((q0 + (1 : Int64)) - q1)) + (own_CL q1)))) (fun h => by rw [Bd.returns] at h; cases h)
          refine ⟨_, _, k0 _ (k22 _ ?_), hrun, hended, _, _, rfl, ?_, ⟨_, rfl⟩, hW, hsame.mono (by decide) (by decide)⟩
          · show Steps p.tables e below (T21.setTop (mkF m 40 #[.val (.long q0), .second, .val (.long q1), .second, .val (.int p2), .val (.int p3)] [(.int ((own_CL ((q0 + (1 : Int64)) - q1)) + (own_CL q1)))])) _
            exact retOut X21 hx Bd.returns rfl (Or.inl ⟨rfl, Or.inl rfl, _, rfl⟩) (hb hby own_d3_40) hr
          · show Q3 Z q0 q1 p2 p3 h0 n0 _ T21.heap _
            rw [e21]
            exact ⟨by rw [own_MG, if_neg hc2, if_pos hc15, if_pos hc17, if_pos hc19], N21, rfl⟩
        ·
          obtain ⟨_, _, ⟨T23, L23, kk23, n23⟩, -, X23, ⟨Lc23, hQ23, l23, y23, z23⟩, st23⟩ := Jvm.LawKit.callS X0 hx (y := (⟨"com/example/ordrly/ordrly/commits/Progress", "countLength", "(J)I"⟩ : MethodName)) hown (mvT hZ (hw _ (List.mem_of_getElem? (i := 12) rfl))) (mvT hZ (hw _ (List.mem_of_getElem? (i := 13) rfl))) (mvT hZ (hw _ (List.mem_of_getElem? (i := 10) rfl))) (mvT hZ (hw _ (List.mem_of_getElem? (i := 14) rfl))) (by decide) (backOf (W := 0) (rm4 l Z a0 hw [] q1 h0 n0 Z0 hl) hZ (hw _ (List.mem_of_getElem? (i := 14) rfl)) (hw _ (List.mem_of_getElem? (i := 10) rfl)) (by decide) (by decide)) (g := (mkF m 23 #[.val (.long q0), .second, .val (.long q1), .second, .val (.int p2), .val (.int p3)] [(.long q1)])) rfl (by rw [hml]; rfl) (argsL := [(.long q1)]) (rest := []) (lenOf own_pd0 rfl) rfl (by show 2 * 0 + _ ≤ _; exact Nat.le_of_eq rfl) (hb hby own_d3_23) (fun _ _ => ⟨rfl, e0, (by decide : 0 + 0 ≤ _), (by decide : 0 + 0 ≤ _)⟩)
          dsimp only [Pt.U, Pt.locs, Pt.cells, Pt.slots] at X23 l23 y23 z23 st23 hQ23
          subst l23 y23 z23
          obtain ⟨rfl, N23q, e23⟩ := hQ23
          have N23 := Fr.app N0 N23q
          have k24 : own_To p e below T23 (mkF m 26 #[.val (.long q0), .second, .val (.long q1), .second, .val (.int p2), .val (.int p3)] [(.int (own_CL q1))]) s₁ (mkF m 0 #[.val (.long q0), .second, .val (.long q1), .second, .val (.int p2), .val (.int p3)] []) := fun t q => k18 t (by
            refine XS.ifNo X0.here hx rfl (hb hby own_d3_19) rfl ((if0 _ _).trans (feq hc19).1) ?_
            show Steps p.tables e below (s₁.setTop (mkF m 22 #[.val (.long q0), .second, .val (.long q1), .second, .val (.int p2), .val (.int p3)] [])) _
            refine XS.lloadN X0.here hx rfl (hb hby own_d3_22) rfl ?_
            show Steps p.tables e below (s₁.setTop (mkF m 23 #[.val (.long q0), .second, .val (.long q1), .second, .val (.int p2), .val (.int p3)] [(.long q1)])) _
            refine st23 _ ?_
            show Steps p.tables e below (T23.setTop (mkF m 26 #[.val (.long q0), .second, .val (.long q1), .second, .val (.int p2), .val (.int p3)] [(.int (own_CL q1))])) _
            exact q)
          obtain ⟨fs, hr, hrun, hended, hW, hsame⟩ := X23.leave (v := some (.int (own_CL q1))) (fun h => by rw [Bd.returns] at h; cases h)
          refine ⟨_, _, k0 _ (k24 _ ?_), hrun, hended, _, _, rfl, ?_, ⟨_, rfl⟩, hW, hsame.mono (by decide) (by decide)⟩
          · show Steps p.tables e below (T23.setTop (mkF m 26 #[.val (.long q0), .second, .val (.long q1), .second, .val (.int p2), .val (.int p3)] [(.int (own_CL q1))])) _
            exact retOut X23 hx Bd.returns rfl (Or.inl ⟨rfl, Or.inl rfl, _, rfl⟩) (hb hby own_d3_26) hr
          · show Q3 Z q0 q1 p2 p3 h0 n0 _ T23.heap _
            rw [e23]
            exact ⟨by rw [own_MG, if_neg hc2, if_pos hc15, if_pos hc17, if_neg hc19], N23, rfl⟩
      ·
        obtain ⟨_, _, ⟨T25, L25, kk25, n25⟩, -, X25, ⟨Lc25, hQ25, l25, y25, z25⟩, st25⟩ := Jvm.LawKit.callS X0 hx (y := (⟨"com/example/ordrly/ordrly/commits/Progress", "countLength", "(J)I"⟩ : MethodName)) hown (mvT hZ (hw _ (List.mem_of_getElem? (i := 12) rfl))) (mvT hZ (hw _ (List.mem_of_getElem? (i := 13) rfl))) (mvT hZ (hw _ (List.mem_of_getElem? (i := 10) rfl))) (mvT hZ (hw _ (List.mem_of_getElem? (i := 14) rfl))) (by decide) (backOf (W := 0) (rm4 l Z a0 hw [] q1 h0 n0 Z0 hl) hZ (hw _ (List.mem_of_getElem? (i := 14) rfl)) (hw _ (List.mem_of_getElem? (i := 10) rfl)) (by decide) (by decide)) (g := (mkF m 23 #[.val (.long q0), .second, .val (.long q1), .second, .val (.int p2), .val (.int p3)] [(.long q1)])) rfl (by rw [hml]; rfl) (argsL := [(.long q1)]) (rest := []) (lenOf own_pd0 rfl) rfl (by show 2 * 0 + _ ≤ _; exact Nat.le_of_eq rfl) (hb hby own_d3_23) (fun _ _ => ⟨rfl, e0, (by decide : 0 + 0 ≤ _), (by decide : 0 + 0 ≤ _)⟩)
        dsimp only [Pt.U, Pt.locs, Pt.cells, Pt.slots] at X25 l25 y25 z25 st25 hQ25
        subst l25 y25 z25
        obtain ⟨rfl, N25q, e25⟩ := hQ25
        have N25 := Fr.app N0 N25q
        have k26 : own_To p e below T25 (mkF m 26 #[.val (.long q0), .second, .val (.long q1), .second, .val (.int p2), .val (.int p3)] [(.int (own_CL q1))]) s₁ (mkF m 0 #[.val (.long q0), .second, .val (.long q1), .second, .val (.int p2), .val (.int p3)] []) := fun t q => k16 t (by
          refine XS.ifYes X0.here hx rfl (pc0 := 14) (pc' := 22) rfl (hb hby own_d3_14) rfl ((if0 _ _).trans (feq hc17).2) (by decide) (by decide) ?_
          show Steps p.tables e below (s₁.setTop (mkF m 22 #[.val (.long q0), .second, .val (.long q1), .second, .val (.int p2), .val (.int p3)] [])) _
          refine XS.lloadN X0.here hx rfl (hb hby own_d3_22) rfl ?_
          show Steps p.tables e below (s₁.setTop (mkF m 23 #[.val (.long q0), .second, .val (.long q1), .second, .val (.int p2), .val (.int p3)] [(.long q1)])) _
          refine st25 _ ?_
          show Steps p.tables e below (T25.setTop (mkF m 26 #[.val (.long q0), .second, .val (.long q1), .second, .val (.int p2), .val (.int p3)] [(.int (own_CL q1))])) _
          exact q)
        obtain ⟨fs, hr, hrun, hended, hW, hsame⟩ := X25.leave (v := some (.int (own_CL q1))) (fun h => by rw [Bd.returns] at h; cases h)
        refine ⟨_, _, k0 _ (k26 _ ?_), hrun, hended, _, _, rfl, ?_, ⟨_, rfl⟩, hW, hsame.mono (by decide) (by decide)⟩
        · show Steps p.tables e below (T25.setTop (mkF m 26 #[.val (.long q0), .second, .val (.long q1), .second, .val (.int p2), .val (.int p3)] [(.int (own_CL q1))])) _
          exact retOut X25 hx Bd.returns rfl (Or.inl ⟨rfl, Or.inl rfl, _, rfl⟩) (hb hby own_d3_26) hr
        · show Q3 Z q0 q1 p2 p3 h0 n0 _ T25.heap _
          rw [e25]
          exact ⟨by rw [own_MG, if_neg hc2, if_pos hc15, if_neg hc17], N25, rfl⟩
    ·
      have k27 : own_To p e below s₁ (mkF m 11 #[.val (.long q0), .second, .val (.long q1), .second, .val (.int p2), .val (.int p3)] [(.int (0 : Int32))]) s₁ (mkF m 0 #[.val (.long q0), .second, .val (.long q1), .second, .val (.int p2), .val (.int p3)] []) := fun t q => k14 t (by
        refine XS.ifNo X0.here hx rfl (hb hby own_d3_7) rfl ((if0 _ _).trans (feq hc15).1) ?_
        show Steps p.tables e below (s₁.setTop (mkF m 10 #[.val (.long q0), .second, .val (.long q1), .second, .val (.int p2), .val (.int p3)] [])) _
        refine XS.iconst X0.here hx rfl (hb hby own_d3_10) ?_
        show Steps p.tables e below (s₁.setTop (mkF m 11 #[.val (.long q0), .second, .val (.long q1), .second, .val (.int p2), .val (.int p3)] [(.int (0 : Int32))])) _
        exact q)
      obtain ⟨fs, hr, hrun, hended, hW, hsame⟩ := X0.leave (v := some (.int (0 : Int32))) (fun h => by rw [Bd.returns] at h; cases h)
      refine ⟨_, _, k0 _ (k27 _ ?_), hrun, hended, _, _, rfl, ?_, ⟨_, rfl⟩, hW, hsame.mono (by decide) (by decide)⟩
      · show Steps p.tables e below (s₁.setTop (mkF m 11 #[.val (.long q0), .second, .val (.long q1), .second, .val (.int p2), .val (.int p3)] [(.int (0 : Int32))])) _
        exact retOut X0 hx Bd.returns rfl (Or.inl ⟨rfl, Or.inl rfl, _, rfl⟩) (hb hby own_d3_11) hr
      · show Q3 Z q0 q1 p2 p3 h0 n0 _ s₁.heap _
        rw [e0]
        exact ⟨by rw [own_MG, if_neg hc2, if_neg hc15], N0, rfl⟩
theorem own_mm (a b : Int64) : (0 ≤ a.toInt → 0 ≤ b.toInt → 0 ≤ (own_min a b).toInt ∧ 0 ≤ (own_max a b).toInt ∧ (own_min a b).toInt ≤ (own_max a b).toInt) := by
  intro h1 h2
  unfold own_min own_max
  simp only [Int64.lt_iff_toInt_lt]
  split <;> split <;> omega
theorem own_abo (hi lo : Int64) (h1 : 0 ≤ hi.toInt) (h2 : 0 ≤ lo.toInt) : ((hi + (1 : Int64)) - ((hi - lo) + (1 : Int64))) = lo := by
  apply Int64.toInt_inj.mp
  have a1 := c_ladd hi 1
  have a2 := c_lsub hi lo
  have a3 := c_ladd (hi - lo) 1
  have a4 := c_lsub (hi + 1) ((hi - lo) + 1)
  have r1 := rng64 ((hi + 1) - ((hi - lo) + 1))
  have r2 := rng64 lo
  rw [show (1 : Int64).toInt = 1 from rfl] at *
  omega
theorem own_pd1 : parseMethodDescriptor "(JJ)J" = some ⟨[.long, .long], some .long⟩ := by decide +kernel
theorem own_pd2 : parseMethodDescriptor "(JJZZ)I" = some ⟨[.long, .long, .boolean, .boolean], some .int⟩ := by decide +kernel
theorem own_pn0 : plainName "com/example/ordrly/ordrly/commits/ProgressMostGrowthPinLaw" = true := by first | (simp [plainName, overriddenIn]; done) | decide +kernel
theorem own_ef0 (m : MethodId) (x0 : Int64) (x1 : Int64) (x2 : Int32) : entryFrame m #[(.long x0), (.long x1), (.int x2)] maxLocals = mkF m 0 #[.val (.long x0), .second, .val (.long x1), .second, .val (.int x2), .unset, .unset, .unset, .unset, .unset, .unset, .unset, .unset, .unset, .unset, .unset, .unset, .unset, .unset, .unset, .unset] [] := by first | (simp [entryFrame, mkF, argsToLocals, Value.category, maxLocals]; done) | rfl
def Q0 (Z : State) (q0 : Int64) (q1 : Int64) (p2 : Int32) (h0 : Heap) (n0 : Nat) (v : Option Value) (h : Heap) (L : List Loc) : Prop := v = some (.int 1) ∧ Fr n0 L
set_option maxRecDepth 65536 in
set_option maxHeartbeats 40000000 in
theorem rm0 (l : Launch) (Z : State) (a0 : Array Value) (hw : ∀ d ∈ tables_1, d.before a0 Z = true) (ws : List Jvm.Cond) (q0 : Int64) (q1 : Int64) (p2 : Int32) (h0 : Heap) (n0 : Nat) (Z0 : n0 ≤ h0.size) :
    MetFree l x (head1 (Jvm.Cond.code x code maxLocals ret :: ws) room_1) (fun a U => a = #[(.long q0), (.long q1), (.int p2)] ∧ Z.Warmed39 U.vm ∧ U.heap = h0) (fun _ _ _ _ _ => True) (fun _ U o U' => ∃ v L, o = .returned v ∧ Q0 Z q0 q1 p2 h0 n0 v U'.heap L ∧ FrameEnd U o U' L 0 0) := by
  refine MetFree.of_bodySF (plainFor_of_name own_pn0) hisR ?_
  intro p e s m args below meth c s₁ Bd hml0 hP hK
  obtain ⟨rfl, hZ, hh⟩ := hP
  have hx := Bd.exec
  have hby := Bd.bytes
  have hml : c.maxLocals = 21 := hml0
  have hown : s.vm.findClass "com/example/ordrly/ordrly/commits/ProgressMostGrowthPinLaw" = some m.cls := findClass_of_methodNamed Bd.named
  have hnm := (name_of_methodNamed Bd.named Bd.method).1
  have X0 : Stand p l e room_1 s m #[(.long q0), (.long q1), (.int p2)] below meth c s₁ [] 0 0 := Stand.of_body Bd
  have e0 : s₁.heap = h0 := by rw [← hh, Bd.state]; rfl
  have N0 := Fr.nil n0
  have k0 : own_To p e below s₁ (mkF m 0 #[.val (.long q0), .second, .val (.long q1), .second, .val (.int p2), .unset, .unset, .unset, .unset, .unset, .unset, .unset, .unset, .unset, .unset, .unset, .unset, .unset, .unset, .unset, .unset] []) s₁ (entryFrame m #[(.long q0), (.long q1), (.int p2)] maxLocals) := fun t k => castTop (own_ef0 m q0 q1 p2) k
  have ki : own_To p e below s₁ (mkF m 0 #[.val (.long q0), .second, .val (.long q1), .second, .val (.int p2), .unset, .unset, .unset, .unset, .unset, .unset, .unset, .unset, .unset, .unset, .unset, .unset, .unset, .unset, .unset, .unset] []) s₁ (mkF m 0 #[.val (.long q0), .second, .val (.long q1), .second, .val (.int p2), .unset, .unset, .unset, .unset, .unset, .unset, .unset, .unset, .unset, .unset, .unset, .unset, .unset, .unset, .unset, .unset] []) := fun t q => q
  obtain ⟨_, _, ⟨T1, L1, kk1, n1⟩, -, X1, ⟨Lc1, hQ1, l1, y1, z1⟩, st1⟩ := Jvm.LawKit.callS X0 hx (y := (⟨"java/lang/Math", "min", "(JJ)J"⟩ : MethodName)) hown (mvT hZ (hw _ (List.mem_of_getElem? (i := 1) rfl))) (mvT hZ (hw _ (List.mem_of_getElem? (i := 2) rfl))) (mvT hZ (hw _ (List.mem_of_getElem? (i := 3) rfl))) (mvT hZ (hw _ (List.mem_of_getElem? (i := 4) rfl))) (by decide) (backOf (W := 0) (rm1 l Z a0 hw [] (q0 &&& (9223372036854775807 : Int64)) (q1 &&& (9223372036854775807 : Int64)) h0 n0 Z0) hZ (hw _ (List.mem_of_getElem? (i := 4) rfl)) (hw _ (List.mem_of_getElem? (i := 3) rfl)) (by decide) (by decide)) (g := (mkF m 18 #[.val (.long q0), .second, .val (.long q1), .second, .val (.int p2), .val (.long (q0 &&& (9223372036854775807 : Int64))), .second, .val (.long (q1 &&& (9223372036854775807 : Int64))), .second, .unset, .unset, .unset, .unset, .unset, .unset, .unset, .unset, .unset, .unset, .unset, .unset] [(.long (q1 &&& (9223372036854775807 : Int64))), (.long (q0 &&& (9223372036854775807 : Int64)))])) rfl (by rw [hml]; rfl) (argsL := [(.long (q0 &&& (9223372036854775807 : Int64))), (.long (q1 &&& (9223372036854775807 : Int64)))]) (rest := []) (lenOf own_pd1 rfl) rfl (by show 2 * 0 + _ ≤ _; exact Nat.le_of_eq rfl) (hb hby at_18) (fun _ _ => ⟨rfl, e0, (by decide : 0 + 0 ≤ _), (by decide : 0 + 0 ≤ _)⟩)
  dsimp only [Pt.U, Pt.locs, Pt.cells, Pt.slots] at X1 l1 y1 z1 st1 hQ1
  subst l1 y1 z1
  obtain ⟨rfl, N1q, e1⟩ := hQ1
  have N1 := Fr.app N0 N1q
  obtain ⟨_, _, ⟨T2, L2, kk2, n2⟩, -, X2, ⟨Lc2, hQ2, l2, y2, z2⟩, st2⟩ := Jvm.LawKit.callS X1 hx (y := (⟨"java/lang/Math", "max", "(JJ)J"⟩ : MethodName)) hown (mvT hZ (hw _ (List.mem_of_getElem? (i := 5) rfl))) (mvT hZ (hw _ (List.mem_of_getElem? (i := 6) rfl))) (mvT hZ (hw _ (List.mem_of_getElem? (i := 3) rfl))) (mvT hZ (hw _ (List.mem_of_getElem? (i := 7) rfl))) (by decide) (backOf (W := 0) (rm2 l Z a0 hw [] (q0 &&& (9223372036854775807 : Int64)) (q1 &&& (9223372036854775807 : Int64)) h0 n0 Z0) hZ (hw _ (List.mem_of_getElem? (i := 7) rfl)) (hw _ (List.mem_of_getElem? (i := 3) rfl)) (by decide) (by decide)) (g := (mkF m 27 #[.val (.long q0), .second, .val (.long q1), .second, .val (.int p2), .val (.long (q0 &&& (9223372036854775807 : Int64))), .second, .val (.long (q1 &&& (9223372036854775807 : Int64))), .second, .val (.long (own_min (q0 &&& (9223372036854775807 : Int64)) (q1 &&& (9223372036854775807 : Int64)))), .second, .unset, .unset, .unset, .unset, .unset, .unset, .unset, .unset, .unset, .unset] [(.long (q1 &&& (9223372036854775807 : Int64))), (.long (q0 &&& (9223372036854775807 : Int64)))])) rfl (by rw [hml]; rfl) (argsL := [(.long (q0 &&& (9223372036854775807 : Int64))), (.long (q1 &&& (9223372036854775807 : Int64)))]) (rest := []) (lenOf own_pd1 rfl) rfl (by show 2 * 0 + _ ≤ _; exact Nat.le_of_eq rfl) (hb hby at_27) (fun _ _ => ⟨rfl, e1, (by decide : 0 + 0 ≤ _), (by decide : 0 + 0 ≤ _)⟩)
  dsimp only [Pt.U, Pt.locs, Pt.cells, Pt.slots] at X2 l2 y2 z2 st2 hQ2
  subst l2 y2 z2
  obtain ⟨rfl, N2q, e2⟩ := hQ2
  have N2 := Fr.app N1 N2q
  have k3 : own_To p e below T2 (mkF m 45 #[.val (.long q0), .second, .val (.long q1), .second, .val (.int p2), .val (.long (q0 &&& (9223372036854775807 : Int64))), .second, .val (.long (q1 &&& (9223372036854775807 : Int64))), .second, .val (.long (own_min (q0 &&& (9223372036854775807 : Int64)) (q1 &&& (9223372036854775807 : Int64)))), .second, .val (.long (own_max (q0 &&& (9223372036854775807 : Int64)) (q1 &&& (9223372036854775807 : Int64)))), .second, .val (.long (((own_max (q0 &&& (9223372036854775807 : Int64)) (q1 &&& (9223372036854775807 : Int64))) - (own_min (q0 &&& (9223372036854775807 : Int64)) (q1 &&& (9223372036854775807 : Int64)))) + (1 : Int64))), .second, .unset, .unset, .unset, .unset, .unset, .unset] [(.int (lcmpW (((own_max (q0 &&& (9223372036854775807 : Int64)) (q1 &&& (9223372036854775807 : Int64))) - (own_min (q0 &&& (9223372036854775807 : Int64)) (q1 &&& (9223372036854775807 : Int64)))) + (1 : Int64)) (1 : Int64)))]) s₁ (mkF m 0 #[.val (.long q0), .second, .val (.long q1), .second, .val (.int p2), .unset, .unset, .unset, .unset, .unset, .unset, .unset, .unset, .unset, .unset, .unset, .unset, .unset, .unset, .unset, .unset] []) := fun t q => ki t (by
    refine XS.lloadN X0.here hx rfl (hb hby at_0) rfl ?_
    show Steps p.tables e below (s₁.setTop (mkF m 1 #[.val (.long q0), .second, .val (.long q1), .second, .val (.int p2), .unset, .unset, .unset, .unset, .unset, .unset, .unset, .unset, .unset, .unset, .unset, .unset, .unset, .unset, .unset, .unset] [(.long q0)])) _
    refine X0.ldc2Long hx hown (mvT hZ (hw _ (List.mem_of_getElem? (i := 0) rfl))) (g := (mkF m 1 #[.val (.long q0), .second, .val (.long q1), .second, .val (.int p2), .unset, .unset, .unset, .unset, .unset, .unset, .unset, .unset, .unset, .unset, .unset, .unset, .unset, .unset, .unset, .unset] [(.long q0)])) rfl (hb hby at_1) _ ?_
    show Steps p.tables e below (s₁.setTop (mkF m 4 #[.val (.long q0), .second, .val (.long q1), .second, .val (.int p2), .unset, .unset, .unset, .unset, .unset, .unset, .unset, .unset, .unset, .unset, .unset, .unset, .unset, .unset, .unset, .unset] [(.long (9223372036854775807 : Int64)), (.long q0)])) _
    refine XS.land X0.here hx rfl (hb hby at_4) rfl ?_
    show Steps p.tables e below (s₁.setTop (mkF m 5 #[.val (.long q0), .second, .val (.long q1), .second, .val (.int p2), .unset, .unset, .unset, .unset, .unset, .unset, .unset, .unset, .unset, .unset, .unset, .unset, .unset, .unset, .unset, .unset] [(.long (q0 &&& (9223372036854775807 : Int64)))])) _
    refine XS.lstore X0.here hx rfl (hb hby at_5) rfl (l' := #[.val (.long q0), .second, .val (.long q1), .second, .val (.int p2), .val (.long (q0 &&& (9223372036854775807 : Int64))), .second, .unset, .unset, .unset, .unset, .unset, .unset, .unset, .unset, .unset, .unset, .unset, .unset, .unset, .unset]) rfl ?_
    show Steps p.tables e below (s₁.setTop (mkF m 7 #[.val (.long q0), .second, .val (.long q1), .second, .val (.int p2), .val (.long (q0 &&& (9223372036854775807 : Int64))), .second, .unset, .unset, .unset, .unset, .unset, .unset, .unset, .unset, .unset, .unset, .unset, .unset, .unset, .unset] [])) _
    refine XS.lloadN X0.here hx rfl (hb hby at_7) rfl ?_
    show Steps p.tables e below (s₁.setTop (mkF m 8 #[.val (.long q0), .second, .val (.long q1), .second, .val (.int p2), .val (.long (q0 &&& (9223372036854775807 : Int64))), .second, .unset, .unset, .unset, .unset, .unset, .unset, .unset, .unset, .unset, .unset, .unset, .unset, .unset, .unset] [(.long q1)])) _
    refine X0.ldc2Long hx hown (mvT hZ (hw _ (List.mem_of_getElem? (i := 0) rfl))) (g := (mkF m 8 #[.val (.long q0), .second, .val (.long q1), .second, .val (.int p2), .val (.long (q0 &&& (9223372036854775807 : Int64))), .second, .unset, .unset, .unset, .unset, .unset, .unset, .unset, .unset, .unset, .unset, .unset, .unset, .unset, .unset] [(.long q1)])) rfl (hb hby at_8) _ ?_
    show Steps p.tables e below (s₁.setTop (mkF m 11 #[.val (.long q0), .second, .val (.long q1), .second, .val (.int p2), .val (.long (q0 &&& (9223372036854775807 : Int64))), .second, .unset, .unset, .unset, .unset, .unset, .unset, .unset, .unset, .unset, .unset, .unset, .unset, .unset, .unset] [(.long (9223372036854775807 : Int64)), (.long q1)])) _
    refine XS.land X0.here hx rfl (hb hby at_11) rfl ?_
    show Steps p.tables e below (s₁.setTop (mkF m 12 #[.val (.long q0), .second, .val (.long q1), .second, .val (.int p2), .val (.long (q0 &&& (9223372036854775807 : Int64))), .second, .unset, .unset, .unset, .unset, .unset, .unset, .unset, .unset, .unset, .unset, .unset, .unset, .unset, .unset] [(.long (q1 &&& (9223372036854775807 : Int64)))])) _
    refine XS.lstore X0.here hx rfl (hb hby at_12) rfl (l' := #[.val (.long q0), .second, .val (.long q1), .second, .val (.int p2), .val (.long (q0 &&& (9223372036854775807 : Int64))), .second, .val (.long (q1 &&& (9223372036854775807 : Int64))), .second, .unset, .unset, .unset, .unset, .unset, .unset, .unset, .unset, .unset, .unset, .unset, .unset]) rfl ?_
    show Steps p.tables e below (s₁.setTop (mkF m 14 #[.val (.long q0), .second, .val (.long q1), .second, .val (.int p2), .val (.long (q0 &&& (9223372036854775807 : Int64))), .second, .val (.long (q1 &&& (9223372036854775807 : Int64))), .second, .unset, .unset, .unset, .unset, .unset, .unset, .unset, .unset, .unset, .unset, .unset, .unset] [])) _
    refine XS.lload X0.here hx rfl (hb hby at_14) rfl ?_
    show Steps p.tables e below (s₁.setTop (mkF m 16 #[.val (.long q0), .second, .val (.long q1), .second, .val (.int p2), .val (.long (q0 &&& (9223372036854775807 : Int64))), .second, .val (.long (q1 &&& (9223372036854775807 : Int64))), .second, .unset, .unset, .unset, .unset, .unset, .unset, .unset, .unset, .unset, .unset, .unset, .unset] [(.long (q0 &&& (9223372036854775807 : Int64)))])) _
    refine XS.lload X0.here hx rfl (hb hby at_16) rfl ?_
    show Steps p.tables e below (s₁.setTop (mkF m 18 #[.val (.long q0), .second, .val (.long q1), .second, .val (.int p2), .val (.long (q0 &&& (9223372036854775807 : Int64))), .second, .val (.long (q1 &&& (9223372036854775807 : Int64))), .second, .unset, .unset, .unset, .unset, .unset, .unset, .unset, .unset, .unset, .unset, .unset, .unset] [(.long (q1 &&& (9223372036854775807 : Int64))), (.long (q0 &&& (9223372036854775807 : Int64)))])) _
    refine st1 _ ?_
    show Steps p.tables e below (T1.setTop (mkF m 21 #[.val (.long q0), .second, .val (.long q1), .second, .val (.int p2), .val (.long (q0 &&& (9223372036854775807 : Int64))), .second, .val (.long (q1 &&& (9223372036854775807 : Int64))), .second, .unset, .unset, .unset, .unset, .unset, .unset, .unset, .unset, .unset, .unset, .unset, .unset] [(.long (own_min (q0 &&& (9223372036854775807 : Int64)) (q1 &&& (9223372036854775807 : Int64))))])) _
    refine XS.lstore X1.here hx rfl (hb hby at_21) rfl (l' := #[.val (.long q0), .second, .val (.long q1), .second, .val (.int p2), .val (.long (q0 &&& (9223372036854775807 : Int64))), .second, .val (.long (q1 &&& (9223372036854775807 : Int64))), .second, .val (.long (own_min (q0 &&& (9223372036854775807 : Int64)) (q1 &&& (9223372036854775807 : Int64)))), .second, .unset, .unset, .unset, .unset, .unset, .unset, .unset, .unset, .unset, .unset]) rfl ?_
    show Steps p.tables e below (T1.setTop (mkF m 23 #[.val (.long q0), .second, .val (.long q1), .second, .val (.int p2), .val (.long (q0 &&& (9223372036854775807 : Int64))), .second, .val (.long (q1 &&& (9223372036854775807 : Int64))), .second, .val (.long (own_min (q0 &&& (9223372036854775807 : Int64)) (q1 &&& (9223372036854775807 : Int64)))), .second, .unset, .unset, .unset, .unset, .unset, .unset, .unset, .unset, .unset, .unset] [])) _
    refine XS.lload X1.here hx rfl (hb hby at_23) rfl ?_
    show Steps p.tables e below (T1.setTop (mkF m 25 #[.val (.long q0), .second, .val (.long q1), .second, .val (.int p2), .val (.long (q0 &&& (9223372036854775807 : Int64))), .second, .val (.long (q1 &&& (9223372036854775807 : Int64))), .second, .val (.long (own_min (q0 &&& (9223372036854775807 : Int64)) (q1 &&& (9223372036854775807 : Int64)))), .second, .unset, .unset, .unset, .unset, .unset, .unset, .unset, .unset, .unset, .unset] [(.long (q0 &&& (9223372036854775807 : Int64)))])) _
    refine XS.lload X1.here hx rfl (hb hby at_25) rfl ?_
    show Steps p.tables e below (T1.setTop (mkF m 27 #[.val (.long q0), .second, .val (.long q1), .second, .val (.int p2), .val (.long (q0 &&& (9223372036854775807 : Int64))), .second, .val (.long (q1 &&& (9223372036854775807 : Int64))), .second, .val (.long (own_min (q0 &&& (9223372036854775807 : Int64)) (q1 &&& (9223372036854775807 : Int64)))), .second, .unset, .unset, .unset, .unset, .unset, .unset, .unset, .unset, .unset, .unset] [(.long (q1 &&& (9223372036854775807 : Int64))), (.long (q0 &&& (9223372036854775807 : Int64)))])) _
    refine st2 _ ?_
    show Steps p.tables e below (T2.setTop (mkF m 30 #[.val (.long q0), .second, .val (.long q1), .second, .val (.int p2), .val (.long (q0 &&& (9223372036854775807 : Int64))), .second, .val (.long (q1 &&& (9223372036854775807 : Int64))), .second, .val (.long (own_min (q0 &&& (9223372036854775807 : Int64)) (q1 &&& (9223372036854775807 : Int64)))), .second, .unset, .unset, .unset, .unset, .unset, .unset, .unset, .unset, .unset, .unset] [(.long (own_max (q0 &&& (9223372036854775807 : Int64)) (q1 &&& (9223372036854775807 : Int64))))])) _
    refine XS.lstore X2.here hx rfl (hb hby at_30) rfl (l' := #[.val (.long q0), .second, .val (.long q1), .second, .val (.int p2), .val (.long (q0 &&& (9223372036854775807 : Int64))), .second, .val (.long (q1 &&& (9223372036854775807 : Int64))), .second, .val (.long (own_min (q0 &&& (9223372036854775807 : Int64)) (q1 &&& (9223372036854775807 : Int64)))), .second, .val (.long (own_max (q0 &&& (9223372036854775807 : Int64)) (q1 &&& (9223372036854775807 : Int64)))), .second, .unset, .unset, .unset, .unset, .unset, .unset, .unset, .unset]) rfl ?_
    show Steps p.tables e below (T2.setTop (mkF m 32 #[.val (.long q0), .second, .val (.long q1), .second, .val (.int p2), .val (.long (q0 &&& (9223372036854775807 : Int64))), .second, .val (.long (q1 &&& (9223372036854775807 : Int64))), .second, .val (.long (own_min (q0 &&& (9223372036854775807 : Int64)) (q1 &&& (9223372036854775807 : Int64)))), .second, .val (.long (own_max (q0 &&& (9223372036854775807 : Int64)) (q1 &&& (9223372036854775807 : Int64)))), .second, .unset, .unset, .unset, .unset, .unset, .unset, .unset, .unset] [])) _
    refine XS.lload X2.here hx rfl (hb hby at_32) rfl ?_
    show Steps p.tables e below (T2.setTop (mkF m 34 #[.val (.long q0), .second, .val (.long q1), .second, .val (.int p2), .val (.long (q0 &&& (9223372036854775807 : Int64))), .second, .val (.long (q1 &&& (9223372036854775807 : Int64))), .second, .val (.long (own_min (q0 &&& (9223372036854775807 : Int64)) (q1 &&& (9223372036854775807 : Int64)))), .second, .val (.long (own_max (q0 &&& (9223372036854775807 : Int64)) (q1 &&& (9223372036854775807 : Int64)))), .second, .unset, .unset, .unset, .unset, .unset, .unset, .unset, .unset] [(.long (own_max (q0 &&& (9223372036854775807 : Int64)) (q1 &&& (9223372036854775807 : Int64))))])) _
    refine XS.lload X2.here hx rfl (hb hby at_34) rfl ?_
    show Steps p.tables e below (T2.setTop (mkF m 36 #[.val (.long q0), .second, .val (.long q1), .second, .val (.int p2), .val (.long (q0 &&& (9223372036854775807 : Int64))), .second, .val (.long (q1 &&& (9223372036854775807 : Int64))), .second, .val (.long (own_min (q0 &&& (9223372036854775807 : Int64)) (q1 &&& (9223372036854775807 : Int64)))), .second, .val (.long (own_max (q0 &&& (9223372036854775807 : Int64)) (q1 &&& (9223372036854775807 : Int64)))), .second, .unset, .unset, .unset, .unset, .unset, .unset, .unset, .unset] [(.long (own_min (q0 &&& (9223372036854775807 : Int64)) (q1 &&& (9223372036854775807 : Int64)))), (.long (own_max (q0 &&& (9223372036854775807 : Int64)) (q1 &&& (9223372036854775807 : Int64))))])) _
    refine XS.lsub X2.here hx rfl (hb hby at_36) rfl ?_
    show Steps p.tables e below (T2.setTop (mkF m 37 #[.val (.long q0), .second, .val (.long q1), .second, .val (.int p2), .val (.long (q0 &&& (9223372036854775807 : Int64))), .second, .val (.long (q1 &&& (9223372036854775807 : Int64))), .second, .val (.long (own_min (q0 &&& (9223372036854775807 : Int64)) (q1 &&& (9223372036854775807 : Int64)))), .second, .val (.long (own_max (q0 &&& (9223372036854775807 : Int64)) (q1 &&& (9223372036854775807 : Int64)))), .second, .unset, .unset, .unset, .unset, .unset, .unset, .unset, .unset] [(.long ((own_max (q0 &&& (9223372036854775807 : Int64)) (q1 &&& (9223372036854775807 : Int64))) - (own_min (q0 &&& (9223372036854775807 : Int64)) (q1 &&& (9223372036854775807 : Int64)))))])) _
    refine XS.lconst X2.here hx rfl (hb hby at_37) ?_
    show Steps p.tables e below (T2.setTop (mkF m 38 #[.val (.long q0), .second, .val (.long q1), .second, .val (.int p2), .val (.long (q0 &&& (9223372036854775807 : Int64))), .second, .val (.long (q1 &&& (9223372036854775807 : Int64))), .second, .val (.long (own_min (q0 &&& (9223372036854775807 : Int64)) (q1 &&& (9223372036854775807 : Int64)))), .second, .val (.long (own_max (q0 &&& (9223372036854775807 : Int64)) (q1 &&& (9223372036854775807 : Int64)))), .second, .unset, .unset, .unset, .unset, .unset, .unset, .unset, .unset] [(.long (1 : Int64)), (.long ((own_max (q0 &&& (9223372036854775807 : Int64)) (q1 &&& (9223372036854775807 : Int64))) - (own_min (q0 &&& (9223372036854775807 : Int64)) (q1 &&& (9223372036854775807 : Int64)))))])) _
    refine XS.ladd X2.here hx rfl (hb hby at_38) rfl ?_
    show Steps p.tables e below (T2.setTop (mkF m 39 #[.val (.long q0), .second, .val (.long q1), .second, .val (.int p2), .val (.long (q0 &&& (9223372036854775807 : Int64))), .second, .val (.long (q1 &&& (9223372036854775807 : Int64))), .second, .val (.long (own_min (q0 &&& (9223372036854775807 : Int64)) (q1 &&& (9223372036854775807 : Int64)))), .second, .val (.long (own_max (q0 &&& (9223372036854775807 : Int64)) (q1 &&& (9223372036854775807 : Int64)))), .second, .unset, .unset, .unset, .unset, .unset, .unset, .unset, .unset] [(.long (((own_max (q0 &&& (9223372036854775807 : Int64)) (q1 &&& (9223372036854775807 : Int64))) - (own_min (q0 &&& (9223372036854775807 : Int64)) (q1 &&& (9223372036854775807 : Int64)))) + (1 : Int64)))])) _
    refine XS.lstore X2.here hx rfl (hb hby at_39) rfl (l' := #[.val (.long q0), .second, .val (.long q1), .second, .val (.int p2), .val (.long (q0 &&& (9223372036854775807 : Int64))), .second, .val (.long (q1 &&& (9223372036854775807 : Int64))), .second, .val (.long (own_min (q0 &&& (9223372036854775807 : Int64)) (q1 &&& (9223372036854775807 : Int64)))), .second, .val (.long (own_max (q0 &&& (9223372036854775807 : Int64)) (q1 &&& (9223372036854775807 : Int64)))), .second, .val (.long (((own_max (q0 &&& (9223372036854775807 : Int64)) (q1 &&& (9223372036854775807 : Int64))) - (own_min (q0 &&& (9223372036854775807 : Int64)) (q1 &&& (9223372036854775807 : Int64)))) + (1 : Int64))), .second, .unset, .unset, .unset, .unset, .unset, .unset]) rfl ?_
    show Steps p.tables e below (T2.setTop (mkF m 41 #[.val (.long q0), .second, .val (.long q1), .second, .val (.int p2), .val (.long (q0 &&& (9223372036854775807 : Int64))), .second, .val (.long (q1 &&& (9223372036854775807 : Int64))), .second, .val (.long (own_min (q0 &&& (9223372036854775807 : Int64)) (q1 &&& (9223372036854775807 : Int64)))), .second, .val (.long (own_max (q0 &&& (9223372036854775807 : Int64)) (q1 &&& (9223372036854775807 : Int64)))), .second, .val (.long (((own_max (q0 &&& (9223372036854775807 : Int64)) (q1 &&& (9223372036854775807 : Int64))) - (own_min (q0 &&& (9223372036854775807 : Int64)) (q1 &&& (9223372036854775807 : Int64)))) + (1 : Int64))), .second, .unset, .unset, .unset, .unset, .unset, .unset] [])) _
    refine XS.lload X2.here hx rfl (hb hby at_41) rfl ?_
    show Steps p.tables e below (T2.setTop (mkF m 43 #[.val (.long q0), .second, .val (.long q1), .second, .val (.int p2), .val (.long (q0 &&& (9223372036854775807 : Int64))), .second, .val (.long (q1 &&& (9223372036854775807 : Int64))), .second, .val (.long (own_min (q0 &&& (9223372036854775807 : Int64)) (q1 &&& (9223372036854775807 : Int64)))), .second, .val (.long (own_max (q0 &&& (9223372036854775807 : Int64)) (q1 &&& (9223372036854775807 : Int64)))), .second, .val (.long (((own_max (q0 &&& (9223372036854775807 : Int64)) (q1 &&& (9223372036854775807 : Int64))) - (own_min (q0 &&& (9223372036854775807 : Int64)) (q1 &&& (9223372036854775807 : Int64)))) + (1 : Int64))), .second, .unset, .unset, .unset, .unset, .unset, .unset] [(.long (((own_max (q0 &&& (9223372036854775807 : Int64)) (q1 &&& (9223372036854775807 : Int64))) - (own_min (q0 &&& (9223372036854775807 : Int64)) (q1 &&& (9223372036854775807 : Int64)))) + (1 : Int64)))])) _
    refine XS.lconst X2.here hx rfl (hb hby at_43) ?_
    show Steps p.tables e below (T2.setTop (mkF m 44 #[.val (.long q0), .second, .val (.long q1), .second, .val (.int p2), .val (.long (q0 &&& (9223372036854775807 : Int64))), .second, .val (.long (q1 &&& (9223372036854775807 : Int64))), .second, .val (.long (own_min (q0 &&& (9223372036854775807 : Int64)) (q1 &&& (9223372036854775807 : Int64)))), .second, .val (.long (own_max (q0 &&& (9223372036854775807 : Int64)) (q1 &&& (9223372036854775807 : Int64)))), .second, .val (.long (((own_max (q0 &&& (9223372036854775807 : Int64)) (q1 &&& (9223372036854775807 : Int64))) - (own_min (q0 &&& (9223372036854775807 : Int64)) (q1 &&& (9223372036854775807 : Int64)))) + (1 : Int64))), .second, .unset, .unset, .unset, .unset, .unset, .unset] [(.long (1 : Int64)), (.long (((own_max (q0 &&& (9223372036854775807 : Int64)) (q1 &&& (9223372036854775807 : Int64))) - (own_min (q0 &&& (9223372036854775807 : Int64)) (q1 &&& (9223372036854775807 : Int64)))) + (1 : Int64)))])) _
    refine XS.lcmp X2.here hx rfl (hb hby at_44) rfl ?_
    show Steps p.tables e below (T2.setTop (mkF m 45 #[.val (.long q0), .second, .val (.long q1), .second, .val (.int p2), .val (.long (q0 &&& (9223372036854775807 : Int64))), .second, .val (.long (q1 &&& (9223372036854775807 : Int64))), .second, .val (.long (own_min (q0 &&& (9223372036854775807 : Int64)) (q1 &&& (9223372036854775807 : Int64)))), .second, .val (.long (own_max (q0 &&& (9223372036854775807 : Int64)) (q1 &&& (9223372036854775807 : Int64)))), .second, .val (.long (((own_max (q0 &&& (9223372036854775807 : Int64)) (q1 &&& (9223372036854775807 : Int64))) - (own_min (q0 &&& (9223372036854775807 : Int64)) (q1 &&& (9223372036854775807 : Int64)))) + (1 : Int64))), .second, .unset, .unset, .unset, .unset, .unset, .unset] [(.int (lcmpW (((own_max (q0 &&& (9223372036854775807 : Int64)) (q1 &&& (9223372036854775807 : Int64))) - (own_min (q0 &&& (9223372036854775807 : Int64)) (q1 &&& (9223372036854775807 : Int64)))) + (1 : Int64)) (1 : Int64)))])) _
    exact q)
  by_cases hc4 : (((own_max (q0 &&& (9223372036854775807 : Int64)) (q1 &&& (9223372036854775807 : Int64))) - (own_min (q0 &&& (9223372036854775807 : Int64)) (q1 &&& (9223372036854775807 : Int64)))) + (1 : Int64)) < (1 : Int64)
  ·
    have k5 : own_To p e below T2 (mkF m 49 #[.val (.long q0), .second, .val (.long q1), .second, .val (.int p2), .val (.long (q0 &&& (9223372036854775807 : Int64))), .second, .val (.long (q1 &&& (9223372036854775807 : Int64))), .second, .val (.long (own_min (q0 &&& (9223372036854775807 : Int64)) (q1 &&& (9223372036854775807 : Int64)))), .second, .val (.long (own_max (q0 &&& (9223372036854775807 : Int64)) (q1 &&& (9223372036854775807 : Int64)))), .second, .val (.long (((own_max (q0 &&& (9223372036854775807 : Int64)) (q1 &&& (9223372036854775807 : Int64))) - (own_min (q0 &&& (9223372036854775807 : Int64)) (q1 &&& (9223372036854775807 : Int64)))) + (1 : Int64))), .second, .unset, .unset, .unset, .unset, .unset, .unset] [(.int (1 : Int32))]) s₁ (mkF m 0 #[.val (.long q0), .second, .val (.long q1), .second, .val (.int p2), .unset, .unset, .unset, .unset, .unset, .unset, .unset, .unset, .unset, .unset, .unset, .unset, .unset, .unset, .unset, .unset] []) := fun t q => k3 t (by
      refine XS.ifNo X2.here hx rfl (hb hby at_45) rfl ((if0 _ _).trans (tlt ((lw_lt (((own_max (q0 &&& (9223372036854775807 : Int64)) (q1 &&& (9223372036854775807 : Int64))) - (own_min (q0 &&& (9223372036854775807 : Int64)) (q1 &&& (9223372036854775807 : Int64)))) + (1 : Int64)) (1 : Int64)).mpr hc4)).2.1) ?_
      show Steps p.tables e below (T2.setTop (mkF m 48 #[.val (.long q0), .second, .val (.long q1), .second, .val (.int p2), .val (.long (q0 &&& (9223372036854775807 : Int64))), .second, .val (.long (q1 &&& (9223372036854775807 : Int64))), .second, .val (.long (own_min (q0 &&& (9223372036854775807 : Int64)) (q1 &&& (9223372036854775807 : Int64)))), .second, .val (.long (own_max (q0 &&& (9223372036854775807 : Int64)) (q1 &&& (9223372036854775807 : Int64)))), .second, .val (.long (((own_max (q0 &&& (9223372036854775807 : Int64)) (q1 &&& (9223372036854775807 : Int64))) - (own_min (q0 &&& (9223372036854775807 : Int64)) (q1 &&& (9223372036854775807 : Int64)))) + (1 : Int64))), .second, .unset, .unset, .unset, .unset, .unset, .unset] [])) _
      refine XS.iconst X2.here hx rfl (hb hby at_48) ?_
      show Steps p.tables e below (T2.setTop (mkF m 49 #[.val (.long q0), .second, .val (.long q1), .second, .val (.int p2), .val (.long (q0 &&& (9223372036854775807 : Int64))), .second, .val (.long (q1 &&& (9223372036854775807 : Int64))), .second, .val (.long (own_min (q0 &&& (9223372036854775807 : Int64)) (q1 &&& (9223372036854775807 : Int64)))), .second, .val (.long (own_max (q0 &&& (9223372036854775807 : Int64)) (q1 &&& (9223372036854775807 : Int64)))), .second, .val (.long (((own_max (q0 &&& (9223372036854775807 : Int64)) (q1 &&& (9223372036854775807 : Int64))) - (own_min (q0 &&& (9223372036854775807 : Int64)) (q1 &&& (9223372036854775807 : Int64)))) + (1 : Int64))), .second, .unset, .unset, .unset, .unset, .unset, .unset] [(.int (1 : Int32))])) _
      exact q)
    obtain ⟨fs, hr, hrun, hended, hW, hsame⟩ := X2.leave (v := some (.int (1 : Int32))) (fun h => by rw [Bd.returns] at h; cases h)
    refine ⟨_, _, k0 _ (k5 _ ?_), hrun, hended, _, _, rfl, ?_, ⟨_, rfl⟩, hW, hsame.mono (by decide) (by decide)⟩
    · show Steps p.tables e below (T2.setTop (mkF m 49 #[.val (.long q0), .second, .val (.long q1), .second, .val (.int p2), .val (.long (q0 &&& (9223372036854775807 : Int64))), .second, .val (.long (q1 &&& (9223372036854775807 : Int64))), .second, .val (.long (own_min (q0 &&& (9223372036854775807 : Int64)) (q1 &&& (9223372036854775807 : Int64)))), .second, .val (.long (own_max (q0 &&& (9223372036854775807 : Int64)) (q1 &&& (9223372036854775807 : Int64)))), .second, .val (.long (((own_max (q0 &&& (9223372036854775807 : Int64)) (q1 &&& (9223372036854775807 : Int64))) - (own_min (q0 &&& (9223372036854775807 : Int64)) (q1 &&& (9223372036854775807 : Int64)))) + (1 : Int64))), .second, .unset, .unset, .unset, .unset, .unset, .unset] [(.int (1 : Int32))])) _
      exact retN X2 hx (t := .boolean) Bd.returns (by simp) (hb hby at_49) hr
    · show Q0 Z q0 q1 p2 h0 n0 _ T2.heap _
      rw [e2]
      exact ⟨rfl, N2⟩
  ·
    obtain ⟨m1, m2, m3⟩ := own_mm (q0 &&& (9223372036854775807 : Int64)) (q1 &&& (9223372036854775807 : Int64)) (by rw [c_maskL q0 9223372036854775807 63 (by decide) (by decide)]; omega) (by rw [c_maskL q1 9223372036854775807 63 (by decide) (by decide)]; omega)
    have hlen : 0 ≤ ((((own_max (q0 &&& (9223372036854775807 : Int64)) (q1 &&& (9223372036854775807 : Int64))) - (own_min (q0 &&& (9223372036854775807 : Int64)) (q1 &&& (9223372036854775807 : Int64)))) + (1 : Int64))).toInt := by rw [Int64.lt_iff_toInt_lt, show (1 : Int64).toInt = 1 from rfl] at hc4; omega
    have eabo := own_abo (own_max (q0 &&& (9223372036854775807 : Int64)) (q1 &&& (9223372036854775807 : Int64))) (own_min (q0 &&& (9223372036854775807 : Int64)) (q1 &&& (9223372036854775807 : Int64))) m2 m1
    have habo : 0 ≤ (((own_max (q0 &&& (9223372036854775807 : Int64)) (q1 &&& (9223372036854775807 : Int64))) + (1 : Int64)) - (((own_max (q0 &&& (9223372036854775807 : Int64)) (q1 &&& (9223372036854775807 : Int64))) - (own_min (q0 &&& (9223372036854775807 : Int64)) (q1 &&& (9223372036854775807 : Int64)))) + (1 : Int64))).toInt := by rw [eabo]; exact m1
    have k6 : own_To p e below T2 (mkF m 58 #[.val (.long q0), .second, .val (.long q1), .second, .val (.int p2), .val (.long (q0 &&& (9223372036854775807 : Int64))), .second, .val (.long (q1 &&& (9223372036854775807 : Int64))), .second, .val (.long (own_min (q0 &&& (9223372036854775807 : Int64)) (q1 &&& (9223372036854775807 : Int64)))), .second, .val (.long (own_max (q0 &&& (9223372036854775807 : Int64)) (q1 &&& (9223372036854775807 : Int64)))), .second, .val (.long (((own_max (q0 &&& (9223372036854775807 : Int64)) (q1 &&& (9223372036854775807 : Int64))) - (own_min (q0 &&& (9223372036854775807 : Int64)) (q1 &&& (9223372036854775807 : Int64)))) + (1 : Int64))), .second, .val (.long (own_max (q0 &&& (9223372036854775807 : Int64)) (q1 &&& (9223372036854775807 : Int64)))), .second, .unset, .unset, .unset, .unset] [(.int (p2 &&& (1 : Int32)))]) s₁ (mkF m 0 #[.val (.long q0), .second, .val (.long q1), .second, .val (.int p2), .unset, .unset, .unset, .unset, .unset, .unset, .unset, .unset, .unset, .unset, .unset, .unset, .unset, .unset, .unset, .unset] []) := fun t q => k3 t (by
      refine XS.ifYes X2.here hx rfl (pc0 := 45) (pc' := 50) rfl (hb hby at_45) rfl ((if0 _ _).trans (flt (mt (lw_lt (((own_max (q0 &&& (9223372036854775807 : Int64)) (q1 &&& (9223372036854775807 : Int64))) - (own_min (q0 &&& (9223372036854775807 : Int64)) (q1 &&& (9223372036854775807 : Int64)))) + (1 : Int64)) (1 : Int64)).mp hc4)).2.1) (by decide) (by decide) ?_
      show Steps p.tables e below (T2.setTop (mkF m 50 #[.val (.long q0), .second, .val (.long q1), .second, .val (.int p2), .val (.long (q0 &&& (9223372036854775807 : Int64))), .second, .val (.long (q1 &&& (9223372036854775807 : Int64))), .second, .val (.long (own_min (q0 &&& (9223372036854775807 : Int64)) (q1 &&& (9223372036854775807 : Int64)))), .second, .val (.long (own_max (q0 &&& (9223372036854775807 : Int64)) (q1 &&& (9223372036854775807 : Int64)))), .second, .val (.long (((own_max (q0 &&& (9223372036854775807 : Int64)) (q1 &&& (9223372036854775807 : Int64))) - (own_min (q0 &&& (9223372036854775807 : Int64)) (q1 &&& (9223372036854775807 : Int64)))) + (1 : Int64))), .second, .unset, .unset, .unset, .unset, .unset, .unset] [])) _
      refine XS.lload X2.here hx rfl (hb hby at_50) rfl ?_
      show Steps p.tables e below (T2.setTop (mkF m 52 #[.val (.long q0), .second, .val (.long q1), .second, .val (.int p2), .val (.long (q0 &&& (9223372036854775807 : Int64))), .second, .val (.long (q1 &&& (9223372036854775807 : Int64))), .second, .val (.long (own_min (q0 &&& (9223372036854775807 : Int64)) (q1 &&& (9223372036854775807 : Int64)))), .second, .val (.long (own_max (q0 &&& (9223372036854775807 : Int64)) (q1 &&& (9223372036854775807 : Int64)))), .second, .val (.long (((own_max (q0 &&& (9223372036854775807 : Int64)) (q1 &&& (9223372036854775807 : Int64))) - (own_min (q0 &&& (9223372036854775807 : Int64)) (q1 &&& (9223372036854775807 : Int64)))) + (1 : Int64))), .second, .unset, .unset, .unset, .unset, .unset, .unset] [(.long (own_max (q0 &&& (9223372036854775807 : Int64)) (q1 &&& (9223372036854775807 : Int64))))])) _
      refine XS.lstore X2.here hx rfl (hb hby at_52) rfl (l' := #[.val (.long q0), .second, .val (.long q1), .second, .val (.int p2), .val (.long (q0 &&& (9223372036854775807 : Int64))), .second, .val (.long (q1 &&& (9223372036854775807 : Int64))), .second, .val (.long (own_min (q0 &&& (9223372036854775807 : Int64)) (q1 &&& (9223372036854775807 : Int64)))), .second, .val (.long (own_max (q0 &&& (9223372036854775807 : Int64)) (q1 &&& (9223372036854775807 : Int64)))), .second, .val (.long (((own_max (q0 &&& (9223372036854775807 : Int64)) (q1 &&& (9223372036854775807 : Int64))) - (own_min (q0 &&& (9223372036854775807 : Int64)) (q1 &&& (9223372036854775807 : Int64)))) + (1 : Int64))), .second, .val (.long (own_max (q0 &&& (9223372036854775807 : Int64)) (q1 &&& (9223372036854775807 : Int64)))), .second, .unset, .unset, .unset, .unset]) rfl ?_
      show Steps p.tables e below (T2.setTop (mkF m 54 #[.val (.long q0), .second, .val (.long q1), .second, .val (.int p2), .val (.long (q0 &&& (9223372036854775807 : Int64))), .second, .val (.long (q1 &&& (9223372036854775807 : Int64))), .second, .val (.long (own_min (q0 &&& (9223372036854775807 : Int64)) (q1 &&& (9223372036854775807 : Int64)))), .second, .val (.long (own_max (q0 &&& (9223372036854775807 : Int64)) (q1 &&& (9223372036854775807 : Int64)))), .second, .val (.long (((own_max (q0 &&& (9223372036854775807 : Int64)) (q1 &&& (9223372036854775807 : Int64))) - (own_min (q0 &&& (9223372036854775807 : Int64)) (q1 &&& (9223372036854775807 : Int64)))) + (1 : Int64))), .second, .val (.long (own_max (q0 &&& (9223372036854775807 : Int64)) (q1 &&& (9223372036854775807 : Int64)))), .second, .unset, .unset, .unset, .unset] [])) _
      refine XS.iload X2.here hx rfl (hb hby at_54) rfl ?_
      show Steps p.tables e below (T2.setTop (mkF m 56 #[.val (.long q0), .second, .val (.long q1), .second, .val (.int p2), .val (.long (q0 &&& (9223372036854775807 : Int64))), .second, .val (.long (q1 &&& (9223372036854775807 : Int64))), .second, .val (.long (own_min (q0 &&& (9223372036854775807 : Int64)) (q1 &&& (9223372036854775807 : Int64)))), .second, .val (.long (own_max (q0 &&& (9223372036854775807 : Int64)) (q1 &&& (9223372036854775807 : Int64)))), .second, .val (.long (((own_max (q0 &&& (9223372036854775807 : Int64)) (q1 &&& (9223372036854775807 : Int64))) - (own_min (q0 &&& (9223372036854775807 : Int64)) (q1 &&& (9223372036854775807 : Int64)))) + (1 : Int64))), .second, .val (.long (own_max (q0 &&& (9223372036854775807 : Int64)) (q1 &&& (9223372036854775807 : Int64)))), .second, .unset, .unset, .unset, .unset] [(.int p2)])) _
      refine XS.iconst X2.here hx rfl (hb hby at_56) ?_
      show Steps p.tables e below (T2.setTop (mkF m 57 #[.val (.long q0), .second, .val (.long q1), .second, .val (.int p2), .val (.long (q0 &&& (9223372036854775807 : Int64))), .second, .val (.long (q1 &&& (9223372036854775807 : Int64))), .second, .val (.long (own_min (q0 &&& (9223372036854775807 : Int64)) (q1 &&& (9223372036854775807 : Int64)))), .second, .val (.long (own_max (q0 &&& (9223372036854775807 : Int64)) (q1 &&& (9223372036854775807 : Int64)))), .second, .val (.long (((own_max (q0 &&& (9223372036854775807 : Int64)) (q1 &&& (9223372036854775807 : Int64))) - (own_min (q0 &&& (9223372036854775807 : Int64)) (q1 &&& (9223372036854775807 : Int64)))) + (1 : Int64))), .second, .val (.long (own_max (q0 &&& (9223372036854775807 : Int64)) (q1 &&& (9223372036854775807 : Int64)))), .second, .unset, .unset, .unset, .unset] [(.int (1 : Int32)), (.int p2)])) _
      refine XS.iand X2.here hx rfl (hb hby at_57) rfl ?_
      show Steps p.tables e below (T2.setTop (mkF m 58 #[.val (.long q0), .second, .val (.long q1), .second, .val (.int p2), .val (.long (q0 &&& (9223372036854775807 : Int64))), .second, .val (.long (q1 &&& (9223372036854775807 : Int64))), .second, .val (.long (own_min (q0 &&& (9223372036854775807 : Int64)) (q1 &&& (9223372036854775807 : Int64)))), .second, .val (.long (own_max (q0 &&& (9223372036854775807 : Int64)) (q1 &&& (9223372036854775807 : Int64)))), .second, .val (.long (((own_max (q0 &&& (9223372036854775807 : Int64)) (q1 &&& (9223372036854775807 : Int64))) - (own_min (q0 &&& (9223372036854775807 : Int64)) (q1 &&& (9223372036854775807 : Int64)))) + (1 : Int64))), .second, .val (.long (own_max (q0 &&& (9223372036854775807 : Int64)) (q1 &&& (9223372036854775807 : Int64)))), .second, .unset, .unset, .unset, .unset] [(.int (p2 &&& (1 : Int32)))])) _
      exact q)
    obtain ⟨v8, hv8, k9⟩ : ∃ (v8 : Int32), (v8 = (if (p2 &&& (1 : Int32)) = (0 : Int32) then (0 : Int32) else (1 : Int32))) ∧ own_To p e below T2 (mkF m 66 #[.val (.long q0), .second, .val (.long q1), .second, .val (.int p2), .val (.long (q0 &&& (9223372036854775807 : Int64))), .second, .val (.long (q1 &&& (9223372036854775807 : Int64))), .second, .val (.long (own_min (q0 &&& (9223372036854775807 : Int64)) (q1 &&& (9223372036854775807 : Int64)))), .second, .val (.long (own_max (q0 &&& (9223372036854775807 : Int64)) (q1 &&& (9223372036854775807 : Int64)))), .second, .val (.long (((own_max (q0 &&& (9223372036854775807 : Int64)) (q1 &&& (9223372036854775807 : Int64))) - (own_min (q0 &&& (9223372036854775807 : Int64)) (q1 &&& (9223372036854775807 : Int64)))) + (1 : Int64))), .second, .val (.long (own_max (q0 &&& (9223372036854775807 : Int64)) (q1 &&& (9223372036854775807 : Int64)))), .second, .unset, .unset, .unset, .unset] [(.int v8)]) s₁ (mkF m 0 #[.val (.long q0), .second, .val (.long q1), .second, .val (.int p2), .unset, .unset, .unset, .unset, .unset, .unset, .unset, .unset, .unset, .unset, .unset, .unset, .unset, .unset, .unset, .unset] []) := by
      by_cases hm7 : (p2 &&& (1 : Int32)) = (0 : Int32)
      ·
        refine ⟨(0 : Int32), by rw [if_pos hm7], fun t q => k6 t (?_)⟩
        refine XS.ifYes X2.here hx rfl (pc0 := 58) (pc' := 65) rfl (hb hby at_58) rfl ((if0 _ _).trans (teq hm7).1) (by decide) (by decide) ?_
        show Steps p.tables e below (T2.setTop (mkF m 65 #[.val (.long q0), .second, .val (.long q1), .second, .val (.int p2), .val (.long (q0 &&& (9223372036854775807 : Int64))), .second, .val (.long (q1 &&& (9223372036854775807 : Int64))), .second, .val (.long (own_min (q0 &&& (9223372036854775807 : Int64)) (q1 &&& (9223372036854775807 : Int64)))), .second, .val (.long (own_max (q0 &&& (9223372036854775807 : Int64)) (q1 &&& (9223372036854775807 : Int64)))), .second, .val (.long (((own_max (q0 &&& (9223372036854775807 : Int64)) (q1 &&& (9223372036854775807 : Int64))) - (own_min (q0 &&& (9223372036854775807 : Int64)) (q1 &&& (9223372036854775807 : Int64)))) + (1 : Int64))), .second, .val (.long (own_max (q0 &&& (9223372036854775807 : Int64)) (q1 &&& (9223372036854775807 : Int64)))), .second, .unset, .unset, .unset, .unset] [])) _
        refine XS.iconst X2.here hx rfl (hb hby at_65) ?_
        show Steps p.tables e below (T2.setTop (mkF m 66 #[.val (.long q0), .second, .val (.long q1), .second, .val (.int p2), .val (.long (q0 &&& (9223372036854775807 : Int64))), .second, .val (.long (q1 &&& (9223372036854775807 : Int64))), .second, .val (.long (own_min (q0 &&& (9223372036854775807 : Int64)) (q1 &&& (9223372036854775807 : Int64)))), .second, .val (.long (own_max (q0 &&& (9223372036854775807 : Int64)) (q1 &&& (9223372036854775807 : Int64)))), .second, .val (.long (((own_max (q0 &&& (9223372036854775807 : Int64)) (q1 &&& (9223372036854775807 : Int64))) - (own_min (q0 &&& (9223372036854775807 : Int64)) (q1 &&& (9223372036854775807 : Int64)))) + (1 : Int64))), .second, .val (.long (own_max (q0 &&& (9223372036854775807 : Int64)) (q1 &&& (9223372036854775807 : Int64)))), .second, .unset, .unset, .unset, .unset] [(.int (0 : Int32))])) _
        exact q
      ·
        refine ⟨(1 : Int32), by rw [if_neg hm7], fun t q => k6 t (?_)⟩
        refine XS.ifNo X2.here hx rfl (hb hby at_58) rfl ((if0 _ _).trans (feq hm7).1) ?_
        show Steps p.tables e below (T2.setTop (mkF m 61 #[.val (.long q0), .second, .val (.long q1), .second, .val (.int p2), .val (.long (q0 &&& (9223372036854775807 : Int64))), .second, .val (.long (q1 &&& (9223372036854775807 : Int64))), .second, .val (.long (own_min (q0 &&& (9223372036854775807 : Int64)) (q1 &&& (9223372036854775807 : Int64)))), .second, .val (.long (own_max (q0 &&& (9223372036854775807 : Int64)) (q1 &&& (9223372036854775807 : Int64)))), .second, .val (.long (((own_max (q0 &&& (9223372036854775807 : Int64)) (q1 &&& (9223372036854775807 : Int64))) - (own_min (q0 &&& (9223372036854775807 : Int64)) (q1 &&& (9223372036854775807 : Int64)))) + (1 : Int64))), .second, .val (.long (own_max (q0 &&& (9223372036854775807 : Int64)) (q1 &&& (9223372036854775807 : Int64)))), .second, .unset, .unset, .unset, .unset] [])) _
        refine XS.iconst X2.here hx rfl (hb hby at_61) ?_
        show Steps p.tables e below (T2.setTop (mkF m 62 #[.val (.long q0), .second, .val (.long q1), .second, .val (.int p2), .val (.long (q0 &&& (9223372036854775807 : Int64))), .second, .val (.long (q1 &&& (9223372036854775807 : Int64))), .second, .val (.long (own_min (q0 &&& (9223372036854775807 : Int64)) (q1 &&& (9223372036854775807 : Int64)))), .second, .val (.long (own_max (q0 &&& (9223372036854775807 : Int64)) (q1 &&& (9223372036854775807 : Int64)))), .second, .val (.long (((own_max (q0 &&& (9223372036854775807 : Int64)) (q1 &&& (9223372036854775807 : Int64))) - (own_min (q0 &&& (9223372036854775807 : Int64)) (q1 &&& (9223372036854775807 : Int64)))) + (1 : Int64))), .second, .val (.long (own_max (q0 &&& (9223372036854775807 : Int64)) (q1 &&& (9223372036854775807 : Int64)))), .second, .unset, .unset, .unset, .unset] [(.int (1 : Int32))])) _
        refine XS.goto X2.here hx rfl (pc0 := 62) (pc' := 66) rfl (hb hby at_62) (by decide) (by decide) ?_
        show Steps p.tables e below (T2.setTop (mkF m 66 #[.val (.long q0), .second, .val (.long q1), .second, .val (.int p2), .val (.long (q0 &&& (9223372036854775807 : Int64))), .second, .val (.long (q1 &&& (9223372036854775807 : Int64))), .second, .val (.long (own_min (q0 &&& (9223372036854775807 : Int64)) (q1 &&& (9223372036854775807 : Int64)))), .second, .val (.long (own_max (q0 &&& (9223372036854775807 : Int64)) (q1 &&& (9223372036854775807 : Int64)))), .second, .val (.long (((own_max (q0 &&& (9223372036854775807 : Int64)) (q1 &&& (9223372036854775807 : Int64))) - (own_min (q0 &&& (9223372036854775807 : Int64)) (q1 &&& (9223372036854775807 : Int64)))) + (1 : Int64))), .second, .val (.long (own_max (q0 &&& (9223372036854775807 : Int64)) (q1 &&& (9223372036854775807 : Int64)))), .second, .unset, .unset, .unset, .unset] [(.int (1 : Int32))])) _
        exact q
    have k10 : own_To p e below T2 (mkF m 72 #[.val (.long q0), .second, .val (.long q1), .second, .val (.int p2), .val (.long (q0 &&& (9223372036854775807 : Int64))), .second, .val (.long (q1 &&& (9223372036854775807 : Int64))), .second, .val (.long (own_min (q0 &&& (9223372036854775807 : Int64)) (q1 &&& (9223372036854775807 : Int64)))), .second, .val (.long (own_max (q0 &&& (9223372036854775807 : Int64)) (q1 &&& (9223372036854775807 : Int64)))), .second, .val (.long (((own_max (q0 &&& (9223372036854775807 : Int64)) (q1 &&& (9223372036854775807 : Int64))) - (own_min (q0 &&& (9223372036854775807 : Int64)) (q1 &&& (9223372036854775807 : Int64)))) + (1 : Int64))), .second, .val (.long (own_max (q0 &&& (9223372036854775807 : Int64)) (q1 &&& (9223372036854775807 : Int64)))), .second, .val (.int v8), .unset, .unset, .unset] [(.int (p2 &&& (2 : Int32)))]) s₁ (mkF m 0 #[.val (.long q0), .second, .val (.long q1), .second, .val (.int p2), .unset, .unset, .unset, .unset, .unset, .unset, .unset, .unset, .unset, .unset, .unset, .unset, .unset, .unset, .unset, .unset] []) := fun t q => k9 t (by
      refine XS.istore X2.here hx rfl (hb hby at_66) rfl (l' := #[.val (.long q0), .second, .val (.long q1), .second, .val (.int p2), .val (.long (q0 &&& (9223372036854775807 : Int64))), .second, .val (.long (q1 &&& (9223372036854775807 : Int64))), .second, .val (.long (own_min (q0 &&& (9223372036854775807 : Int64)) (q1 &&& (9223372036854775807 : Int64)))), .second, .val (.long (own_max (q0 &&& (9223372036854775807 : Int64)) (q1 &&& (9223372036854775807 : Int64)))), .second, .val (.long (((own_max (q0 &&& (9223372036854775807 : Int64)) (q1 &&& (9223372036854775807 : Int64))) - (own_min (q0 &&& (9223372036854775807 : Int64)) (q1 &&& (9223372036854775807 : Int64)))) + (1 : Int64))), .second, .val (.long (own_max (q0 &&& (9223372036854775807 : Int64)) (q1 &&& (9223372036854775807 : Int64)))), .second, .val (.int v8), .unset, .unset, .unset]) rfl ?_
      show Steps p.tables e below (T2.setTop (mkF m 68 #[.val (.long q0), .second, .val (.long q1), .second, .val (.int p2), .val (.long (q0 &&& (9223372036854775807 : Int64))), .second, .val (.long (q1 &&& (9223372036854775807 : Int64))), .second, .val (.long (own_min (q0 &&& (9223372036854775807 : Int64)) (q1 &&& (9223372036854775807 : Int64)))), .second, .val (.long (own_max (q0 &&& (9223372036854775807 : Int64)) (q1 &&& (9223372036854775807 : Int64)))), .second, .val (.long (((own_max (q0 &&& (9223372036854775807 : Int64)) (q1 &&& (9223372036854775807 : Int64))) - (own_min (q0 &&& (9223372036854775807 : Int64)) (q1 &&& (9223372036854775807 : Int64)))) + (1 : Int64))), .second, .val (.long (own_max (q0 &&& (9223372036854775807 : Int64)) (q1 &&& (9223372036854775807 : Int64)))), .second, .val (.int v8), .unset, .unset, .unset] [])) _
      refine XS.iload X2.here hx rfl (hb hby at_68) rfl ?_
      show Steps p.tables e below (T2.setTop (mkF m 70 #[.val (.long q0), .second, .val (.long q1), .second, .val (.int p2), .val (.long (q0 &&& (9223372036854775807 : Int64))), .second, .val (.long (q1 &&& (9223372036854775807 : Int64))), .second, .val (.long (own_min (q0 &&& (9223372036854775807 : Int64)) (q1 &&& (9223372036854775807 : Int64)))), .second, .val (.long (own_max (q0 &&& (9223372036854775807 : Int64)) (q1 &&& (9223372036854775807 : Int64)))), .second, .val (.long (((own_max (q0 &&& (9223372036854775807 : Int64)) (q1 &&& (9223372036854775807 : Int64))) - (own_min (q0 &&& (9223372036854775807 : Int64)) (q1 &&& (9223372036854775807 : Int64)))) + (1 : Int64))), .second, .val (.long (own_max (q0 &&& (9223372036854775807 : Int64)) (q1 &&& (9223372036854775807 : Int64)))), .second, .val (.int v8), .unset, .unset, .unset] [(.int p2)])) _
      refine XS.iconst X2.here hx rfl (hb hby at_70) ?_
      show Steps p.tables e below (T2.setTop (mkF m 71 #[.val (.long q0), .second, .val (.long q1), .second, .val (.int p2), .val (.long (q0 &&& (9223372036854775807 : Int64))), .second, .val (.long (q1 &&& (9223372036854775807 : Int64))), .second, .val (.long (own_min (q0 &&& (9223372036854775807 : Int64)) (q1 &&& (9223372036854775807 : Int64)))), .second, .val (.long (own_max (q0 &&& (9223372036854775807 : Int64)) (q1 &&& (9223372036854775807 : Int64)))), .second, .val (.long (((own_max (q0 &&& (9223372036854775807 : Int64)) (q1 &&& (9223372036854775807 : Int64))) - (own_min (q0 &&& (9223372036854775807 : Int64)) (q1 &&& (9223372036854775807 : Int64)))) + (1 : Int64))), .second, .val (.long (own_max (q0 &&& (9223372036854775807 : Int64)) (q1 &&& (9223372036854775807 : Int64)))), .second, .val (.int v8), .unset, .unset, .unset] [(.int (2 : Int32)), (.int p2)])) _
      refine XS.iand X2.here hx rfl (hb hby at_71) rfl ?_
      show Steps p.tables e below (T2.setTop (mkF m 72 #[.val (.long q0), .second, .val (.long q1), .second, .val (.int p2), .val (.long (q0 &&& (9223372036854775807 : Int64))), .second, .val (.long (q1 &&& (9223372036854775807 : Int64))), .second, .val (.long (own_min (q0 &&& (9223372036854775807 : Int64)) (q1 &&& (9223372036854775807 : Int64)))), .second, .val (.long (own_max (q0 &&& (9223372036854775807 : Int64)) (q1 &&& (9223372036854775807 : Int64)))), .second, .val (.long (((own_max (q0 &&& (9223372036854775807 : Int64)) (q1 &&& (9223372036854775807 : Int64))) - (own_min (q0 &&& (9223372036854775807 : Int64)) (q1 &&& (9223372036854775807 : Int64)))) + (1 : Int64))), .second, .val (.long (own_max (q0 &&& (9223372036854775807 : Int64)) (q1 &&& (9223372036854775807 : Int64)))), .second, .val (.int v8), .unset, .unset, .unset] [(.int (p2 &&& (2 : Int32)))])) _
      exact q)
    obtain ⟨v12, hv12, k13⟩ : ∃ (v12 : Int32), (v12 = (if (p2 &&& (2 : Int32)) = (0 : Int32) then (0 : Int32) else (1 : Int32))) ∧ own_To p e below T2 (mkF m 80 #[.val (.long q0), .second, .val (.long q1), .second, .val (.int p2), .val (.long (q0 &&& (9223372036854775807 : Int64))), .second, .val (.long (q1 &&& (9223372036854775807 : Int64))), .second, .val (.long (own_min (q0 &&& (9223372036854775807 : Int64)) (q1 &&& (9223372036854775807 : Int64)))), .second, .val (.long (own_max (q0 &&& (9223372036854775807 : Int64)) (q1 &&& (9223372036854775807 : Int64)))), .second, .val (.long (((own_max (q0 &&& (9223372036854775807 : Int64)) (q1 &&& (9223372036854775807 : Int64))) - (own_min (q0 &&& (9223372036854775807 : Int64)) (q1 &&& (9223372036854775807 : Int64)))) + (1 : Int64))), .second, .val (.long (own_max (q0 &&& (9223372036854775807 : Int64)) (q1 &&& (9223372036854775807 : Int64)))), .second, .val (.int v8), .unset, .unset, .unset] [(.int v12)]) s₁ (mkF m 0 #[.val (.long q0), .second, .val (.long q1), .second, .val (.int p2), .unset, .unset, .unset, .unset, .unset, .unset, .unset, .unset, .unset, .unset, .unset, .unset, .unset, .unset, .unset, .unset] []) := by
      by_cases hm11 : (p2 &&& (2 : Int32)) = (0 : Int32)
      ·
        refine ⟨(0 : Int32), by rw [if_pos hm11], fun t q => k10 t (?_)⟩
        refine XS.ifYes X2.here hx rfl (pc0 := 72) (pc' := 79) rfl (hb hby at_72) rfl ((if0 _ _).trans (teq hm11).1) (by decide) (by decide) ?_
        show Steps p.tables e below (T2.setTop (mkF m 79 #[.val (.long q0), .second, .val (.long q1), .second, .val (.int p2), .val (.long (q0 &&& (9223372036854775807 : Int64))), .second, .val (.long (q1 &&& (9223372036854775807 : Int64))), .second, .val (.long (own_min (q0 &&& (9223372036854775807 : Int64)) (q1 &&& (9223372036854775807 : Int64)))), .second, .val (.long (own_max (q0 &&& (9223372036854775807 : Int64)) (q1 &&& (9223372036854775807 : Int64)))), .second, .val (.long (((own_max (q0 &&& (9223372036854775807 : Int64)) (q1 &&& (9223372036854775807 : Int64))) - (own_min (q0 &&& (9223372036854775807 : Int64)) (q1 &&& (9223372036854775807 : Int64)))) + (1 : Int64))), .second, .val (.long (own_max (q0 &&& (9223372036854775807 : Int64)) (q1 &&& (9223372036854775807 : Int64)))), .second, .val (.int v8), .unset, .unset, .unset] [])) _
        refine XS.iconst X2.here hx rfl (hb hby at_79) ?_
        show Steps p.tables e below (T2.setTop (mkF m 80 #[.val (.long q0), .second, .val (.long q1), .second, .val (.int p2), .val (.long (q0 &&& (9223372036854775807 : Int64))), .second, .val (.long (q1 &&& (9223372036854775807 : Int64))), .second, .val (.long (own_min (q0 &&& (9223372036854775807 : Int64)) (q1 &&& (9223372036854775807 : Int64)))), .second, .val (.long (own_max (q0 &&& (9223372036854775807 : Int64)) (q1 &&& (9223372036854775807 : Int64)))), .second, .val (.long (((own_max (q0 &&& (9223372036854775807 : Int64)) (q1 &&& (9223372036854775807 : Int64))) - (own_min (q0 &&& (9223372036854775807 : Int64)) (q1 &&& (9223372036854775807 : Int64)))) + (1 : Int64))), .second, .val (.long (own_max (q0 &&& (9223372036854775807 : Int64)) (q1 &&& (9223372036854775807 : Int64)))), .second, .val (.int v8), .unset, .unset, .unset] [(.int (0 : Int32))])) _
        exact q
      ·
        refine ⟨(1 : Int32), by rw [if_neg hm11], fun t q => k10 t (?_)⟩
        refine XS.ifNo X2.here hx rfl (hb hby at_72) rfl ((if0 _ _).trans (feq hm11).1) ?_
        show Steps p.tables e below (T2.setTop (mkF m 75 #[.val (.long q0), .second, .val (.long q1), .second, .val (.int p2), .val (.long (q0 &&& (9223372036854775807 : Int64))), .second, .val (.long (q1 &&& (9223372036854775807 : Int64))), .second, .val (.long (own_min (q0 &&& (9223372036854775807 : Int64)) (q1 &&& (9223372036854775807 : Int64)))), .second, .val (.long (own_max (q0 &&& (9223372036854775807 : Int64)) (q1 &&& (9223372036854775807 : Int64)))), .second, .val (.long (((own_max (q0 &&& (9223372036854775807 : Int64)) (q1 &&& (9223372036854775807 : Int64))) - (own_min (q0 &&& (9223372036854775807 : Int64)) (q1 &&& (9223372036854775807 : Int64)))) + (1 : Int64))), .second, .val (.long (own_max (q0 &&& (9223372036854775807 : Int64)) (q1 &&& (9223372036854775807 : Int64)))), .second, .val (.int v8), .unset, .unset, .unset] [])) _
        refine XS.iconst X2.here hx rfl (hb hby at_75) ?_
        show Steps p.tables e below (T2.setTop (mkF m 76 #[.val (.long q0), .second, .val (.long q1), .second, .val (.int p2), .val (.long (q0 &&& (9223372036854775807 : Int64))), .second, .val (.long (q1 &&& (9223372036854775807 : Int64))), .second, .val (.long (own_min (q0 &&& (9223372036854775807 : Int64)) (q1 &&& (9223372036854775807 : Int64)))), .second, .val (.long (own_max (q0 &&& (9223372036854775807 : Int64)) (q1 &&& (9223372036854775807 : Int64)))), .second, .val (.long (((own_max (q0 &&& (9223372036854775807 : Int64)) (q1 &&& (9223372036854775807 : Int64))) - (own_min (q0 &&& (9223372036854775807 : Int64)) (q1 &&& (9223372036854775807 : Int64)))) + (1 : Int64))), .second, .val (.long (own_max (q0 &&& (9223372036854775807 : Int64)) (q1 &&& (9223372036854775807 : Int64)))), .second, .val (.int v8), .unset, .unset, .unset] [(.int (1 : Int32))])) _
        refine XS.goto X2.here hx rfl (pc0 := 76) (pc' := 80) rfl (hb hby at_76) (by decide) (by decide) ?_
        show Steps p.tables e below (T2.setTop (mkF m 80 #[.val (.long q0), .second, .val (.long q1), .second, .val (.int p2), .val (.long (q0 &&& (9223372036854775807 : Int64))), .second, .val (.long (q1 &&& (9223372036854775807 : Int64))), .second, .val (.long (own_min (q0 &&& (9223372036854775807 : Int64)) (q1 &&& (9223372036854775807 : Int64)))), .second, .val (.long (own_max (q0 &&& (9223372036854775807 : Int64)) (q1 &&& (9223372036854775807 : Int64)))), .second, .val (.long (((own_max (q0 &&& (9223372036854775807 : Int64)) (q1 &&& (9223372036854775807 : Int64))) - (own_min (q0 &&& (9223372036854775807 : Int64)) (q1 &&& (9223372036854775807 : Int64)))) + (1 : Int64))), .second, .val (.long (own_max (q0 &&& (9223372036854775807 : Int64)) (q1 &&& (9223372036854775807 : Int64)))), .second, .val (.int v8), .unset, .unset, .unset] [(.int (1 : Int32))])) _
        exact q
    obtain ⟨_, _, ⟨T14, L14, kk14, n14⟩, -, X14, ⟨Lc14, hQ14, l14, y14, z14⟩, st14⟩ := Jvm.LawKit.callS X2 hx (y := (⟨"com/example/ordrly/ordrly/commits/Progress", "mostGrowth", "(JJZZ)I"⟩ : MethodName)) hown (mvT hZ (hw _ (List.mem_of_getElem? (i := 8) rfl))) (mvT hZ (hw _ (List.mem_of_getElem? (i := 9) rfl))) (mvT hZ (hw _ (List.mem_of_getElem? (i := 10) rfl))) (mvT hZ (hw _ (List.mem_of_getElem? (i := 11) rfl))) (by decide) (backOf (W := 0) (rm3 l Z a0 hw [] (own_max (q0 &&& (9223372036854775807 : Int64)) (q1 &&& (9223372036854775807 : Int64))) (((own_max (q0 &&& (9223372036854775807 : Int64)) (q1 &&& (9223372036854775807 : Int64))) - (own_min (q0 &&& (9223372036854775807 : Int64)) (q1 &&& (9223372036854775807 : Int64)))) + (1 : Int64)) v8 v12 h0 n0 Z0 hlen habo) hZ (hw _ (List.mem_of_getElem? (i := 11) rfl)) (hw _ (List.mem_of_getElem? (i := 10) rfl)) (by decide) (by decide)) (g := (mkF m 90 #[.val (.long q0), .second, .val (.long q1), .second, .val (.int p2), .val (.long (q0 &&& (9223372036854775807 : Int64))), .second, .val (.long (q1 &&& (9223372036854775807 : Int64))), .second, .val (.long (own_min (q0 &&& (9223372036854775807 : Int64)) (q1 &&& (9223372036854775807 : Int64)))), .second, .val (.long (own_max (q0 &&& (9223372036854775807 : Int64)) (q1 &&& (9223372036854775807 : Int64)))), .second, .val (.long (((own_max (q0 &&& (9223372036854775807 : Int64)) (q1 &&& (9223372036854775807 : Int64))) - (own_min (q0 &&& (9223372036854775807 : Int64)) (q1 &&& (9223372036854775807 : Int64)))) + (1 : Int64))), .second, .val (.long (own_max (q0 &&& (9223372036854775807 : Int64)) (q1 &&& (9223372036854775807 : Int64)))), .second, .val (.int v8), .val (.int v12), .unset, .unset] [(.int v12), (.int v8), (.long (((own_max (q0 &&& (9223372036854775807 : Int64)) (q1 &&& (9223372036854775807 : Int64))) - (own_min (q0 &&& (9223372036854775807 : Int64)) (q1 &&& (9223372036854775807 : Int64)))) + (1 : Int64))), (.long (own_max (q0 &&& (9223372036854775807 : Int64)) (q1 &&& (9223372036854775807 : Int64))))])) rfl (by rw [hml]; rfl) (argsL := [(.long (own_max (q0 &&& (9223372036854775807 : Int64)) (q1 &&& (9223372036854775807 : Int64)))), (.long (((own_max (q0 &&& (9223372036854775807 : Int64)) (q1 &&& (9223372036854775807 : Int64))) - (own_min (q0 &&& (9223372036854775807 : Int64)) (q1 &&& (9223372036854775807 : Int64)))) + (1 : Int64))), (.int v8), (.int v12)]) (rest := []) (lenOf own_pd2 rfl) rfl (by show 2 * 0 + _ ≤ _; exact Nat.le_of_eq rfl) (hb hby at_90) (fun _ _ => ⟨rfl, e2, (by decide : 0 + 0 ≤ _), (by decide : 0 + 0 ≤ _)⟩)
    dsimp only [Pt.U, Pt.locs, Pt.cells, Pt.slots] at X14 l14 y14 z14 st14 hQ14
    subst l14 y14 z14
    obtain ⟨rfl, N14q, e14⟩ := hQ14
    have N14 := Fr.app N2 N14q
    have k15 : own_To p e below T14 (mkF m 97 #[.val (.long q0), .second, .val (.long q1), .second, .val (.int p2), .val (.long (q0 &&& (9223372036854775807 : Int64))), .second, .val (.long (q1 &&& (9223372036854775807 : Int64))), .second, .val (.long (own_min (q0 &&& (9223372036854775807 : Int64)) (q1 &&& (9223372036854775807 : Int64)))), .second, .val (.long (own_max (q0 &&& (9223372036854775807 : Int64)) (q1 &&& (9223372036854775807 : Int64)))), .second, .val (.long (((own_max (q0 &&& (9223372036854775807 : Int64)) (q1 &&& (9223372036854775807 : Int64))) - (own_min (q0 &&& (9223372036854775807 : Int64)) (q1 &&& (9223372036854775807 : Int64)))) + (1 : Int64))), .second, .val (.long (own_max (q0 &&& (9223372036854775807 : Int64)) (q1 &&& (9223372036854775807 : Int64)))), .second, .val (.int v8), .val (.int v12), .val (.int (own_MG (own_max (q0 &&& (9223372036854775807 : Int64)) (q1 &&& (9223372036854775807 : Int64))) (((own_max (q0 &&& (9223372036854775807 : Int64)) (q1 &&& (9223372036854775807 : Int64))) - (own_min (q0 &&& (9223372036854775807 : Int64)) (q1 &&& (9223372036854775807 : Int64)))) + (1 : Int64)) v8 v12)), .unset] [(.int v8)]) s₁ (mkF m 0 #[.val (.long q0), .second, .val (.long q1), .second, .val (.int p2), .unset, .unset, .unset, .unset, .unset, .unset, .unset, .unset, .unset, .unset, .unset, .unset, .unset, .unset, .unset, .unset] []) := fun t q => k13 t (by
      refine XS.istore X2.here hx rfl (hb hby at_80) rfl (l' := #[.val (.long q0), .second, .val (.long q1), .second, .val (.int p2), .val (.long (q0 &&& (9223372036854775807 : Int64))), .second, .val (.long (q1 &&& (9223372036854775807 : Int64))), .second, .val (.long (own_min (q0 &&& (9223372036854775807 : Int64)) (q1 &&& (9223372036854775807 : Int64)))), .second, .val (.long (own_max (q0 &&& (9223372036854775807 : Int64)) (q1 &&& (9223372036854775807 : Int64)))), .second, .val (.long (((own_max (q0 &&& (9223372036854775807 : Int64)) (q1 &&& (9223372036854775807 : Int64))) - (own_min (q0 &&& (9223372036854775807 : Int64)) (q1 &&& (9223372036854775807 : Int64)))) + (1 : Int64))), .second, .val (.long (own_max (q0 &&& (9223372036854775807 : Int64)) (q1 &&& (9223372036854775807 : Int64)))), .second, .val (.int v8), .val (.int v12), .unset, .unset]) rfl ?_
      show Steps p.tables e below (T2.setTop (mkF m 82 #[.val (.long q0), .second, .val (.long q1), .second, .val (.int p2), .val (.long (q0 &&& (9223372036854775807 : Int64))), .second, .val (.long (q1 &&& (9223372036854775807 : Int64))), .second, .val (.long (own_min (q0 &&& (9223372036854775807 : Int64)) (q1 &&& (9223372036854775807 : Int64)))), .second, .val (.long (own_max (q0 &&& (9223372036854775807 : Int64)) (q1 &&& (9223372036854775807 : Int64)))), .second, .val (.long (((own_max (q0 &&& (9223372036854775807 : Int64)) (q1 &&& (9223372036854775807 : Int64))) - (own_min (q0 &&& (9223372036854775807 : Int64)) (q1 &&& (9223372036854775807 : Int64)))) + (1 : Int64))), .second, .val (.long (own_max (q0 &&& (9223372036854775807 : Int64)) (q1 &&& (9223372036854775807 : Int64)))), .second, .val (.int v8), .val (.int v12), .unset, .unset] [])) _
      refine XS.lload X2.here hx rfl (hb hby at_82) rfl ?_
      show Steps p.tables e below (T2.setTop (mkF m 84 #[.val (.long q0), .second, .val (.long q1), .second, .val (.int p2), .val (.long (q0 &&& (9223372036854775807 : Int64))), .second, .val (.long (q1 &&& (9223372036854775807 : Int64))), .second, .val (.long (own_min (q0 &&& (9223372036854775807 : Int64)) (q1 &&& (9223372036854775807 : Int64)))), .second, .val (.long (own_max (q0 &&& (9223372036854775807 : Int64)) (q1 &&& (9223372036854775807 : Int64)))), .second, .val (.long (((own_max (q0 &&& (9223372036854775807 : Int64)) (q1 &&& (9223372036854775807 : Int64))) - (own_min (q0 &&& (9223372036854775807 : Int64)) (q1 &&& (9223372036854775807 : Int64)))) + (1 : Int64))), .second, .val (.long (own_max (q0 &&& (9223372036854775807 : Int64)) (q1 &&& (9223372036854775807 : Int64)))), .second, .val (.int v8), .val (.int v12), .unset, .unset] [(.long (own_max (q0 &&& (9223372036854775807 : Int64)) (q1 &&& (9223372036854775807 : Int64))))])) _
      refine XS.lload X2.here hx rfl (hb hby at_84) rfl ?_
      show Steps p.tables e below (T2.setTop (mkF m 86 #[.val (.long q0), .second, .val (.long q1), .second, .val (.int p2), .val (.long (q0 &&& (9223372036854775807 : Int64))), .second, .val (.long (q1 &&& (9223372036854775807 : Int64))), .second, .val (.long (own_min (q0 &&& (9223372036854775807 : Int64)) (q1 &&& (9223372036854775807 : Int64)))), .second, .val (.long (own_max (q0 &&& (9223372036854775807 : Int64)) (q1 &&& (9223372036854775807 : Int64)))), .second, .val (.long (((own_max (q0 &&& (9223372036854775807 : Int64)) (q1 &&& (9223372036854775807 : Int64))) - (own_min (q0 &&& (9223372036854775807 : Int64)) (q1 &&& (9223372036854775807 : Int64)))) + (1 : Int64))), .second, .val (.long (own_max (q0 &&& (9223372036854775807 : Int64)) (q1 &&& (9223372036854775807 : Int64)))), .second, .val (.int v8), .val (.int v12), .unset, .unset] [(.long (((own_max (q0 &&& (9223372036854775807 : Int64)) (q1 &&& (9223372036854775807 : Int64))) - (own_min (q0 &&& (9223372036854775807 : Int64)) (q1 &&& (9223372036854775807 : Int64)))) + (1 : Int64))), (.long (own_max (q0 &&& (9223372036854775807 : Int64)) (q1 &&& (9223372036854775807 : Int64))))])) _
      refine XS.iload X2.here hx rfl (hb hby at_86) rfl ?_
      show Steps p.tables e below (T2.setTop (mkF m 88 #[.val (.long q0), .second, .val (.long q1), .second, .val (.int p2), .val (.long (q0 &&& (9223372036854775807 : Int64))), .second, .val (.long (q1 &&& (9223372036854775807 : Int64))), .second, .val (.long (own_min (q0 &&& (9223372036854775807 : Int64)) (q1 &&& (9223372036854775807 : Int64)))), .second, .val (.long (own_max (q0 &&& (9223372036854775807 : Int64)) (q1 &&& (9223372036854775807 : Int64)))), .second, .val (.long (((own_max (q0 &&& (9223372036854775807 : Int64)) (q1 &&& (9223372036854775807 : Int64))) - (own_min (q0 &&& (9223372036854775807 : Int64)) (q1 &&& (9223372036854775807 : Int64)))) + (1 : Int64))), .second, .val (.long (own_max (q0 &&& (9223372036854775807 : Int64)) (q1 &&& (9223372036854775807 : Int64)))), .second, .val (.int v8), .val (.int v12), .unset, .unset] [(.int v8), (.long (((own_max (q0 &&& (9223372036854775807 : Int64)) (q1 &&& (9223372036854775807 : Int64))) - (own_min (q0 &&& (9223372036854775807 : Int64)) (q1 &&& (9223372036854775807 : Int64)))) + (1 : Int64))), (.long (own_max (q0 &&& (9223372036854775807 : Int64)) (q1 &&& (9223372036854775807 : Int64))))])) _
      refine XS.iload X2.here hx rfl (hb hby at_88) rfl ?_
      show Steps p.tables e below (T2.setTop (mkF m 90 #[.val (.long q0), .second, .val (.long q1), .second, .val (.int p2), .val (.long (q0 &&& (9223372036854775807 : Int64))), .second, .val (.long (q1 &&& (9223372036854775807 : Int64))), .second, .val (.long (own_min (q0 &&& (9223372036854775807 : Int64)) (q1 &&& (9223372036854775807 : Int64)))), .second, .val (.long (own_max (q0 &&& (9223372036854775807 : Int64)) (q1 &&& (9223372036854775807 : Int64)))), .second, .val (.long (((own_max (q0 &&& (9223372036854775807 : Int64)) (q1 &&& (9223372036854775807 : Int64))) - (own_min (q0 &&& (9223372036854775807 : Int64)) (q1 &&& (9223372036854775807 : Int64)))) + (1 : Int64))), .second, .val (.long (own_max (q0 &&& (9223372036854775807 : Int64)) (q1 &&& (9223372036854775807 : Int64)))), .second, .val (.int v8), .val (.int v12), .unset, .unset] [(.int v12), (.int v8), (.long (((own_max (q0 &&& (9223372036854775807 : Int64)) (q1 &&& (9223372036854775807 : Int64))) - (own_min (q0 &&& (9223372036854775807 : Int64)) (q1 &&& (9223372036854775807 : Int64)))) + (1 : Int64))), (.long (own_max (q0 &&& (9223372036854775807 : Int64)) (q1 &&& (9223372036854775807 : Int64))))])) _
      refine st14 _ ?_
      show Steps p.tables e below (T14.setTop (mkF m 93 #[.val (.long q0), .second, .val (.long q1), .second, .val (.int p2), .val (.long (q0 &&& (9223372036854775807 : Int64))), .second, .val (.long (q1 &&& (9223372036854775807 : Int64))), .second, .val (.long (own_min (q0 &&& (9223372036854775807 : Int64)) (q1 &&& (9223372036854775807 : Int64)))), .second, .val (.long (own_max (q0 &&& (9223372036854775807 : Int64)) (q1 &&& (9223372036854775807 : Int64)))), .second, .val (.long (((own_max (q0 &&& (9223372036854775807 : Int64)) (q1 &&& (9223372036854775807 : Int64))) - (own_min (q0 &&& (9223372036854775807 : Int64)) (q1 &&& (9223372036854775807 : Int64)))) + (1 : Int64))), .second, .val (.long (own_max (q0 &&& (9223372036854775807 : Int64)) (q1 &&& (9223372036854775807 : Int64)))), .second, .val (.int v8), .val (.int v12), .unset, .unset] [(.int (own_MG (own_max (q0 &&& (9223372036854775807 : Int64)) (q1 &&& (9223372036854775807 : Int64))) (((own_max (q0 &&& (9223372036854775807 : Int64)) (q1 &&& (9223372036854775807 : Int64))) - (own_min (q0 &&& (9223372036854775807 : Int64)) (q1 &&& (9223372036854775807 : Int64)))) + (1 : Int64)) v8 v12))])) _
      refine XS.istore X14.here hx rfl (hb hby at_93) rfl (l' := #[.val (.long q0), .second, .val (.long q1), .second, .val (.int p2), .val (.long (q0 &&& (9223372036854775807 : Int64))), .second, .val (.long (q1 &&& (9223372036854775807 : Int64))), .second, .val (.long (own_min (q0 &&& (9223372036854775807 : Int64)) (q1 &&& (9223372036854775807 : Int64)))), .second, .val (.long (own_max (q0 &&& (9223372036854775807 : Int64)) (q1 &&& (9223372036854775807 : Int64)))), .second, .val (.long (((own_max (q0 &&& (9223372036854775807 : Int64)) (q1 &&& (9223372036854775807 : Int64))) - (own_min (q0 &&& (9223372036854775807 : Int64)) (q1 &&& (9223372036854775807 : Int64)))) + (1 : Int64))), .second, .val (.long (own_max (q0 &&& (9223372036854775807 : Int64)) (q1 &&& (9223372036854775807 : Int64)))), .second, .val (.int v8), .val (.int v12), .val (.int (own_MG (own_max (q0 &&& (9223372036854775807 : Int64)) (q1 &&& (9223372036854775807 : Int64))) (((own_max (q0 &&& (9223372036854775807 : Int64)) (q1 &&& (9223372036854775807 : Int64))) - (own_min (q0 &&& (9223372036854775807 : Int64)) (q1 &&& (9223372036854775807 : Int64)))) + (1 : Int64)) v8 v12)), .unset]) rfl ?_
      show Steps p.tables e below (T14.setTop (mkF m 95 #[.val (.long q0), .second, .val (.long q1), .second, .val (.int p2), .val (.long (q0 &&& (9223372036854775807 : Int64))), .second, .val (.long (q1 &&& (9223372036854775807 : Int64))), .second, .val (.long (own_min (q0 &&& (9223372036854775807 : Int64)) (q1 &&& (9223372036854775807 : Int64)))), .second, .val (.long (own_max (q0 &&& (9223372036854775807 : Int64)) (q1 &&& (9223372036854775807 : Int64)))), .second, .val (.long (((own_max (q0 &&& (9223372036854775807 : Int64)) (q1 &&& (9223372036854775807 : Int64))) - (own_min (q0 &&& (9223372036854775807 : Int64)) (q1 &&& (9223372036854775807 : Int64)))) + (1 : Int64))), .second, .val (.long (own_max (q0 &&& (9223372036854775807 : Int64)) (q1 &&& (9223372036854775807 : Int64)))), .second, .val (.int v8), .val (.int v12), .val (.int (own_MG (own_max (q0 &&& (9223372036854775807 : Int64)) (q1 &&& (9223372036854775807 : Int64))) (((own_max (q0 &&& (9223372036854775807 : Int64)) (q1 &&& (9223372036854775807 : Int64))) - (own_min (q0 &&& (9223372036854775807 : Int64)) (q1 &&& (9223372036854775807 : Int64)))) + (1 : Int64)) v8 v12)), .unset] [])) _
      refine XS.iload X14.here hx rfl (hb hby at_95) rfl ?_
      show Steps p.tables e below (T14.setTop (mkF m 97 #[.val (.long q0), .second, .val (.long q1), .second, .val (.int p2), .val (.long (q0 &&& (9223372036854775807 : Int64))), .second, .val (.long (q1 &&& (9223372036854775807 : Int64))), .second, .val (.long (own_min (q0 &&& (9223372036854775807 : Int64)) (q1 &&& (9223372036854775807 : Int64)))), .second, .val (.long (own_max (q0 &&& (9223372036854775807 : Int64)) (q1 &&& (9223372036854775807 : Int64)))), .second, .val (.long (((own_max (q0 &&& (9223372036854775807 : Int64)) (q1 &&& (9223372036854775807 : Int64))) - (own_min (q0 &&& (9223372036854775807 : Int64)) (q1 &&& (9223372036854775807 : Int64)))) + (1 : Int64))), .second, .val (.long (own_max (q0 &&& (9223372036854775807 : Int64)) (q1 &&& (9223372036854775807 : Int64)))), .second, .val (.int v8), .val (.int v12), .val (.int (own_MG (own_max (q0 &&& (9223372036854775807 : Int64)) (q1 &&& (9223372036854775807 : Int64))) (((own_max (q0 &&& (9223372036854775807 : Int64)) (q1 &&& (9223372036854775807 : Int64))) - (own_min (q0 &&& (9223372036854775807 : Int64)) (q1 &&& (9223372036854775807 : Int64)))) + (1 : Int64)) v8 v12)), .unset] [(.int v8)])) _
      exact q)
    by_cases hc16 : v8 = (0 : Int32)
    ·
      have k17 : own_To p e below T14 (mkF m 123 #[.val (.long q0), .second, .val (.long q1), .second, .val (.int p2), .val (.long (q0 &&& (9223372036854775807 : Int64))), .second, .val (.long (q1 &&& (9223372036854775807 : Int64))), .second, .val (.long (own_min (q0 &&& (9223372036854775807 : Int64)) (q1 &&& (9223372036854775807 : Int64)))), .second, .val (.long (own_max (q0 &&& (9223372036854775807 : Int64)) (q1 &&& (9223372036854775807 : Int64)))), .second, .val (.long (((own_max (q0 &&& (9223372036854775807 : Int64)) (q1 &&& (9223372036854775807 : Int64))) - (own_min (q0 &&& (9223372036854775807 : Int64)) (q1 &&& (9223372036854775807 : Int64)))) + (1 : Int64))), .second, .val (.long (own_max (q0 &&& (9223372036854775807 : Int64)) (q1 &&& (9223372036854775807 : Int64)))), .second, .val (.int v8), .val (.int v12), .val (.int (own_MG (own_max (q0 &&& (9223372036854775807 : Int64)) (q1 &&& (9223372036854775807 : Int64))) (((own_max (q0 &&& (9223372036854775807 : Int64)) (q1 &&& (9223372036854775807 : Int64))) - (own_min (q0 &&& (9223372036854775807 : Int64)) (q1 &&& (9223372036854775807 : Int64)))) + (1 : Int64)) v8 v12)), .unset] [(.int v12)]) s₁ (mkF m 0 #[.val (.long q0), .second, .val (.long q1), .second, .val (.int p2), .unset, .unset, .unset, .unset, .unset, .unset, .unset, .unset, .unset, .unset, .unset, .unset, .unset, .unset, .unset, .unset] []) := fun t q => k15 t (by
        refine XS.ifYes X14.here hx rfl (pc0 := 97) (pc' := 121) rfl (hb hby at_97) rfl ((if0 _ _).trans (teq hc16).1) (by decide) (by decide) ?_
        show Steps p.tables e below (T14.setTop (mkF m 121 #[.val (.long q0), .second, .val (.long q1), .second, .val (.int p2), .val (.long (q0 &&& (9223372036854775807 : Int64))), .second, .val (.long (q1 &&& (9223372036854775807 : Int64))), .second, .val (.long (own_min (q0 &&& (9223372036854775807 : Int64)) (q1 &&& (9223372036854775807 : Int64)))), .second, .val (.long (own_max (q0 &&& (9223372036854775807 : Int64)) (q1 &&& (9223372036854775807 : Int64)))), .second, .val (.long (((own_max (q0 &&& (9223372036854775807 : Int64)) (q1 &&& (9223372036854775807 : Int64))) - (own_min (q0 &&& (9223372036854775807 : Int64)) (q1 &&& (9223372036854775807 : Int64)))) + (1 : Int64))), .second, .val (.long (own_max (q0 &&& (9223372036854775807 : Int64)) (q1 &&& (9223372036854775807 : Int64)))), .second, .val (.int v8), .val (.int v12), .val (.int (own_MG (own_max (q0 &&& (9223372036854775807 : Int64)) (q1 &&& (9223372036854775807 : Int64))) (((own_max (q0 &&& (9223372036854775807 : Int64)) (q1 &&& (9223372036854775807 : Int64))) - (own_min (q0 &&& (9223372036854775807 : Int64)) (q1 &&& (9223372036854775807 : Int64)))) + (1 : Int64)) v8 v12)), .unset] [])) _
        refine XS.iload X14.here hx rfl (hb hby at_121) rfl ?_
        show Steps p.tables e below (T14.setTop (mkF m 123 #[.val (.long q0), .second, .val (.long q1), .second, .val (.int p2), .val (.long (q0 &&& (9223372036854775807 : Int64))), .second, .val (.long (q1 &&& (9223372036854775807 : Int64))), .second, .val (.long (own_min (q0 &&& (9223372036854775807 : Int64)) (q1 &&& (9223372036854775807 : Int64)))), .second, .val (.long (own_max (q0 &&& (9223372036854775807 : Int64)) (q1 &&& (9223372036854775807 : Int64)))), .second, .val (.long (((own_max (q0 &&& (9223372036854775807 : Int64)) (q1 &&& (9223372036854775807 : Int64))) - (own_min (q0 &&& (9223372036854775807 : Int64)) (q1 &&& (9223372036854775807 : Int64)))) + (1 : Int64))), .second, .val (.long (own_max (q0 &&& (9223372036854775807 : Int64)) (q1 &&& (9223372036854775807 : Int64)))), .second, .val (.int v8), .val (.int v12), .val (.int (own_MG (own_max (q0 &&& (9223372036854775807 : Int64)) (q1 &&& (9223372036854775807 : Int64))) (((own_max (q0 &&& (9223372036854775807 : Int64)) (q1 &&& (9223372036854775807 : Int64))) - (own_min (q0 &&& (9223372036854775807 : Int64)) (q1 &&& (9223372036854775807 : Int64)))) + (1 : Int64)) v8 v12)), .unset] [(.int v12)])) _
        exact q)
      by_cases hc18 : v12 = (0 : Int32)
      ·
        obtain ⟨_, _, ⟨T19, L19, kk19, n19⟩, -, X19, ⟨Lc19, hQ19, l19, y19, z19⟩, st19⟩ := Jvm.LawKit.callS X14 hx (y := (⟨"com/example/ordrly/ordrly/commits/ProgressMostGrowthPinLaw", "digits", "(J)I"⟩ : MethodName)) hown (mvT hZ (hw _ (List.mem_of_getElem? (i := 16) rfl))) (mvT hZ (hw _ (List.mem_of_getElem? (i := 17) rfl))) (mvT hZ (hw _ (List.mem_of_getElem? (i := 18) rfl))) (mvT hZ (hw _ (List.mem_of_getElem? (i := 19) rfl))) (by decide) (backOf (W := 0) (rm5 l Z a0 hw [] (own_min (q0 &&& (9223372036854775807 : Int64)) (q1 &&& (9223372036854775807 : Int64))) h0 n0 Z0) hZ (hw _ (List.mem_of_getElem? (i := 19) rfl)) (hw _ (List.mem_of_getElem? (i := 18) rfl)) (by decide) (by decide)) (g := (mkF m 138 #[.val (.long q0), .second, .val (.long q1), .second, .val (.int p2), .val (.long (q0 &&& (9223372036854775807 : Int64))), .second, .val (.long (q1 &&& (9223372036854775807 : Int64))), .second, .val (.long (own_min (q0 &&& (9223372036854775807 : Int64)) (q1 &&& (9223372036854775807 : Int64)))), .second, .val (.long (own_max (q0 &&& (9223372036854775807 : Int64)) (q1 &&& (9223372036854775807 : Int64)))), .second, .val (.long (((own_max (q0 &&& (9223372036854775807 : Int64)) (q1 &&& (9223372036854775807 : Int64))) - (own_min (q0 &&& (9223372036854775807 : Int64)) (q1 &&& (9223372036854775807 : Int64)))) + (1 : Int64))), .second, .val (.long (own_max (q0 &&& (9223372036854775807 : Int64)) (q1 &&& (9223372036854775807 : Int64)))), .second, .val (.int v8), .val (.int v12), .val (.int (own_MG (own_max (q0 &&& (9223372036854775807 : Int64)) (q1 &&& (9223372036854775807 : Int64))) (((own_max (q0 &&& (9223372036854775807 : Int64)) (q1 &&& (9223372036854775807 : Int64))) - (own_min (q0 &&& (9223372036854775807 : Int64)) (q1 &&& (9223372036854775807 : Int64)))) + (1 : Int64)) v8 v12)), .unset] [(.long (own_min (q0 &&& (9223372036854775807 : Int64)) (q1 &&& (9223372036854775807 : Int64))))])) rfl (by rw [hml]; rfl) (argsL := [(.long (own_min (q0 &&& (9223372036854775807 : Int64)) (q1 &&& (9223372036854775807 : Int64))))]) (rest := []) (lenOf own_pd0 rfl) rfl (by show 2 * 0 + _ ≤ _; exact Nat.le_of_eq rfl) (hb hby at_138) (fun _ _ => ⟨rfl, e14, (by decide : 0 + 0 ≤ _), (by decide : 0 + 0 ≤ _)⟩)
        dsimp only [Pt.U, Pt.locs, Pt.cells, Pt.slots] at X19 l19 y19 z19 st19 hQ19
        subst l19 y19 z19
        obtain ⟨rfl, N19q, e19⟩ := hQ19
        have N19 := Fr.app N14 N19q
        obtain ⟨_, _, ⟨T20, L20, kk20, n20⟩, -, X20, ⟨Lc20, hQ20, l20, y20, z20⟩, st20⟩ := Jvm.LawKit.callS X19 hx (y := (⟨"com/example/ordrly/ordrly/commits/ProgressMostGrowthPinLaw", "digits", "(J)I"⟩ : MethodName)) hown (mvT hZ (hw _ (List.mem_of_getElem? (i := 16) rfl))) (mvT hZ (hw _ (List.mem_of_getElem? (i := 17) rfl))) (mvT hZ (hw _ (List.mem_of_getElem? (i := 18) rfl))) (mvT hZ (hw _ (List.mem_of_getElem? (i := 19) rfl))) (by decide) (backOf (W := 1) (rm5 l Z a0 hw [] (((own_max (q0 &&& (9223372036854775807 : Int64)) (q1 &&& (9223372036854775807 : Int64))) - (own_min (q0 &&& (9223372036854775807 : Int64)) (q1 &&& (9223372036854775807 : Int64)))) + (1 : Int64)) h0 n0 Z0) hZ (hw _ (List.mem_of_getElem? (i := 19) rfl)) (hw _ (List.mem_of_getElem? (i := 18) rfl)) (by decide) (by decide)) (g := (mkF m 143 #[.val (.long q0), .second, .val (.long q1), .second, .val (.int p2), .val (.long (q0 &&& (9223372036854775807 : Int64))), .second, .val (.long (q1 &&& (9223372036854775807 : Int64))), .second, .val (.long (own_min (q0 &&& (9223372036854775807 : Int64)) (q1 &&& (9223372036854775807 : Int64)))), .second, .val (.long (own_max (q0 &&& (9223372036854775807 : Int64)) (q1 &&& (9223372036854775807 : Int64)))), .second, .val (.long (((own_max (q0 &&& (9223372036854775807 : Int64)) (q1 &&& (9223372036854775807 : Int64))) - (own_min (q0 &&& (9223372036854775807 : Int64)) (q1 &&& (9223372036854775807 : Int64)))) + (1 : Int64))), .second, .val (.long (own_max (q0 &&& (9223372036854775807 : Int64)) (q1 &&& (9223372036854775807 : Int64)))), .second, .val (.int v8), .val (.int v12), .val (.int (own_MG (own_max (q0 &&& (9223372036854775807 : Int64)) (q1 &&& (9223372036854775807 : Int64))) (((own_max (q0 &&& (9223372036854775807 : Int64)) (q1 &&& (9223372036854775807 : Int64))) - (own_min (q0 &&& (9223372036854775807 : Int64)) (q1 &&& (9223372036854775807 : Int64)))) + (1 : Int64)) v8 v12)), .unset] [(.long (((own_max (q0 &&& (9223372036854775807 : Int64)) (q1 &&& (9223372036854775807 : Int64))) - (own_min (q0 &&& (9223372036854775807 : Int64)) (q1 &&& (9223372036854775807 : Int64)))) + (1 : Int64))), (.int (own_DG (own_min (q0 &&& (9223372036854775807 : Int64)) (q1 &&& (9223372036854775807 : Int64)))))])) rfl (by rw [hml]; rfl) (argsL := [(.long (((own_max (q0 &&& (9223372036854775807 : Int64)) (q1 &&& (9223372036854775807 : Int64))) - (own_min (q0 &&& (9223372036854775807 : Int64)) (q1 &&& (9223372036854775807 : Int64)))) + (1 : Int64)))]) (rest := [(.int (own_DG (own_min (q0 &&& (9223372036854775807 : Int64)) (q1 &&& (9223372036854775807 : Int64)))))]) (lenOf own_pd0 rfl) rfl (by show 2 * 0 + _ ≤ _; exact Nat.le_of_eq rfl) (hb hby at_143) (fun _ _ => ⟨rfl, e19, (by decide : 0 + 0 ≤ _), (by decide : 0 + 0 ≤ _)⟩)
        dsimp only [Pt.U, Pt.locs, Pt.cells, Pt.slots] at X20 l20 y20 z20 st20 hQ20
        subst l20 y20 z20
        obtain ⟨rfl, N20q, e20⟩ := hQ20
        have N20 := Fr.app N19 N20q
        have k21 : own_To p e below T20 (mkF m 161 #[.val (.long q0), .second, .val (.long q1), .second, .val (.int p2), .val (.long (q0 &&& (9223372036854775807 : Int64))), .second, .val (.long (q1 &&& (9223372036854775807 : Int64))), .second, .val (.long (own_min (q0 &&& (9223372036854775807 : Int64)) (q1 &&& (9223372036854775807 : Int64)))), .second, .val (.long (own_max (q0 &&& (9223372036854775807 : Int64)) (q1 &&& (9223372036854775807 : Int64)))), .second, .val (.long (((own_max (q0 &&& (9223372036854775807 : Int64)) (q1 &&& (9223372036854775807 : Int64))) - (own_min (q0 &&& (9223372036854775807 : Int64)) (q1 &&& (9223372036854775807 : Int64)))) + (1 : Int64))), .second, .val (.long (own_max (q0 &&& (9223372036854775807 : Int64)) (q1 &&& (9223372036854775807 : Int64)))), .second, .val (.int v8), .val (.int v12), .val (.int (own_MG (own_max (q0 &&& (9223372036854775807 : Int64)) (q1 &&& (9223372036854775807 : Int64))) (((own_max (q0 &&& (9223372036854775807 : Int64)) (q1 &&& (9223372036854775807 : Int64))) - (own_min (q0 &&& (9223372036854775807 : Int64)) (q1 &&& (9223372036854775807 : Int64)))) + (1 : Int64)) v8 v12)), .val (.int ((own_DG (own_min (q0 &&& (9223372036854775807 : Int64)) (q1 &&& (9223372036854775807 : Int64)))) + (own_DG (((own_max (q0 &&& (9223372036854775807 : Int64)) (q1 &&& (9223372036854775807 : Int64))) - (own_min (q0 &&& (9223372036854775807 : Int64)) (q1 &&& (9223372036854775807 : Int64)))) + (1 : Int64)))))] [(.int (1 : Int32))]) s₁ (mkF m 0 #[.val (.long q0), .second, .val (.long q1), .second, .val (.int p2), .unset, .unset, .unset, .unset, .unset, .unset, .unset, .unset, .unset, .unset, .unset, .unset, .unset, .unset, .unset, .unset] []) := fun t q => k17 t (by
          refine XS.ifYes X14.here hx rfl (pc0 := 123) (pc' := 136) rfl (hb hby at_123) rfl ((if0 _ _).trans (teq hc18).1) (by decide) (by decide) ?_
          show Steps p.tables e below (T14.setTop (mkF m 136 #[.val (.long q0), .second, .val (.long q1), .second, .val (.int p2), .val (.long (q0 &&& (9223372036854775807 : Int64))), .second, .val (.long (q1 &&& (9223372036854775807 : Int64))), .second, .val (.long (own_min (q0 &&& (9223372036854775807 : Int64)) (q1 &&& (9223372036854775807 : Int64)))), .second, .val (.long (own_max (q0 &&& (9223372036854775807 : Int64)) (q1 &&& (9223372036854775807 : Int64)))), .second, .val (.long (((own_max (q0 &&& (9223372036854775807 : Int64)) (q1 &&& (9223372036854775807 : Int64))) - (own_min (q0 &&& (9223372036854775807 : Int64)) (q1 &&& (9223372036854775807 : Int64)))) + (1 : Int64))), .second, .val (.long (own_max (q0 &&& (9223372036854775807 : Int64)) (q1 &&& (9223372036854775807 : Int64)))), .second, .val (.int v8), .val (.int v12), .val (.int (own_MG (own_max (q0 &&& (9223372036854775807 : Int64)) (q1 &&& (9223372036854775807 : Int64))) (((own_max (q0 &&& (9223372036854775807 : Int64)) (q1 &&& (9223372036854775807 : Int64))) - (own_min (q0 &&& (9223372036854775807 : Int64)) (q1 &&& (9223372036854775807 : Int64)))) + (1 : Int64)) v8 v12)), .unset] [])) _
          refine XS.lload X14.here hx rfl (hb hby at_136) rfl ?_
          show Steps p.tables e below (T14.setTop (mkF m 138 #[.val (.long q0), .second, .val (.long q1), .second, .val (.int p2), .val (.long (q0 &&& (9223372036854775807 : Int64))), .second, .val (.long (q1 &&& (9223372036854775807 : Int64))), .second, .val (.long (own_min (q0 &&& (9223372036854775807 : Int64)) (q1 &&& (9223372036854775807 : Int64)))), .second, .val (.long (own_max (q0 &&& (9223372036854775807 : Int64)) (q1 &&& (9223372036854775807 : Int64)))), .second, .val (.long (((own_max (q0 &&& (9223372036854775807 : Int64)) (q1 &&& (9223372036854775807 : Int64))) - (own_min (q0 &&& (9223372036854775807 : Int64)) (q1 &&& (9223372036854775807 : Int64)))) + (1 : Int64))), .second, .val (.long (own_max (q0 &&& (9223372036854775807 : Int64)) (q1 &&& (9223372036854775807 : Int64)))), .second, .val (.int v8), .val (.int v12), .val (.int (own_MG (own_max (q0 &&& (9223372036854775807 : Int64)) (q1 &&& (9223372036854775807 : Int64))) (((own_max (q0 &&& (9223372036854775807 : Int64)) (q1 &&& (9223372036854775807 : Int64))) - (own_min (q0 &&& (9223372036854775807 : Int64)) (q1 &&& (9223372036854775807 : Int64)))) + (1 : Int64)) v8 v12)), .unset] [(.long (own_min (q0 &&& (9223372036854775807 : Int64)) (q1 &&& (9223372036854775807 : Int64))))])) _
          refine st19 _ ?_
          show Steps p.tables e below (T19.setTop (mkF m 141 #[.val (.long q0), .second, .val (.long q1), .second, .val (.int p2), .val (.long (q0 &&& (9223372036854775807 : Int64))), .second, .val (.long (q1 &&& (9223372036854775807 : Int64))), .second, .val (.long (own_min (q0 &&& (9223372036854775807 : Int64)) (q1 &&& (9223372036854775807 : Int64)))), .second, .val (.long (own_max (q0 &&& (9223372036854775807 : Int64)) (q1 &&& (9223372036854775807 : Int64)))), .second, .val (.long (((own_max (q0 &&& (9223372036854775807 : Int64)) (q1 &&& (9223372036854775807 : Int64))) - (own_min (q0 &&& (9223372036854775807 : Int64)) (q1 &&& (9223372036854775807 : Int64)))) + (1 : Int64))), .second, .val (.long (own_max (q0 &&& (9223372036854775807 : Int64)) (q1 &&& (9223372036854775807 : Int64)))), .second, .val (.int v8), .val (.int v12), .val (.int (own_MG (own_max (q0 &&& (9223372036854775807 : Int64)) (q1 &&& (9223372036854775807 : Int64))) (((own_max (q0 &&& (9223372036854775807 : Int64)) (q1 &&& (9223372036854775807 : Int64))) - (own_min (q0 &&& (9223372036854775807 : Int64)) (q1 &&& (9223372036854775807 : Int64)))) + (1 : Int64)) v8 v12)), .unset] [(.int (own_DG (own_min (q0 &&& (9223372036854775807 : Int64)) (q1 &&& (9223372036854775807 : Int64)))))])) _
          refine XS.lload X19.here hx rfl (hb hby at_141) rfl ?_
          show Steps p.tables e below (T19.setTop (mkF m 143 #[.val (.long q0), .second, .val (.long q1), .second, .val (.int p2), .val (.long (q0 &&& (9223372036854775807 : Int64))), .second, .val (.long (q1 &&& (9223372036854775807 : Int64))), .second, .val (.long (own_min (q0 &&& (9223372036854775807 : Int64)) (q1 &&& (9223372036854775807 : Int64)))), .second, .val (.long (own_max (q0 &&& (9223372036854775807 : Int64)) (q1 &&& (9223372036854775807 : Int64)))), .second, .val (.long (((own_max (q0 &&& (9223372036854775807 : Int64)) (q1 &&& (9223372036854775807 : Int64))) - (own_min (q0 &&& (9223372036854775807 : Int64)) (q1 &&& (9223372036854775807 : Int64)))) + (1 : Int64))), .second, .val (.long (own_max (q0 &&& (9223372036854775807 : Int64)) (q1 &&& (9223372036854775807 : Int64)))), .second, .val (.int v8), .val (.int v12), .val (.int (own_MG (own_max (q0 &&& (9223372036854775807 : Int64)) (q1 &&& (9223372036854775807 : Int64))) (((own_max (q0 &&& (9223372036854775807 : Int64)) (q1 &&& (9223372036854775807 : Int64))) - (own_min (q0 &&& (9223372036854775807 : Int64)) (q1 &&& (9223372036854775807 : Int64)))) + (1 : Int64)) v8 v12)), .unset] [(.long (((own_max (q0 &&& (9223372036854775807 : Int64)) (q1 &&& (9223372036854775807 : Int64))) - (own_min (q0 &&& (9223372036854775807 : Int64)) (q1 &&& (9223372036854775807 : Int64)))) + (1 : Int64))), (.int (own_DG (own_min (q0 &&& (9223372036854775807 : Int64)) (q1 &&& (9223372036854775807 : Int64)))))])) _
          refine st20 _ ?_
          show Steps p.tables e below (T20.setTop (mkF m 146 #[.val (.long q0), .second, .val (.long q1), .second, .val (.int p2), .val (.long (q0 &&& (9223372036854775807 : Int64))), .second, .val (.long (q1 &&& (9223372036854775807 : Int64))), .second, .val (.long (own_min (q0 &&& (9223372036854775807 : Int64)) (q1 &&& (9223372036854775807 : Int64)))), .second, .val (.long (own_max (q0 &&& (9223372036854775807 : Int64)) (q1 &&& (9223372036854775807 : Int64)))), .second, .val (.long (((own_max (q0 &&& (9223372036854775807 : Int64)) (q1 &&& (9223372036854775807 : Int64))) - (own_min (q0 &&& (9223372036854775807 : Int64)) (q1 &&& (9223372036854775807 : Int64)))) + (1 : Int64))), .second, .val (.long (own_max (q0 &&& (9223372036854775807 : Int64)) (q1 &&& (9223372036854775807 : Int64)))), .second, .val (.int v8), .val (.int v12), .val (.int (own_MG (own_max (q0 &&& (9223372036854775807 : Int64)) (q1 &&& (9223372036854775807 : Int64))) (((own_max (q0 &&& (9223372036854775807 : Int64)) (q1 &&& (9223372036854775807 : Int64))) - (own_min (q0 &&& (9223372036854775807 : Int64)) (q1 &&& (9223372036854775807 : Int64)))) + (1 : Int64)) v8 v12)), .unset] [(.int (own_DG (((own_max (q0 &&& (9223372036854775807 : Int64)) (q1 &&& (9223372036854775807 : Int64))) - (own_min (q0 &&& (9223372036854775807 : Int64)) (q1 &&& (9223372036854775807 : Int64)))) + (1 : Int64)))), (.int (own_DG (own_min (q0 &&& (9223372036854775807 : Int64)) (q1 &&& (9223372036854775807 : Int64)))))])) _
          refine XS.iadd X20.here hx rfl (hb hby at_146) rfl ?_
          show Steps p.tables e below (T20.setTop (mkF m 147 #[.val (.long q0), .second, .val (.long q1), .second, .val (.int p2), .val (.long (q0 &&& (9223372036854775807 : Int64))), .second, .val (.long (q1 &&& (9223372036854775807 : Int64))), .second, .val (.long (own_min (q0 &&& (9223372036854775807 : Int64)) (q1 &&& (9223372036854775807 : Int64)))), .second, .val (.long (own_max (q0 &&& (9223372036854775807 : Int64)) (q1 &&& (9223372036854775807 : Int64)))), .second, .val (.long (((own_max (q0 &&& (9223372036854775807 : Int64)) (q1 &&& (9223372036854775807 : Int64))) - (own_min (q0 &&& (9223372036854775807 : Int64)) (q1 &&& (9223372036854775807 : Int64)))) + (1 : Int64))), .second, .val (.long (own_max (q0 &&& (9223372036854775807 : Int64)) (q1 &&& (9223372036854775807 : Int64)))), .second, .val (.int v8), .val (.int v12), .val (.int (own_MG (own_max (q0 &&& (9223372036854775807 : Int64)) (q1 &&& (9223372036854775807 : Int64))) (((own_max (q0 &&& (9223372036854775807 : Int64)) (q1 &&& (9223372036854775807 : Int64))) - (own_min (q0 &&& (9223372036854775807 : Int64)) (q1 &&& (9223372036854775807 : Int64)))) + (1 : Int64)) v8 v12)), .unset] [(.int ((own_DG (own_min (q0 &&& (9223372036854775807 : Int64)) (q1 &&& (9223372036854775807 : Int64)))) + (own_DG (((own_max (q0 &&& (9223372036854775807 : Int64)) (q1 &&& (9223372036854775807 : Int64))) - (own_min (q0 &&& (9223372036854775807 : Int64)) (q1 &&& (9223372036854775807 : Int64)))) + (1 : Int64)))))])) _
          refine XS.istore X20.here hx rfl (hb hby at_147) rfl (l' := #[.val (.long q0), .second, .val (.long q1), .second, .val (.int p2), .val (.long (q0 &&& (9223372036854775807 : Int64))), .second, .val (.long (q1 &&& (9223372036854775807 : Int64))), .second, .val (.long (own_min (q0 &&& (9223372036854775807 : Int64)) (q1 &&& (9223372036854775807 : Int64)))), .second, .val (.long (own_max (q0 &&& (9223372036854775807 : Int64)) (q1 &&& (9223372036854775807 : Int64)))), .second, .val (.long (((own_max (q0 &&& (9223372036854775807 : Int64)) (q1 &&& (9223372036854775807 : Int64))) - (own_min (q0 &&& (9223372036854775807 : Int64)) (q1 &&& (9223372036854775807 : Int64)))) + (1 : Int64))), .second, .val (.long (own_max (q0 &&& (9223372036854775807 : Int64)) (q1 &&& (9223372036854775807 : Int64)))), .second, .val (.int v8), .val (.int v12), .val (.int (own_MG (own_max (q0 &&& (9223372036854775807 : Int64)) (q1 &&& (9223372036854775807 : Int64))) (((own_max (q0 &&& (9223372036854775807 : Int64)) (q1 &&& (9223372036854775807 : Int64))) - (own_min (q0 &&& (9223372036854775807 : Int64)) (q1 &&& (9223372036854775807 : Int64)))) + (1 : Int64)) v8 v12)), .val (.int ((own_DG (own_min (q0 &&& (9223372036854775807 : Int64)) (q1 &&& (9223372036854775807 : Int64)))) + (own_DG (((own_max (q0 &&& (9223372036854775807 : Int64)) (q1 &&& (9223372036854775807 : Int64))) - (own_min (q0 &&& (9223372036854775807 : Int64)) (q1 &&& (9223372036854775807 : Int64)))) + (1 : Int64)))))]) rfl ?_
          show Steps p.tables e below (T20.setTop (mkF m 149 #[.val (.long q0), .second, .val (.long q1), .second, .val (.int p2), .val (.long (q0 &&& (9223372036854775807 : Int64))), .second, .val (.long (q1 &&& (9223372036854775807 : Int64))), .second, .val (.long (own_min (q0 &&& (9223372036854775807 : Int64)) (q1 &&& (9223372036854775807 : Int64)))), .second, .val (.long (own_max (q0 &&& (9223372036854775807 : Int64)) (q1 &&& (9223372036854775807 : Int64)))), .second, .val (.long (((own_max (q0 &&& (9223372036854775807 : Int64)) (q1 &&& (9223372036854775807 : Int64))) - (own_min (q0 &&& (9223372036854775807 : Int64)) (q1 &&& (9223372036854775807 : Int64)))) + (1 : Int64))), .second, .val (.long (own_max (q0 &&& (9223372036854775807 : Int64)) (q1 &&& (9223372036854775807 : Int64)))), .second, .val (.int v8), .val (.int v12), .val (.int (own_MG (own_max (q0 &&& (9223372036854775807 : Int64)) (q1 &&& (9223372036854775807 : Int64))) (((own_max (q0 &&& (9223372036854775807 : Int64)) (q1 &&& (9223372036854775807 : Int64))) - (own_min (q0 &&& (9223372036854775807 : Int64)) (q1 &&& (9223372036854775807 : Int64)))) + (1 : Int64)) v8 v12)), .val (.int ((own_DG (own_min (q0 &&& (9223372036854775807 : Int64)) (q1 &&& (9223372036854775807 : Int64)))) + (own_DG (((own_max (q0 &&& (9223372036854775807 : Int64)) (q1 &&& (9223372036854775807 : Int64))) - (own_min (q0 &&& (9223372036854775807 : Int64)) (q1 &&& (9223372036854775807 : Int64)))) + (1 : Int64)))))] [])) _
          refine XS.iload X20.here hx rfl (hb hby at_149) rfl ?_
          show Steps p.tables e below (T20.setTop (mkF m 151 #[.val (.long q0), .second, .val (.long q1), .second, .val (.int p2), .val (.long (q0 &&& (9223372036854775807 : Int64))), .second, .val (.long (q1 &&& (9223372036854775807 : Int64))), .second, .val (.long (own_min (q0 &&& (9223372036854775807 : Int64)) (q1 &&& (9223372036854775807 : Int64)))), .second, .val (.long (own_max (q0 &&& (9223372036854775807 : Int64)) (q1 &&& (9223372036854775807 : Int64)))), .second, .val (.long (((own_max (q0 &&& (9223372036854775807 : Int64)) (q1 &&& (9223372036854775807 : Int64))) - (own_min (q0 &&& (9223372036854775807 : Int64)) (q1 &&& (9223372036854775807 : Int64)))) + (1 : Int64))), .second, .val (.long (own_max (q0 &&& (9223372036854775807 : Int64)) (q1 &&& (9223372036854775807 : Int64)))), .second, .val (.int v8), .val (.int v12), .val (.int (own_MG (own_max (q0 &&& (9223372036854775807 : Int64)) (q1 &&& (9223372036854775807 : Int64))) (((own_max (q0 &&& (9223372036854775807 : Int64)) (q1 &&& (9223372036854775807 : Int64))) - (own_min (q0 &&& (9223372036854775807 : Int64)) (q1 &&& (9223372036854775807 : Int64)))) + (1 : Int64)) v8 v12)), .val (.int ((own_DG (own_min (q0 &&& (9223372036854775807 : Int64)) (q1 &&& (9223372036854775807 : Int64)))) + (own_DG (((own_max (q0 &&& (9223372036854775807 : Int64)) (q1 &&& (9223372036854775807 : Int64))) - (own_min (q0 &&& (9223372036854775807 : Int64)) (q1 &&& (9223372036854775807 : Int64)))) + (1 : Int64)))))] [(.int (own_MG (own_max (q0 &&& (9223372036854775807 : Int64)) (q1 &&& (9223372036854775807 : Int64))) (((own_max (q0 &&& (9223372036854775807 : Int64)) (q1 &&& (9223372036854775807 : Int64))) - (own_min (q0 &&& (9223372036854775807 : Int64)) (q1 &&& (9223372036854775807 : Int64)))) + (1 : Int64)) v8 v12))])) _
          refine XS.iload X20.here hx rfl (hb hby at_151) rfl ?_
          show Steps p.tables e below (T20.setTop (mkF m 153 #[.val (.long q0), .second, .val (.long q1), .second, .val (.int p2), .val (.long (q0 &&& (9223372036854775807 : Int64))), .second, .val (.long (q1 &&& (9223372036854775807 : Int64))), .second, .val (.long (own_min (q0 &&& (9223372036854775807 : Int64)) (q1 &&& (9223372036854775807 : Int64)))), .second, .val (.long (own_max (q0 &&& (9223372036854775807 : Int64)) (q1 &&& (9223372036854775807 : Int64)))), .second, .val (.long (((own_max (q0 &&& (9223372036854775807 : Int64)) (q1 &&& (9223372036854775807 : Int64))) - (own_min (q0 &&& (9223372036854775807 : Int64)) (q1 &&& (9223372036854775807 : Int64)))) + (1 : Int64))), .second, .val (.long (own_max (q0 &&& (9223372036854775807 : Int64)) (q1 &&& (9223372036854775807 : Int64)))), .second, .val (.int v8), .val (.int v12), .val (.int (own_MG (own_max (q0 &&& (9223372036854775807 : Int64)) (q1 &&& (9223372036854775807 : Int64))) (((own_max (q0 &&& (9223372036854775807 : Int64)) (q1 &&& (9223372036854775807 : Int64))) - (own_min (q0 &&& (9223372036854775807 : Int64)) (q1 &&& (9223372036854775807 : Int64)))) + (1 : Int64)) v8 v12)), .val (.int ((own_DG (own_min (q0 &&& (9223372036854775807 : Int64)) (q1 &&& (9223372036854775807 : Int64)))) + (own_DG (((own_max (q0 &&& (9223372036854775807 : Int64)) (q1 &&& (9223372036854775807 : Int64))) - (own_min (q0 &&& (9223372036854775807 : Int64)) (q1 &&& (9223372036854775807 : Int64)))) + (1 : Int64)))))] [(.int ((own_DG (own_min (q0 &&& (9223372036854775807 : Int64)) (q1 &&& (9223372036854775807 : Int64)))) + (own_DG (((own_max (q0 &&& (9223372036854775807 : Int64)) (q1 &&& (9223372036854775807 : Int64))) - (own_min (q0 &&& (9223372036854775807 : Int64)) (q1 &&& (9223372036854775807 : Int64)))) + (1 : Int64))))), (.int (own_MG (own_max (q0 &&& (9223372036854775807 : Int64)) (q1 &&& (9223372036854775807 : Int64))) (((own_max (q0 &&& (9223372036854775807 : Int64)) (q1 &&& (9223372036854775807 : Int64))) - (own_min (q0 &&& (9223372036854775807 : Int64)) (q1 &&& (9223372036854775807 : Int64)))) + (1 : Int64)) v8 v12))])) _
          refine XS.icmpNo X20.here hx rfl (hb hby at_153) rfl (teq (by rw [own_MG]; simp only [hc16, hc18, if_true, if_false]; first | done | rfl | (rw [eabo, own_len _ m1, own_len _ hlen]) | (rw [own_len _ hlen]))).2 ?_
          show Steps p.tables e below (T20.setTop (mkF m 156 #[.val (.long q0), .second, .val (.long q1), .second, .val (.int p2), .val (.long (q0 &&& (9223372036854775807 : Int64))), .second, .val (.long (q1 &&& (9223372036854775807 : Int64))), .second, .val (.long (own_min (q0 &&& (9223372036854775807 : Int64)) (q1 &&& (9223372036854775807 : Int64)))), .second, .val (.long (own_max (q0 &&& (9223372036854775807 : Int64)) (q1 &&& (9223372036854775807 : Int64)))), .second, .val (.long (((own_max (q0 &&& (9223372036854775807 : Int64)) (q1 &&& (9223372036854775807 : Int64))) - (own_min (q0 &&& (9223372036854775807 : Int64)) (q1 &&& (9223372036854775807 : Int64)))) + (1 : Int64))), .second, .val (.long (own_max (q0 &&& (9223372036854775807 : Int64)) (q1 &&& (9223372036854775807 : Int64)))), .second, .val (.int v8), .val (.int v12), .val (.int (own_MG (own_max (q0 &&& (9223372036854775807 : Int64)) (q1 &&& (9223372036854775807 : Int64))) (((own_max (q0 &&& (9223372036854775807 : Int64)) (q1 &&& (9223372036854775807 : Int64))) - (own_min (q0 &&& (9223372036854775807 : Int64)) (q1 &&& (9223372036854775807 : Int64)))) + (1 : Int64)) v8 v12)), .val (.int ((own_DG (own_min (q0 &&& (9223372036854775807 : Int64)) (q1 &&& (9223372036854775807 : Int64)))) + (own_DG (((own_max (q0 &&& (9223372036854775807 : Int64)) (q1 &&& (9223372036854775807 : Int64))) - (own_min (q0 &&& (9223372036854775807 : Int64)) (q1 &&& (9223372036854775807 : Int64)))) + (1 : Int64)))))] [])) _
          refine XS.iconst X20.here hx rfl (hb hby at_156) ?_
          show Steps p.tables e below (T20.setTop (mkF m 157 #[.val (.long q0), .second, .val (.long q1), .second, .val (.int p2), .val (.long (q0 &&& (9223372036854775807 : Int64))), .second, .val (.long (q1 &&& (9223372036854775807 : Int64))), .second, .val (.long (own_min (q0 &&& (9223372036854775807 : Int64)) (q1 &&& (9223372036854775807 : Int64)))), .second, .val (.long (own_max (q0 &&& (9223372036854775807 : Int64)) (q1 &&& (9223372036854775807 : Int64)))), .second, .val (.long (((own_max (q0 &&& (9223372036854775807 : Int64)) (q1 &&& (9223372036854775807 : Int64))) - (own_min (q0 &&& (9223372036854775807 : Int64)) (q1 &&& (9223372036854775807 : Int64)))) + (1 : Int64))), .second, .val (.long (own_max (q0 &&& (9223372036854775807 : Int64)) (q1 &&& (9223372036854775807 : Int64)))), .second, .val (.int v8), .val (.int v12), .val (.int (own_MG (own_max (q0 &&& (9223372036854775807 : Int64)) (q1 &&& (9223372036854775807 : Int64))) (((own_max (q0 &&& (9223372036854775807 : Int64)) (q1 &&& (9223372036854775807 : Int64))) - (own_min (q0 &&& (9223372036854775807 : Int64)) (q1 &&& (9223372036854775807 : Int64)))) + (1 : Int64)) v8 v12)), .val (.int ((own_DG (own_min (q0 &&& (9223372036854775807 : Int64)) (q1 &&& (9223372036854775807 : Int64)))) + (own_DG (((own_max (q0 &&& (9223372036854775807 : Int64)) (q1 &&& (9223372036854775807 : Int64))) - (own_min (q0 &&& (9223372036854775807 : Int64)) (q1 &&& (9223372036854775807 : Int64)))) + (1 : Int64)))))] [(.int (1 : Int32))])) _
          refine XS.goto X20.here hx rfl (pc0 := 157) (pc' := 161) rfl (hb hby at_157) (by decide) (by decide) ?_
          show Steps p.tables e below (T20.setTop (mkF m 161 #[.val (.long q0), .second, .val (.long q1), .second, .val (.int p2), .val (.long (q0 &&& (9223372036854775807 : Int64))), .second, .val (.long (q1 &&& (9223372036854775807 : Int64))), .second, .val (.long (own_min (q0 &&& (9223372036854775807 : Int64)) (q1 &&& (9223372036854775807 : Int64)))), .second, .val (.long (own_max (q0 &&& (9223372036854775807 : Int64)) (q1 &&& (9223372036854775807 : Int64)))), .second, .val (.long (((own_max (q0 &&& (9223372036854775807 : Int64)) (q1 &&& (9223372036854775807 : Int64))) - (own_min (q0 &&& (9223372036854775807 : Int64)) (q1 &&& (9223372036854775807 : Int64)))) + (1 : Int64))), .second, .val (.long (own_max (q0 &&& (9223372036854775807 : Int64)) (q1 &&& (9223372036854775807 : Int64)))), .second, .val (.int v8), .val (.int v12), .val (.int (own_MG (own_max (q0 &&& (9223372036854775807 : Int64)) (q1 &&& (9223372036854775807 : Int64))) (((own_max (q0 &&& (9223372036854775807 : Int64)) (q1 &&& (9223372036854775807 : Int64))) - (own_min (q0 &&& (9223372036854775807 : Int64)) (q1 &&& (9223372036854775807 : Int64)))) + (1 : Int64)) v8 v12)), .val (.int ((own_DG (own_min (q0 &&& (9223372036854775807 : Int64)) (q1 &&& (9223372036854775807 : Int64)))) + (own_DG (((own_max (q0 &&& (9223372036854775807 : Int64)) (q1 &&& (9223372036854775807 : Int64))) - (own_min (q0 &&& (9223372036854775807 : Int64)) (q1 &&& (9223372036854775807 : Int64)))) + (1 : Int64)))))] [(.int (1 : Int32))])) _
          exact q)
        obtain ⟨fs, hr, hrun, hended, hW, hsame⟩ := X20.leave (v := some (.int (1 : Int32))) (fun h => by rw [Bd.returns] at h; cases h)
        refine ⟨_, _, k0 _ (k21 _ ?_), hrun, hended, _, _, rfl, ?_, ⟨_, rfl⟩, hW, hsame.mono (by decide) (by decide)⟩
        · show Steps p.tables e below (T20.setTop (mkF m 161 #[.val (.long q0), .second, .val (.long q1), .second, .val (.int p2), .val (.long (q0 &&& (9223372036854775807 : Int64))), .second, .val (.long (q1 &&& (9223372036854775807 : Int64))), .second, .val (.long (own_min (q0 &&& (9223372036854775807 : Int64)) (q1 &&& (9223372036854775807 : Int64)))), .second, .val (.long (own_max (q0 &&& (9223372036854775807 : Int64)) (q1 &&& (9223372036854775807 : Int64)))), .second, .val (.long (((own_max (q0 &&& (9223372036854775807 : Int64)) (q1 &&& (9223372036854775807 : Int64))) - (own_min (q0 &&& (9223372036854775807 : Int64)) (q1 &&& (9223372036854775807 : Int64)))) + (1 : Int64))), .second, .val (.long (own_max (q0 &&& (9223372036854775807 : Int64)) (q1 &&& (9223372036854775807 : Int64)))), .second, .val (.int v8), .val (.int v12), .val (.int (own_MG (own_max (q0 &&& (9223372036854775807 : Int64)) (q1 &&& (9223372036854775807 : Int64))) (((own_max (q0 &&& (9223372036854775807 : Int64)) (q1 &&& (9223372036854775807 : Int64))) - (own_min (q0 &&& (9223372036854775807 : Int64)) (q1 &&& (9223372036854775807 : Int64)))) + (1 : Int64)) v8 v12)), .val (.int ((own_DG (own_min (q0 &&& (9223372036854775807 : Int64)) (q1 &&& (9223372036854775807 : Int64)))) + (own_DG (((own_max (q0 &&& (9223372036854775807 : Int64)) (q1 &&& (9223372036854775807 : Int64))) - (own_min (q0 &&& (9223372036854775807 : Int64)) (q1 &&& (9223372036854775807 : Int64)))) + (1 : Int64)))))] [(.int (1 : Int32))])) _
          exact retN X20 hx (t := .boolean) Bd.returns (by simp) (hb hby at_161) hr
        · show Q0 Z q0 q1 p2 h0 n0 _ T20.heap _
          rw [e20]
          exact ⟨rfl, N20⟩
      ·
        obtain ⟨_, _, ⟨T22, L22, kk22, n22⟩, -, X22, ⟨Lc22, hQ22, l22, y22, z22⟩, st22⟩ := Jvm.LawKit.callS X14 hx (y := (⟨"com/example/ordrly/ordrly/commits/ProgressMostGrowthPinLaw", "digits", "(J)I"⟩ : MethodName)) hown (mvT hZ (hw _ (List.mem_of_getElem? (i := 16) rfl))) (mvT hZ (hw _ (List.mem_of_getElem? (i := 17) rfl))) (mvT hZ (hw _ (List.mem_of_getElem? (i := 18) rfl))) (mvT hZ (hw _ (List.mem_of_getElem? (i := 19) rfl))) (by decide) (backOf (W := 0) (rm5 l Z a0 hw [] (((own_max (q0 &&& (9223372036854775807 : Int64)) (q1 &&& (9223372036854775807 : Int64))) - (own_min (q0 &&& (9223372036854775807 : Int64)) (q1 &&& (9223372036854775807 : Int64)))) + (1 : Int64)) h0 n0 Z0) hZ (hw _ (List.mem_of_getElem? (i := 19) rfl)) (hw _ (List.mem_of_getElem? (i := 18) rfl)) (by decide) (by decide)) (g := (mkF m 128 #[.val (.long q0), .second, .val (.long q1), .second, .val (.int p2), .val (.long (q0 &&& (9223372036854775807 : Int64))), .second, .val (.long (q1 &&& (9223372036854775807 : Int64))), .second, .val (.long (own_min (q0 &&& (9223372036854775807 : Int64)) (q1 &&& (9223372036854775807 : Int64)))), .second, .val (.long (own_max (q0 &&& (9223372036854775807 : Int64)) (q1 &&& (9223372036854775807 : Int64)))), .second, .val (.long (((own_max (q0 &&& (9223372036854775807 : Int64)) (q1 &&& (9223372036854775807 : Int64))) - (own_min (q0 &&& (9223372036854775807 : Int64)) (q1 &&& (9223372036854775807 : Int64)))) + (1 : Int64))), .second, .val (.long (own_max (q0 &&& (9223372036854775807 : Int64)) (q1 &&& (9223372036854775807 : Int64)))), .second, .val (.int v8), .val (.int v12), .val (.int (own_MG (own_max (q0 &&& (9223372036854775807 : Int64)) (q1 &&& (9223372036854775807 : Int64))) (((own_max (q0 &&& (9223372036854775807 : Int64)) (q1 &&& (9223372036854775807 : Int64))) - (own_min (q0 &&& (9223372036854775807 : Int64)) (q1 &&& (9223372036854775807 : Int64)))) + (1 : Int64)) v8 v12)), .unset] [(.long (((own_max (q0 &&& (9223372036854775807 : Int64)) (q1 &&& (9223372036854775807 : Int64))) - (own_min (q0 &&& (9223372036854775807 : Int64)) (q1 &&& (9223372036854775807 : Int64)))) + (1 : Int64)))])) rfl (by rw [hml]; rfl) (argsL := [(.long (((own_max (q0 &&& (9223372036854775807 : Int64)) (q1 &&& (9223372036854775807 : Int64))) - (own_min (q0 &&& (9223372036854775807 : Int64)) (q1 &&& (9223372036854775807 : Int64)))) + (1 : Int64)))]) (rest := []) (lenOf own_pd0 rfl) rfl (by show 2 * 0 + _ ≤ _; exact Nat.le_of_eq rfl) (hb hby at_128) (fun _ _ => ⟨rfl, e14, (by decide : 0 + 0 ≤ _), (by decide : 0 + 0 ≤ _)⟩)
        dsimp only [Pt.U, Pt.locs, Pt.cells, Pt.slots] at X22 l22 y22 z22 st22 hQ22
        subst l22 y22 z22
        obtain ⟨rfl, N22q, e22⟩ := hQ22
        have N22 := Fr.app N14 N22q
        have k23 : own_To p e below T22 (mkF m 161 #[.val (.long q0), .second, .val (.long q1), .second, .val (.int p2), .val (.long (q0 &&& (9223372036854775807 : Int64))), .second, .val (.long (q1 &&& (9223372036854775807 : Int64))), .second, .val (.long (own_min (q0 &&& (9223372036854775807 : Int64)) (q1 &&& (9223372036854775807 : Int64)))), .second, .val (.long (own_max (q0 &&& (9223372036854775807 : Int64)) (q1 &&& (9223372036854775807 : Int64)))), .second, .val (.long (((own_max (q0 &&& (9223372036854775807 : Int64)) (q1 &&& (9223372036854775807 : Int64))) - (own_min (q0 &&& (9223372036854775807 : Int64)) (q1 &&& (9223372036854775807 : Int64)))) + (1 : Int64))), .second, .val (.long (own_max (q0 &&& (9223372036854775807 : Int64)) (q1 &&& (9223372036854775807 : Int64)))), .second, .val (.int v8), .val (.int v12), .val (.int (own_MG (own_max (q0 &&& (9223372036854775807 : Int64)) (q1 &&& (9223372036854775807 : Int64))) (((own_max (q0 &&& (9223372036854775807 : Int64)) (q1 &&& (9223372036854775807 : Int64))) - (own_min (q0 &&& (9223372036854775807 : Int64)) (q1 &&& (9223372036854775807 : Int64)))) + (1 : Int64)) v8 v12)), .val (.int (own_DG (((own_max (q0 &&& (9223372036854775807 : Int64)) (q1 &&& (9223372036854775807 : Int64))) - (own_min (q0 &&& (9223372036854775807 : Int64)) (q1 &&& (9223372036854775807 : Int64)))) + (1 : Int64))))] [(.int (1 : Int32))]) s₁ (mkF m 0 #[.val (.long q0), .second, .val (.long q1), .second, .val (.int p2), .unset, .unset, .unset, .unset, .unset, .unset, .unset, .unset, .unset, .unset, .unset, .unset, .unset, .unset, .unset, .unset] []) := fun t q => k17 t (by
          refine XS.ifNo X14.here hx rfl (hb hby at_123) rfl ((if0 _ _).trans (feq hc18).1) ?_
          show Steps p.tables e below (T14.setTop (mkF m 126 #[.val (.long q0), .second, .val (.long q1), .second, .val (.int p2), .val (.long (q0 &&& (9223372036854775807 : Int64))), .second, .val (.long (q1 &&& (9223372036854775807 : Int64))), .second, .val (.long (own_min (q0 &&& (9223372036854775807 : Int64)) (q1 &&& (9223372036854775807 : Int64)))), .second, .val (.long (own_max (q0 &&& (9223372036854775807 : Int64)) (q1 &&& (9223372036854775807 : Int64)))), .second, .val (.long (((own_max (q0 &&& (9223372036854775807 : Int64)) (q1 &&& (9223372036854775807 : Int64))) - (own_min (q0 &&& (9223372036854775807 : Int64)) (q1 &&& (9223372036854775807 : Int64)))) + (1 : Int64))), .second, .val (.long (own_max (q0 &&& (9223372036854775807 : Int64)) (q1 &&& (9223372036854775807 : Int64)))), .second, .val (.int v8), .val (.int v12), .val (.int (own_MG (own_max (q0 &&& (9223372036854775807 : Int64)) (q1 &&& (9223372036854775807 : Int64))) (((own_max (q0 &&& (9223372036854775807 : Int64)) (q1 &&& (9223372036854775807 : Int64))) - (own_min (q0 &&& (9223372036854775807 : Int64)) (q1 &&& (9223372036854775807 : Int64)))) + (1 : Int64)) v8 v12)), .unset] [])) _
          refine XS.lload X14.here hx rfl (hb hby at_126) rfl ?_
          show Steps p.tables e below (T14.setTop (mkF m 128 #[.val (.long q0), .second, .val (.long q1), .second, .val (.int p2), .val (.long (q0 &&& (9223372036854775807 : Int64))), .second, .val (.long (q1 &&& (9223372036854775807 : Int64))), .second, .val (.long (own_min (q0 &&& (9223372036854775807 : Int64)) (q1 &&& (9223372036854775807 : Int64)))), .second, .val (.long (own_max (q0 &&& (9223372036854775807 : Int64)) (q1 &&& (9223372036854775807 : Int64)))), .second, .val (.long (((own_max (q0 &&& (9223372036854775807 : Int64)) (q1 &&& (9223372036854775807 : Int64))) - (own_min (q0 &&& (9223372036854775807 : Int64)) (q1 &&& (9223372036854775807 : Int64)))) + (1 : Int64))), .second, .val (.long (own_max (q0 &&& (9223372036854775807 : Int64)) (q1 &&& (9223372036854775807 : Int64)))), .second, .val (.int v8), .val (.int v12), .val (.int (own_MG (own_max (q0 &&& (9223372036854775807 : Int64)) (q1 &&& (9223372036854775807 : Int64))) (((own_max (q0 &&& (9223372036854775807 : Int64)) (q1 &&& (9223372036854775807 : Int64))) - (own_min (q0 &&& (9223372036854775807 : Int64)) (q1 &&& (9223372036854775807 : Int64)))) + (1 : Int64)) v8 v12)), .unset] [(.long (((own_max (q0 &&& (9223372036854775807 : Int64)) (q1 &&& (9223372036854775807 : Int64))) - (own_min (q0 &&& (9223372036854775807 : Int64)) (q1 &&& (9223372036854775807 : Int64)))) + (1 : Int64)))])) _
          refine st22 _ ?_
          show Steps p.tables e below (T22.setTop (mkF m 131 #[.val (.long q0), .second, .val (.long q1), .second, .val (.int p2), .val (.long (q0 &&& (9223372036854775807 : Int64))), .second, .val (.long (q1 &&& (9223372036854775807 : Int64))), .second, .val (.long (own_min (q0 &&& (9223372036854775807 : Int64)) (q1 &&& (9223372036854775807 : Int64)))), .second, .val (.long (own_max (q0 &&& (9223372036854775807 : Int64)) (q1 &&& (9223372036854775807 : Int64)))), .second, .val (.long (((own_max (q0 &&& (9223372036854775807 : Int64)) (q1 &&& (9223372036854775807 : Int64))) - (own_min (q0 &&& (9223372036854775807 : Int64)) (q1 &&& (9223372036854775807 : Int64)))) + (1 : Int64))), .second, .val (.long (own_max (q0 &&& (9223372036854775807 : Int64)) (q1 &&& (9223372036854775807 : Int64)))), .second, .val (.int v8), .val (.int v12), .val (.int (own_MG (own_max (q0 &&& (9223372036854775807 : Int64)) (q1 &&& (9223372036854775807 : Int64))) (((own_max (q0 &&& (9223372036854775807 : Int64)) (q1 &&& (9223372036854775807 : Int64))) - (own_min (q0 &&& (9223372036854775807 : Int64)) (q1 &&& (9223372036854775807 : Int64)))) + (1 : Int64)) v8 v12)), .unset] [(.int (own_DG (((own_max (q0 &&& (9223372036854775807 : Int64)) (q1 &&& (9223372036854775807 : Int64))) - (own_min (q0 &&& (9223372036854775807 : Int64)) (q1 &&& (9223372036854775807 : Int64)))) + (1 : Int64))))])) _
          refine XS.istore X22.here hx rfl (hb hby at_131) rfl (l' := #[.val (.long q0), .second, .val (.long q1), .second, .val (.int p2), .val (.long (q0 &&& (9223372036854775807 : Int64))), .second, .val (.long (q1 &&& (9223372036854775807 : Int64))), .second, .val (.long (own_min (q0 &&& (9223372036854775807 : Int64)) (q1 &&& (9223372036854775807 : Int64)))), .second, .val (.long (own_max (q0 &&& (9223372036854775807 : Int64)) (q1 &&& (9223372036854775807 : Int64)))), .second, .val (.long (((own_max (q0 &&& (9223372036854775807 : Int64)) (q1 &&& (9223372036854775807 : Int64))) - (own_min (q0 &&& (9223372036854775807 : Int64)) (q1 &&& (9223372036854775807 : Int64)))) + (1 : Int64))), .second, .val (.long (own_max (q0 &&& (9223372036854775807 : Int64)) (q1 &&& (9223372036854775807 : Int64)))), .second, .val (.int v8), .val (.int v12), .val (.int (own_MG (own_max (q0 &&& (9223372036854775807 : Int64)) (q1 &&& (9223372036854775807 : Int64))) (((own_max (q0 &&& (9223372036854775807 : Int64)) (q1 &&& (9223372036854775807 : Int64))) - (own_min (q0 &&& (9223372036854775807 : Int64)) (q1 &&& (9223372036854775807 : Int64)))) + (1 : Int64)) v8 v12)), .val (.int (own_DG (((own_max (q0 &&& (9223372036854775807 : Int64)) (q1 &&& (9223372036854775807 : Int64))) - (own_min (q0 &&& (9223372036854775807 : Int64)) (q1 &&& (9223372036854775807 : Int64)))) + (1 : Int64))))]) rfl ?_
          show Steps p.tables e below (T22.setTop (mkF m 133 #[.val (.long q0), .second, .val (.long q1), .second, .val (.int p2), .val (.long (q0 &&& (9223372036854775807 : Int64))), .second, .val (.long (q1 &&& (9223372036854775807 : Int64))), .second, .val (.long (own_min (q0 &&& (9223372036854775807 : Int64)) (q1 &&& (9223372036854775807 : Int64)))), .second, .val (.long (own_max (q0 &&& (9223372036854775807 : Int64)) (q1 &&& (9223372036854775807 : Int64)))), .second, .val (.long (((own_max (q0 &&& (9223372036854775807 : Int64)) (q1 &&& (9223372036854775807 : Int64))) - (own_min (q0 &&& (9223372036854775807 : Int64)) (q1 &&& (9223372036854775807 : Int64)))) + (1 : Int64))), .second, .val (.long (own_max (q0 &&& (9223372036854775807 : Int64)) (q1 &&& (9223372036854775807 : Int64)))), .second, .val (.int v8), .val (.int v12), .val (.int (own_MG (own_max (q0 &&& (9223372036854775807 : Int64)) (q1 &&& (9223372036854775807 : Int64))) (((own_max (q0 &&& (9223372036854775807 : Int64)) (q1 &&& (9223372036854775807 : Int64))) - (own_min (q0 &&& (9223372036854775807 : Int64)) (q1 &&& (9223372036854775807 : Int64)))) + (1 : Int64)) v8 v12)), .val (.int (own_DG (((own_max (q0 &&& (9223372036854775807 : Int64)) (q1 &&& (9223372036854775807 : Int64))) - (own_min (q0 &&& (9223372036854775807 : Int64)) (q1 &&& (9223372036854775807 : Int64)))) + (1 : Int64))))] [])) _
          refine XS.goto X22.here hx rfl (pc0 := 133) (pc' := 149) rfl (hb hby at_133) (by decide) (by decide) ?_
          show Steps p.tables e below (T22.setTop (mkF m 149 #[.val (.long q0), .second, .val (.long q1), .second, .val (.int p2), .val (.long (q0 &&& (9223372036854775807 : Int64))), .second, .val (.long (q1 &&& (9223372036854775807 : Int64))), .second, .val (.long (own_min (q0 &&& (9223372036854775807 : Int64)) (q1 &&& (9223372036854775807 : Int64)))), .second, .val (.long (own_max (q0 &&& (9223372036854775807 : Int64)) (q1 &&& (9223372036854775807 : Int64)))), .second, .val (.long (((own_max (q0 &&& (9223372036854775807 : Int64)) (q1 &&& (9223372036854775807 : Int64))) - (own_min (q0 &&& (9223372036854775807 : Int64)) (q1 &&& (9223372036854775807 : Int64)))) + (1 : Int64))), .second, .val (.long (own_max (q0 &&& (9223372036854775807 : Int64)) (q1 &&& (9223372036854775807 : Int64)))), .second, .val (.int v8), .val (.int v12), .val (.int (own_MG (own_max (q0 &&& (9223372036854775807 : Int64)) (q1 &&& (9223372036854775807 : Int64))) (((own_max (q0 &&& (9223372036854775807 : Int64)) (q1 &&& (9223372036854775807 : Int64))) - (own_min (q0 &&& (9223372036854775807 : Int64)) (q1 &&& (9223372036854775807 : Int64)))) + (1 : Int64)) v8 v12)), .val (.int (own_DG (((own_max (q0 &&& (9223372036854775807 : Int64)) (q1 &&& (9223372036854775807 : Int64))) - (own_min (q0 &&& (9223372036854775807 : Int64)) (q1 &&& (9223372036854775807 : Int64)))) + (1 : Int64))))] [])) _
          refine XS.iload X22.here hx rfl (hb hby at_149) rfl ?_
          show Steps p.tables e below (T22.setTop (mkF m 151 #[.val (.long q0), .second, .val (.long q1), .second, .val (.int p2), .val (.long (q0 &&& (9223372036854775807 : Int64))), .second, .val (.long (q1 &&& (9223372036854775807 : Int64))), .second, .val (.long (own_min (q0 &&& (9223372036854775807 : Int64)) (q1 &&& (9223372036854775807 : Int64)))), .second, .val (.long (own_max (q0 &&& (9223372036854775807 : Int64)) (q1 &&& (9223372036854775807 : Int64)))), .second, .val (.long (((own_max (q0 &&& (9223372036854775807 : Int64)) (q1 &&& (9223372036854775807 : Int64))) - (own_min (q0 &&& (9223372036854775807 : Int64)) (q1 &&& (9223372036854775807 : Int64)))) + (1 : Int64))), .second, .val (.long (own_max (q0 &&& (9223372036854775807 : Int64)) (q1 &&& (9223372036854775807 : Int64)))), .second, .val (.int v8), .val (.int v12), .val (.int (own_MG (own_max (q0 &&& (9223372036854775807 : Int64)) (q1 &&& (9223372036854775807 : Int64))) (((own_max (q0 &&& (9223372036854775807 : Int64)) (q1 &&& (9223372036854775807 : Int64))) - (own_min (q0 &&& (9223372036854775807 : Int64)) (q1 &&& (9223372036854775807 : Int64)))) + (1 : Int64)) v8 v12)), .val (.int (own_DG (((own_max (q0 &&& (9223372036854775807 : Int64)) (q1 &&& (9223372036854775807 : Int64))) - (own_min (q0 &&& (9223372036854775807 : Int64)) (q1 &&& (9223372036854775807 : Int64)))) + (1 : Int64))))] [(.int (own_MG (own_max (q0 &&& (9223372036854775807 : Int64)) (q1 &&& (9223372036854775807 : Int64))) (((own_max (q0 &&& (9223372036854775807 : Int64)) (q1 &&& (9223372036854775807 : Int64))) - (own_min (q0 &&& (9223372036854775807 : Int64)) (q1 &&& (9223372036854775807 : Int64)))) + (1 : Int64)) v8 v12))])) _
          refine XS.iload X22.here hx rfl (hb hby at_151) rfl ?_
          show Steps p.tables e below (T22.setTop (mkF m 153 #[.val (.long q0), .second, .val (.long q1), .second, .val (.int p2), .val (.long (q0 &&& (9223372036854775807 : Int64))), .second, .val (.long (q1 &&& (9223372036854775807 : Int64))), .second, .val (.long (own_min (q0 &&& (9223372036854775807 : Int64)) (q1 &&& (9223372036854775807 : Int64)))), .second, .val (.long (own_max (q0 &&& (9223372036854775807 : Int64)) (q1 &&& (9223372036854775807 : Int64)))), .second, .val (.long (((own_max (q0 &&& (9223372036854775807 : Int64)) (q1 &&& (9223372036854775807 : Int64))) - (own_min (q0 &&& (9223372036854775807 : Int64)) (q1 &&& (9223372036854775807 : Int64)))) + (1 : Int64))), .second, .val (.long (own_max (q0 &&& (9223372036854775807 : Int64)) (q1 &&& (9223372036854775807 : Int64)))), .second, .val (.int v8), .val (.int v12), .val (.int (own_MG (own_max (q0 &&& (9223372036854775807 : Int64)) (q1 &&& (9223372036854775807 : Int64))) (((own_max (q0 &&& (9223372036854775807 : Int64)) (q1 &&& (9223372036854775807 : Int64))) - (own_min (q0 &&& (9223372036854775807 : Int64)) (q1 &&& (9223372036854775807 : Int64)))) + (1 : Int64)) v8 v12)), .val (.int (own_DG (((own_max (q0 &&& (9223372036854775807 : Int64)) (q1 &&& (9223372036854775807 : Int64))) - (own_min (q0 &&& (9223372036854775807 : Int64)) (q1 &&& (9223372036854775807 : Int64)))) + (1 : Int64))))] [(.int (own_DG (((own_max (q0 &&& (9223372036854775807 : Int64)) (q1 &&& (9223372036854775807 : Int64))) - (own_min (q0 &&& (9223372036854775807 : Int64)) (q1 &&& (9223372036854775807 : Int64)))) + (1 : Int64)))), (.int (own_MG (own_max (q0 &&& (9223372036854775807 : Int64)) (q1 &&& (9223372036854775807 : Int64))) (((own_max (q0 &&& (9223372036854775807 : Int64)) (q1 &&& (9223372036854775807 : Int64))) - (own_min (q0 &&& (9223372036854775807 : Int64)) (q1 &&& (9223372036854775807 : Int64)))) + (1 : Int64)) v8 v12))])) _
          refine XS.icmpNo X22.here hx rfl (hb hby at_153) rfl (teq (by rw [own_MG]; simp only [hc16, hc18, if_true, if_false]; first | done | rfl | (rw [eabo, own_len _ m1, own_len _ hlen]) | (rw [own_len _ hlen]))).2 ?_
          show Steps p.tables e below (T22.setTop (mkF m 156 #[.val (.long q0), .second, .val (.long q1), .second, .val (.int p2), .val (.long (q0 &&& (9223372036854775807 : Int64))), .second, .val (.long (q1 &&& (9223372036854775807 : Int64))), .second, .val (.long (own_min (q0 &&& (9223372036854775807 : Int64)) (q1 &&& (9223372036854775807 : Int64)))), .second, .val (.long (own_max (q0 &&& (9223372036854775807 : Int64)) (q1 &&& (9223372036854775807 : Int64)))), .second, .val (.long (((own_max (q0 &&& (9223372036854775807 : Int64)) (q1 &&& (9223372036854775807 : Int64))) - (own_min (q0 &&& (9223372036854775807 : Int64)) (q1 &&& (9223372036854775807 : Int64)))) + (1 : Int64))), .second, .val (.long (own_max (q0 &&& (9223372036854775807 : Int64)) (q1 &&& (9223372036854775807 : Int64)))), .second, .val (.int v8), .val (.int v12), .val (.int (own_MG (own_max (q0 &&& (9223372036854775807 : Int64)) (q1 &&& (9223372036854775807 : Int64))) (((own_max (q0 &&& (9223372036854775807 : Int64)) (q1 &&& (9223372036854775807 : Int64))) - (own_min (q0 &&& (9223372036854775807 : Int64)) (q1 &&& (9223372036854775807 : Int64)))) + (1 : Int64)) v8 v12)), .val (.int (own_DG (((own_max (q0 &&& (9223372036854775807 : Int64)) (q1 &&& (9223372036854775807 : Int64))) - (own_min (q0 &&& (9223372036854775807 : Int64)) (q1 &&& (9223372036854775807 : Int64)))) + (1 : Int64))))] [])) _
          refine XS.iconst X22.here hx rfl (hb hby at_156) ?_
          show Steps p.tables e below (T22.setTop (mkF m 157 #[.val (.long q0), .second, .val (.long q1), .second, .val (.int p2), .val (.long (q0 &&& (9223372036854775807 : Int64))), .second, .val (.long (q1 &&& (9223372036854775807 : Int64))), .second, .val (.long (own_min (q0 &&& (9223372036854775807 : Int64)) (q1 &&& (9223372036854775807 : Int64)))), .second, .val (.long (own_max (q0 &&& (9223372036854775807 : Int64)) (q1 &&& (9223372036854775807 : Int64)))), .second, .val (.long (((own_max (q0 &&& (9223372036854775807 : Int64)) (q1 &&& (9223372036854775807 : Int64))) - (own_min (q0 &&& (9223372036854775807 : Int64)) (q1 &&& (9223372036854775807 : Int64)))) + (1 : Int64))), .second, .val (.long (own_max (q0 &&& (9223372036854775807 : Int64)) (q1 &&& (9223372036854775807 : Int64)))), .second, .val (.int v8), .val (.int v12), .val (.int (own_MG (own_max (q0 &&& (9223372036854775807 : Int64)) (q1 &&& (9223372036854775807 : Int64))) (((own_max (q0 &&& (9223372036854775807 : Int64)) (q1 &&& (9223372036854775807 : Int64))) - (own_min (q0 &&& (9223372036854775807 : Int64)) (q1 &&& (9223372036854775807 : Int64)))) + (1 : Int64)) v8 v12)), .val (.int (own_DG (((own_max (q0 &&& (9223372036854775807 : Int64)) (q1 &&& (9223372036854775807 : Int64))) - (own_min (q0 &&& (9223372036854775807 : Int64)) (q1 &&& (9223372036854775807 : Int64)))) + (1 : Int64))))] [(.int (1 : Int32))])) _
          refine XS.goto X22.here hx rfl (pc0 := 157) (pc' := 161) rfl (hb hby at_157) (by decide) (by decide) ?_
          show Steps p.tables e below (T22.setTop (mkF m 161 #[.val (.long q0), .second, .val (.long q1), .second, .val (.int p2), .val (.long (q0 &&& (9223372036854775807 : Int64))), .second, .val (.long (q1 &&& (9223372036854775807 : Int64))), .second, .val (.long (own_min (q0 &&& (9223372036854775807 : Int64)) (q1 &&& (9223372036854775807 : Int64)))), .second, .val (.long (own_max (q0 &&& (9223372036854775807 : Int64)) (q1 &&& (9223372036854775807 : Int64)))), .second, .val (.long (((own_max (q0 &&& (9223372036854775807 : Int64)) (q1 &&& (9223372036854775807 : Int64))) - (own_min (q0 &&& (9223372036854775807 : Int64)) (q1 &&& (9223372036854775807 : Int64)))) + (1 : Int64))), .second, .val (.long (own_max (q0 &&& (9223372036854775807 : Int64)) (q1 &&& (9223372036854775807 : Int64)))), .second, .val (.int v8), .val (.int v12), .val (.int (own_MG (own_max (q0 &&& (9223372036854775807 : Int64)) (q1 &&& (9223372036854775807 : Int64))) (((own_max (q0 &&& (9223372036854775807 : Int64)) (q1 &&& (9223372036854775807 : Int64))) - (own_min (q0 &&& (9223372036854775807 : Int64)) (q1 &&& (9223372036854775807 : Int64)))) + (1 : Int64)) v8 v12)), .val (.int (own_DG (((own_max (q0 &&& (9223372036854775807 : Int64)) (q1 &&& (9223372036854775807 : Int64))) - (own_min (q0 &&& (9223372036854775807 : Int64)) (q1 &&& (9223372036854775807 : Int64)))) + (1 : Int64))))] [(.int (1 : Int32))])) _
          exact q)
        obtain ⟨fs, hr, hrun, hended, hW, hsame⟩ := X22.leave (v := some (.int (1 : Int32))) (fun h => by rw [Bd.returns] at h; cases h)
        refine ⟨_, _, k0 _ (k23 _ ?_), hrun, hended, _, _, rfl, ?_, ⟨_, rfl⟩, hW, hsame.mono (by decide) (by decide)⟩
        · show Steps p.tables e below (T22.setTop (mkF m 161 #[.val (.long q0), .second, .val (.long q1), .second, .val (.int p2), .val (.long (q0 &&& (9223372036854775807 : Int64))), .second, .val (.long (q1 &&& (9223372036854775807 : Int64))), .second, .val (.long (own_min (q0 &&& (9223372036854775807 : Int64)) (q1 &&& (9223372036854775807 : Int64)))), .second, .val (.long (own_max (q0 &&& (9223372036854775807 : Int64)) (q1 &&& (9223372036854775807 : Int64)))), .second, .val (.long (((own_max (q0 &&& (9223372036854775807 : Int64)) (q1 &&& (9223372036854775807 : Int64))) - (own_min (q0 &&& (9223372036854775807 : Int64)) (q1 &&& (9223372036854775807 : Int64)))) + (1 : Int64))), .second, .val (.long (own_max (q0 &&& (9223372036854775807 : Int64)) (q1 &&& (9223372036854775807 : Int64)))), .second, .val (.int v8), .val (.int v12), .val (.int (own_MG (own_max (q0 &&& (9223372036854775807 : Int64)) (q1 &&& (9223372036854775807 : Int64))) (((own_max (q0 &&& (9223372036854775807 : Int64)) (q1 &&& (9223372036854775807 : Int64))) - (own_min (q0 &&& (9223372036854775807 : Int64)) (q1 &&& (9223372036854775807 : Int64)))) + (1 : Int64)) v8 v12)), .val (.int (own_DG (((own_max (q0 &&& (9223372036854775807 : Int64)) (q1 &&& (9223372036854775807 : Int64))) - (own_min (q0 &&& (9223372036854775807 : Int64)) (q1 &&& (9223372036854775807 : Int64)))) + (1 : Int64))))] [(.int (1 : Int32))])) _
          exact retN X22 hx (t := .boolean) Bd.returns (by simp) (hb hby at_161) hr
        · show Q0 Z q0 q1 p2 h0 n0 _ T22.heap _
          rw [e22]
          exact ⟨rfl, N22⟩
    ·
      have k24 : own_To p e below T14 (mkF m 102 #[.val (.long q0), .second, .val (.long q1), .second, .val (.int p2), .val (.long (q0 &&& (9223372036854775807 : Int64))), .second, .val (.long (q1 &&& (9223372036854775807 : Int64))), .second, .val (.long (own_min (q0 &&& (9223372036854775807 : Int64)) (q1 &&& (9223372036854775807 : Int64)))), .second, .val (.long (own_max (q0 &&& (9223372036854775807 : Int64)) (q1 &&& (9223372036854775807 : Int64)))), .second, .val (.long (((own_max (q0 &&& (9223372036854775807 : Int64)) (q1 &&& (9223372036854775807 : Int64))) - (own_min (q0 &&& (9223372036854775807 : Int64)) (q1 &&& (9223372036854775807 : Int64)))) + (1 : Int64))), .second, .val (.long (own_max (q0 &&& (9223372036854775807 : Int64)) (q1 &&& (9223372036854775807 : Int64)))), .second, .val (.int v8), .val (.int v12), .val (.int (own_MG (own_max (q0 &&& (9223372036854775807 : Int64)) (q1 &&& (9223372036854775807 : Int64))) (((own_max (q0 &&& (9223372036854775807 : Int64)) (q1 &&& (9223372036854775807 : Int64))) - (own_min (q0 &&& (9223372036854775807 : Int64)) (q1 &&& (9223372036854775807 : Int64)))) + (1 : Int64)) v8 v12)), .unset] [(.int v12)]) s₁ (mkF m 0 #[.val (.long q0), .second, .val (.long q1), .second, .val (.int p2), .unset, .unset, .unset, .unset, .unset, .unset, .unset, .unset, .unset, .unset, .unset, .unset, .unset, .unset, .unset, .unset] []) := fun t q => k15 t (by
        refine XS.ifNo X14.here hx rfl (hb hby at_97) rfl ((if0 _ _).trans (feq hc16).1) ?_
        show Steps p.tables e below (T14.setTop (mkF m 100 #[.val (.long q0), .second, .val (.long q1), .second, .val (.int p2), .val (.long (q0 &&& (9223372036854775807 : Int64))), .second, .val (.long (q1 &&& (9223372036854775807 : Int64))), .second, .val (.long (own_min (q0 &&& (9223372036854775807 : Int64)) (q1 &&& (9223372036854775807 : Int64)))), .second, .val (.long (own_max (q0 &&& (9223372036854775807 : Int64)) (q1 &&& (9223372036854775807 : Int64)))), .second, .val (.long (((own_max (q0 &&& (9223372036854775807 : Int64)) (q1 &&& (9223372036854775807 : Int64))) - (own_min (q0 &&& (9223372036854775807 : Int64)) (q1 &&& (9223372036854775807 : Int64)))) + (1 : Int64))), .second, .val (.long (own_max (q0 &&& (9223372036854775807 : Int64)) (q1 &&& (9223372036854775807 : Int64)))), .second, .val (.int v8), .val (.int v12), .val (.int (own_MG (own_max (q0 &&& (9223372036854775807 : Int64)) (q1 &&& (9223372036854775807 : Int64))) (((own_max (q0 &&& (9223372036854775807 : Int64)) (q1 &&& (9223372036854775807 : Int64))) - (own_min (q0 &&& (9223372036854775807 : Int64)) (q1 &&& (9223372036854775807 : Int64)))) + (1 : Int64)) v8 v12)), .unset] [])) _
        refine XS.iload X14.here hx rfl (hb hby at_100) rfl ?_
        show Steps p.tables e below (T14.setTop (mkF m 102 #[.val (.long q0), .second, .val (.long q1), .second, .val (.int p2), .val (.long (q0 &&& (9223372036854775807 : Int64))), .second, .val (.long (q1 &&& (9223372036854775807 : Int64))), .second, .val (.long (own_min (q0 &&& (9223372036854775807 : Int64)) (q1 &&& (9223372036854775807 : Int64)))), .second, .val (.long (own_max (q0 &&& (9223372036854775807 : Int64)) (q1 &&& (9223372036854775807 : Int64)))), .second, .val (.long (((own_max (q0 &&& (9223372036854775807 : Int64)) (q1 &&& (9223372036854775807 : Int64))) - (own_min (q0 &&& (9223372036854775807 : Int64)) (q1 &&& (9223372036854775807 : Int64)))) + (1 : Int64))), .second, .val (.long (own_max (q0 &&& (9223372036854775807 : Int64)) (q1 &&& (9223372036854775807 : Int64)))), .second, .val (.int v8), .val (.int v12), .val (.int (own_MG (own_max (q0 &&& (9223372036854775807 : Int64)) (q1 &&& (9223372036854775807 : Int64))) (((own_max (q0 &&& (9223372036854775807 : Int64)) (q1 &&& (9223372036854775807 : Int64))) - (own_min (q0 &&& (9223372036854775807 : Int64)) (q1 &&& (9223372036854775807 : Int64)))) + (1 : Int64)) v8 v12)), .unset] [(.int v12)])) _
        exact q)
      by_cases hc25 : v12 = (0 : Int32)
      ·
        obtain ⟨_, _, ⟨T26, L26, kk26, n26⟩, -, X26, ⟨Lc26, hQ26, l26, y26, z26⟩, st26⟩ := Jvm.LawKit.callS X14 hx (y := (⟨"com/example/ordrly/ordrly/commits/ProgressMostGrowthPinLaw", "digits", "(J)I"⟩ : MethodName)) hown (mvT hZ (hw _ (List.mem_of_getElem? (i := 16) rfl))) (mvT hZ (hw _ (List.mem_of_getElem? (i := 17) rfl))) (mvT hZ (hw _ (List.mem_of_getElem? (i := 18) rfl))) (mvT hZ (hw _ (List.mem_of_getElem? (i := 19) rfl))) (by decide) (backOf (W := 0) (rm5 l Z a0 hw [] (((own_max (q0 &&& (9223372036854775807 : Int64)) (q1 &&& (9223372036854775807 : Int64))) - (own_min (q0 &&& (9223372036854775807 : Int64)) (q1 &&& (9223372036854775807 : Int64)))) + (1 : Int64)) h0 n0 Z0) hZ (hw _ (List.mem_of_getElem? (i := 19) rfl)) (hw _ (List.mem_of_getElem? (i := 18) rfl)) (by decide) (by decide)) (g := (mkF m 113 #[.val (.long q0), .second, .val (.long q1), .second, .val (.int p2), .val (.long (q0 &&& (9223372036854775807 : Int64))), .second, .val (.long (q1 &&& (9223372036854775807 : Int64))), .second, .val (.long (own_min (q0 &&& (9223372036854775807 : Int64)) (q1 &&& (9223372036854775807 : Int64)))), .second, .val (.long (own_max (q0 &&& (9223372036854775807 : Int64)) (q1 &&& (9223372036854775807 : Int64)))), .second, .val (.long (((own_max (q0 &&& (9223372036854775807 : Int64)) (q1 &&& (9223372036854775807 : Int64))) - (own_min (q0 &&& (9223372036854775807 : Int64)) (q1 &&& (9223372036854775807 : Int64)))) + (1 : Int64))), .second, .val (.long (own_max (q0 &&& (9223372036854775807 : Int64)) (q1 &&& (9223372036854775807 : Int64)))), .second, .val (.int v8), .val (.int v12), .val (.int (own_MG (own_max (q0 &&& (9223372036854775807 : Int64)) (q1 &&& (9223372036854775807 : Int64))) (((own_max (q0 &&& (9223372036854775807 : Int64)) (q1 &&& (9223372036854775807 : Int64))) - (own_min (q0 &&& (9223372036854775807 : Int64)) (q1 &&& (9223372036854775807 : Int64)))) + (1 : Int64)) v8 v12)), .unset] [(.long (((own_max (q0 &&& (9223372036854775807 : Int64)) (q1 &&& (9223372036854775807 : Int64))) - (own_min (q0 &&& (9223372036854775807 : Int64)) (q1 &&& (9223372036854775807 : Int64)))) + (1 : Int64)))])) rfl (by rw [hml]; rfl) (argsL := [(.long (((own_max (q0 &&& (9223372036854775807 : Int64)) (q1 &&& (9223372036854775807 : Int64))) - (own_min (q0 &&& (9223372036854775807 : Int64)) (q1 &&& (9223372036854775807 : Int64)))) + (1 : Int64)))]) (rest := []) (lenOf own_pd0 rfl) rfl (by show 2 * 0 + _ ≤ _; exact Nat.le_of_eq rfl) (hb hby at_113) (fun _ _ => ⟨rfl, e14, (by decide : 0 + 0 ≤ _), (by decide : 0 + 0 ≤ _)⟩)
        dsimp only [Pt.U, Pt.locs, Pt.cells, Pt.slots] at X26 l26 y26 z26 st26 hQ26
        subst l26 y26 z26
        obtain ⟨rfl, N26q, e26⟩ := hQ26
        have N26 := Fr.app N14 N26q
        have k27 : own_To p e below T26 (mkF m 161 #[.val (.long q0), .second, .val (.long q1), .second, .val (.int p2), .val (.long (q0 &&& (9223372036854775807 : Int64))), .second, .val (.long (q1 &&& (9223372036854775807 : Int64))), .second, .val (.long (own_min (q0 &&& (9223372036854775807 : Int64)) (q1 &&& (9223372036854775807 : Int64)))), .second, .val (.long (own_max (q0 &&& (9223372036854775807 : Int64)) (q1 &&& (9223372036854775807 : Int64)))), .second, .val (.long (((own_max (q0 &&& (9223372036854775807 : Int64)) (q1 &&& (9223372036854775807 : Int64))) - (own_min (q0 &&& (9223372036854775807 : Int64)) (q1 &&& (9223372036854775807 : Int64)))) + (1 : Int64))), .second, .val (.long (own_max (q0 &&& (9223372036854775807 : Int64)) (q1 &&& (9223372036854775807 : Int64)))), .second, .val (.int v8), .val (.int v12), .val (.int (own_MG (own_max (q0 &&& (9223372036854775807 : Int64)) (q1 &&& (9223372036854775807 : Int64))) (((own_max (q0 &&& (9223372036854775807 : Int64)) (q1 &&& (9223372036854775807 : Int64))) - (own_min (q0 &&& (9223372036854775807 : Int64)) (q1 &&& (9223372036854775807 : Int64)))) + (1 : Int64)) v8 v12)), .val (.int (own_DG (((own_max (q0 &&& (9223372036854775807 : Int64)) (q1 &&& (9223372036854775807 : Int64))) - (own_min (q0 &&& (9223372036854775807 : Int64)) (q1 &&& (9223372036854775807 : Int64)))) + (1 : Int64))))] [(.int (1 : Int32))]) s₁ (mkF m 0 #[.val (.long q0), .second, .val (.long q1), .second, .val (.int p2), .unset, .unset, .unset, .unset, .unset, .unset, .unset, .unset, .unset, .unset, .unset, .unset, .unset, .unset, .unset, .unset] []) := fun t q => k24 t (by
          refine XS.ifYes X14.here hx rfl (pc0 := 102) (pc' := 111) rfl (hb hby at_102) rfl ((if0 _ _).trans (teq hc25).1) (by decide) (by decide) ?_
          show Steps p.tables e below (T14.setTop (mkF m 111 #[.val (.long q0), .second, .val (.long q1), .second, .val (.int p2), .val (.long (q0 &&& (9223372036854775807 : Int64))), .second, .val (.long (q1 &&& (9223372036854775807 : Int64))), .second, .val (.long (own_min (q0 &&& (9223372036854775807 : Int64)) (q1 &&& (9223372036854775807 : Int64)))), .second, .val (.long (own_max (q0 &&& (9223372036854775807 : Int64)) (q1 &&& (9223372036854775807 : Int64)))), .second, .val (.long (((own_max (q0 &&& (9223372036854775807 : Int64)) (q1 &&& (9223372036854775807 : Int64))) - (own_min (q0 &&& (9223372036854775807 : Int64)) (q1 &&& (9223372036854775807 : Int64)))) + (1 : Int64))), .second, .val (.long (own_max (q0 &&& (9223372036854775807 : Int64)) (q1 &&& (9223372036854775807 : Int64)))), .second, .val (.int v8), .val (.int v12), .val (.int (own_MG (own_max (q0 &&& (9223372036854775807 : Int64)) (q1 &&& (9223372036854775807 : Int64))) (((own_max (q0 &&& (9223372036854775807 : Int64)) (q1 &&& (9223372036854775807 : Int64))) - (own_min (q0 &&& (9223372036854775807 : Int64)) (q1 &&& (9223372036854775807 : Int64)))) + (1 : Int64)) v8 v12)), .unset] [])) _
          refine XS.lload X14.here hx rfl (hb hby at_111) rfl ?_
          show Steps p.tables e below (T14.setTop (mkF m 113 #[.val (.long q0), .second, .val (.long q1), .second, .val (.int p2), .val (.long (q0 &&& (9223372036854775807 : Int64))), .second, .val (.long (q1 &&& (9223372036854775807 : Int64))), .second, .val (.long (own_min (q0 &&& (9223372036854775807 : Int64)) (q1 &&& (9223372036854775807 : Int64)))), .second, .val (.long (own_max (q0 &&& (9223372036854775807 : Int64)) (q1 &&& (9223372036854775807 : Int64)))), .second, .val (.long (((own_max (q0 &&& (9223372036854775807 : Int64)) (q1 &&& (9223372036854775807 : Int64))) - (own_min (q0 &&& (9223372036854775807 : Int64)) (q1 &&& (9223372036854775807 : Int64)))) + (1 : Int64))), .second, .val (.long (own_max (q0 &&& (9223372036854775807 : Int64)) (q1 &&& (9223372036854775807 : Int64)))), .second, .val (.int v8), .val (.int v12), .val (.int (own_MG (own_max (q0 &&& (9223372036854775807 : Int64)) (q1 &&& (9223372036854775807 : Int64))) (((own_max (q0 &&& (9223372036854775807 : Int64)) (q1 &&& (9223372036854775807 : Int64))) - (own_min (q0 &&& (9223372036854775807 : Int64)) (q1 &&& (9223372036854775807 : Int64)))) + (1 : Int64)) v8 v12)), .unset] [(.long (((own_max (q0 &&& (9223372036854775807 : Int64)) (q1 &&& (9223372036854775807 : Int64))) - (own_min (q0 &&& (9223372036854775807 : Int64)) (q1 &&& (9223372036854775807 : Int64)))) + (1 : Int64)))])) _
          refine st26 _ ?_
          show Steps p.tables e below (T26.setTop (mkF m 116 #[.val (.long q0), .second, .val (.long q1), .second, .val (.int p2), .val (.long (q0 &&& (9223372036854775807 : Int64))), .second, .val (.long (q1 &&& (9223372036854775807 : Int64))), .second, .val (.long (own_min (q0 &&& (9223372036854775807 : Int64)) (q1 &&& (9223372036854775807 : Int64)))), .second, .val (.long (own_max (q0 &&& (9223372036854775807 : Int64)) (q1 &&& (9223372036854775807 : Int64)))), .second, .val (.long (((own_max (q0 &&& (9223372036854775807 : Int64)) (q1 &&& (9223372036854775807 : Int64))) - (own_min (q0 &&& (9223372036854775807 : Int64)) (q1 &&& (9223372036854775807 : Int64)))) + (1 : Int64))), .second, .val (.long (own_max (q0 &&& (9223372036854775807 : Int64)) (q1 &&& (9223372036854775807 : Int64)))), .second, .val (.int v8), .val (.int v12), .val (.int (own_MG (own_max (q0 &&& (9223372036854775807 : Int64)) (q1 &&& (9223372036854775807 : Int64))) (((own_max (q0 &&& (9223372036854775807 : Int64)) (q1 &&& (9223372036854775807 : Int64))) - (own_min (q0 &&& (9223372036854775807 : Int64)) (q1 &&& (9223372036854775807 : Int64)))) + (1 : Int64)) v8 v12)), .unset] [(.int (own_DG (((own_max (q0 &&& (9223372036854775807 : Int64)) (q1 &&& (9223372036854775807 : Int64))) - (own_min (q0 &&& (9223372036854775807 : Int64)) (q1 &&& (9223372036854775807 : Int64)))) + (1 : Int64))))])) _
          refine XS.istore X26.here hx rfl (hb hby at_116) rfl (l' := #[.val (.long q0), .second, .val (.long q1), .second, .val (.int p2), .val (.long (q0 &&& (9223372036854775807 : Int64))), .second, .val (.long (q1 &&& (9223372036854775807 : Int64))), .second, .val (.long (own_min (q0 &&& (9223372036854775807 : Int64)) (q1 &&& (9223372036854775807 : Int64)))), .second, .val (.long (own_max (q0 &&& (9223372036854775807 : Int64)) (q1 &&& (9223372036854775807 : Int64)))), .second, .val (.long (((own_max (q0 &&& (9223372036854775807 : Int64)) (q1 &&& (9223372036854775807 : Int64))) - (own_min (q0 &&& (9223372036854775807 : Int64)) (q1 &&& (9223372036854775807 : Int64)))) + (1 : Int64))), .second, .val (.long (own_max (q0 &&& (9223372036854775807 : Int64)) (q1 &&& (9223372036854775807 : Int64)))), .second, .val (.int v8), .val (.int v12), .val (.int (own_MG (own_max (q0 &&& (9223372036854775807 : Int64)) (q1 &&& (9223372036854775807 : Int64))) (((own_max (q0 &&& (9223372036854775807 : Int64)) (q1 &&& (9223372036854775807 : Int64))) - (own_min (q0 &&& (9223372036854775807 : Int64)) (q1 &&& (9223372036854775807 : Int64)))) + (1 : Int64)) v8 v12)), .val (.int (own_DG (((own_max (q0 &&& (9223372036854775807 : Int64)) (q1 &&& (9223372036854775807 : Int64))) - (own_min (q0 &&& (9223372036854775807 : Int64)) (q1 &&& (9223372036854775807 : Int64)))) + (1 : Int64))))]) rfl ?_
          show Steps p.tables e below (T26.setTop (mkF m 118 #[.val (.long q0), .second, .val (.long q1), .second, .val (.int p2), .val (.long (q0 &&& (9223372036854775807 : Int64))), .second, .val (.long (q1 &&& (9223372036854775807 : Int64))), .second, .val (.long (own_min (q0 &&& (9223372036854775807 : Int64)) (q1 &&& (9223372036854775807 : Int64)))), .second, .val (.long (own_max (q0 &&& (9223372036854775807 : Int64)) (q1 &&& (9223372036854775807 : Int64)))), .second, .val (.long (((own_max (q0 &&& (9223372036854775807 : Int64)) (q1 &&& (9223372036854775807 : Int64))) - (own_min (q0 &&& (9223372036854775807 : Int64)) (q1 &&& (9223372036854775807 : Int64)))) + (1 : Int64))), .second, .val (.long (own_max (q0 &&& (9223372036854775807 : Int64)) (q1 &&& (9223372036854775807 : Int64)))), .second, .val (.int v8), .val (.int v12), .val (.int (own_MG (own_max (q0 &&& (9223372036854775807 : Int64)) (q1 &&& (9223372036854775807 : Int64))) (((own_max (q0 &&& (9223372036854775807 : Int64)) (q1 &&& (9223372036854775807 : Int64))) - (own_min (q0 &&& (9223372036854775807 : Int64)) (q1 &&& (9223372036854775807 : Int64)))) + (1 : Int64)) v8 v12)), .val (.int (own_DG (((own_max (q0 &&& (9223372036854775807 : Int64)) (q1 &&& (9223372036854775807 : Int64))) - (own_min (q0 &&& (9223372036854775807 : Int64)) (q1 &&& (9223372036854775807 : Int64)))) + (1 : Int64))))] [])) _
          refine XS.goto X26.here hx rfl (pc0 := 118) (pc' := 149) rfl (hb hby at_118) (by decide) (by decide) ?_
          show Steps p.tables e below (T26.setTop (mkF m 149 #[.val (.long q0), .second, .val (.long q1), .second, .val (.int p2), .val (.long (q0 &&& (9223372036854775807 : Int64))), .second, .val (.long (q1 &&& (9223372036854775807 : Int64))), .second, .val (.long (own_min (q0 &&& (9223372036854775807 : Int64)) (q1 &&& (9223372036854775807 : Int64)))), .second, .val (.long (own_max (q0 &&& (9223372036854775807 : Int64)) (q1 &&& (9223372036854775807 : Int64)))), .second, .val (.long (((own_max (q0 &&& (9223372036854775807 : Int64)) (q1 &&& (9223372036854775807 : Int64))) - (own_min (q0 &&& (9223372036854775807 : Int64)) (q1 &&& (9223372036854775807 : Int64)))) + (1 : Int64))), .second, .val (.long (own_max (q0 &&& (9223372036854775807 : Int64)) (q1 &&& (9223372036854775807 : Int64)))), .second, .val (.int v8), .val (.int v12), .val (.int (own_MG (own_max (q0 &&& (9223372036854775807 : Int64)) (q1 &&& (9223372036854775807 : Int64))) (((own_max (q0 &&& (9223372036854775807 : Int64)) (q1 &&& (9223372036854775807 : Int64))) - (own_min (q0 &&& (9223372036854775807 : Int64)) (q1 &&& (9223372036854775807 : Int64)))) + (1 : Int64)) v8 v12)), .val (.int (own_DG (((own_max (q0 &&& (9223372036854775807 : Int64)) (q1 &&& (9223372036854775807 : Int64))) - (own_min (q0 &&& (9223372036854775807 : Int64)) (q1 &&& (9223372036854775807 : Int64)))) + (1 : Int64))))] [])) _
          refine XS.iload X26.here hx rfl (hb hby at_149) rfl ?_
          show Steps p.tables e below (T26.setTop (mkF m 151 #[.val (.long q0), .second, .val (.long q1), .second, .val (.int p2), .val (.long (q0 &&& (9223372036854775807 : Int64))), .second, .val (.long (q1 &&& (9223372036854775807 : Int64))), .second, .val (.long (own_min (q0 &&& (9223372036854775807 : Int64)) (q1 &&& (9223372036854775807 : Int64)))), .second, .val (.long (own_max (q0 &&& (9223372036854775807 : Int64)) (q1 &&& (9223372036854775807 : Int64)))), .second, .val (.long (((own_max (q0 &&& (9223372036854775807 : Int64)) (q1 &&& (9223372036854775807 : Int64))) - (own_min (q0 &&& (9223372036854775807 : Int64)) (q1 &&& (9223372036854775807 : Int64)))) + (1 : Int64))), .second, .val (.long (own_max (q0 &&& (9223372036854775807 : Int64)) (q1 &&& (9223372036854775807 : Int64)))), .second, .val (.int v8), .val (.int v12), .val (.int (own_MG (own_max (q0 &&& (9223372036854775807 : Int64)) (q1 &&& (9223372036854775807 : Int64))) (((own_max (q0 &&& (9223372036854775807 : Int64)) (q1 &&& (9223372036854775807 : Int64))) - (own_min (q0 &&& (9223372036854775807 : Int64)) (q1 &&& (9223372036854775807 : Int64)))) + (1 : Int64)) v8 v12)), .val (.int (own_DG (((own_max (q0 &&& (9223372036854775807 : Int64)) (q1 &&& (9223372036854775807 : Int64))) - (own_min (q0 &&& (9223372036854775807 : Int64)) (q1 &&& (9223372036854775807 : Int64)))) + (1 : Int64))))] [(.int (own_MG (own_max (q0 &&& (9223372036854775807 : Int64)) (q1 &&& (9223372036854775807 : Int64))) (((own_max (q0 &&& (9223372036854775807 : Int64)) (q1 &&& (9223372036854775807 : Int64))) - (own_min (q0 &&& (9223372036854775807 : Int64)) (q1 &&& (9223372036854775807 : Int64)))) + (1 : Int64)) v8 v12))])) _
          refine XS.iload X26.here hx rfl (hb hby at_151) rfl ?_
          show Steps p.tables e below (T26.setTop (mkF m 153 #[.val (.long q0), .second, .val (.long q1), .second, .val (.int p2), .val (.long (q0 &&& (9223372036854775807 : Int64))), .second, .val (.long (q1 &&& (9223372036854775807 : Int64))), .second, .val (.long (own_min (q0 &&& (9223372036854775807 : Int64)) (q1 &&& (9223372036854775807 : Int64)))), .second, .val (.long (own_max (q0 &&& (9223372036854775807 : Int64)) (q1 &&& (9223372036854775807 : Int64)))), .second, .val (.long (((own_max (q0 &&& (9223372036854775807 : Int64)) (q1 &&& (9223372036854775807 : Int64))) - (own_min (q0 &&& (9223372036854775807 : Int64)) (q1 &&& (9223372036854775807 : Int64)))) + (1 : Int64))), .second, .val (.long (own_max (q0 &&& (9223372036854775807 : Int64)) (q1 &&& (9223372036854775807 : Int64)))), .second, .val (.int v8), .val (.int v12), .val (.int (own_MG (own_max (q0 &&& (9223372036854775807 : Int64)) (q1 &&& (9223372036854775807 : Int64))) (((own_max (q0 &&& (9223372036854775807 : Int64)) (q1 &&& (9223372036854775807 : Int64))) - (own_min (q0 &&& (9223372036854775807 : Int64)) (q1 &&& (9223372036854775807 : Int64)))) + (1 : Int64)) v8 v12)), .val (.int (own_DG (((own_max (q0 &&& (9223372036854775807 : Int64)) (q1 &&& (9223372036854775807 : Int64))) - (own_min (q0 &&& (9223372036854775807 : Int64)) (q1 &&& (9223372036854775807 : Int64)))) + (1 : Int64))))] [(.int (own_DG (((own_max (q0 &&& (9223372036854775807 : Int64)) (q1 &&& (9223372036854775807 : Int64))) - (own_min (q0 &&& (9223372036854775807 : Int64)) (q1 &&& (9223372036854775807 : Int64)))) + (1 : Int64)))), (.int (own_MG (own_max (q0 &&& (9223372036854775807 : Int64)) (q1 &&& (9223372036854775807 : Int64))) (((own_max (q0 &&& (9223372036854775807 : Int64)) (q1 &&& (9223372036854775807 : Int64))) - (own_min (q0 &&& (9223372036854775807 : Int64)) (q1 &&& (9223372036854775807 : Int64)))) + (1 : Int64)) v8 v12))])) _
          refine XS.icmpNo X26.here hx rfl (hb hby at_153) rfl (teq (by rw [own_MG]; simp only [hc16, hc25, if_true, if_false]; first | done | rfl | (rw [eabo, own_len _ m1, own_len _ hlen]) | (rw [own_len _ hlen]))).2 ?_
          show Steps p.tables e below (T26.setTop (mkF m 156 #[.val (.long q0), .second, .val (.long q1), .second, .val (.int p2), .val (.long (q0 &&& (9223372036854775807 : Int64))), .second, .val (.long (q1 &&& (9223372036854775807 : Int64))), .second, .val (.long (own_min (q0 &&& (9223372036854775807 : Int64)) (q1 &&& (9223372036854775807 : Int64)))), .second, .val (.long (own_max (q0 &&& (9223372036854775807 : Int64)) (q1 &&& (9223372036854775807 : Int64)))), .second, .val (.long (((own_max (q0 &&& (9223372036854775807 : Int64)) (q1 &&& (9223372036854775807 : Int64))) - (own_min (q0 &&& (9223372036854775807 : Int64)) (q1 &&& (9223372036854775807 : Int64)))) + (1 : Int64))), .second, .val (.long (own_max (q0 &&& (9223372036854775807 : Int64)) (q1 &&& (9223372036854775807 : Int64)))), .second, .val (.int v8), .val (.int v12), .val (.int (own_MG (own_max (q0 &&& (9223372036854775807 : Int64)) (q1 &&& (9223372036854775807 : Int64))) (((own_max (q0 &&& (9223372036854775807 : Int64)) (q1 &&& (9223372036854775807 : Int64))) - (own_min (q0 &&& (9223372036854775807 : Int64)) (q1 &&& (9223372036854775807 : Int64)))) + (1 : Int64)) v8 v12)), .val (.int (own_DG (((own_max (q0 &&& (9223372036854775807 : Int64)) (q1 &&& (9223372036854775807 : Int64))) - (own_min (q0 &&& (9223372036854775807 : Int64)) (q1 &&& (9223372036854775807 : Int64)))) + (1 : Int64))))] [])) _
          refine XS.iconst X26.here hx rfl (hb hby at_156) ?_
          show Steps p.tables e below (T26.setTop (mkF m 157 #[.val (.long q0), .second, .val (.long q1), .second, .val (.int p2), .val (.long (q0 &&& (9223372036854775807 : Int64))), .second, .val (.long (q1 &&& (9223372036854775807 : Int64))), .second, .val (.long (own_min (q0 &&& (9223372036854775807 : Int64)) (q1 &&& (9223372036854775807 : Int64)))), .second, .val (.long (own_max (q0 &&& (9223372036854775807 : Int64)) (q1 &&& (9223372036854775807 : Int64)))), .second, .val (.long (((own_max (q0 &&& (9223372036854775807 : Int64)) (q1 &&& (9223372036854775807 : Int64))) - (own_min (q0 &&& (9223372036854775807 : Int64)) (q1 &&& (9223372036854775807 : Int64)))) + (1 : Int64))), .second, .val (.long (own_max (q0 &&& (9223372036854775807 : Int64)) (q1 &&& (9223372036854775807 : Int64)))), .second, .val (.int v8), .val (.int v12), .val (.int (own_MG (own_max (q0 &&& (9223372036854775807 : Int64)) (q1 &&& (9223372036854775807 : Int64))) (((own_max (q0 &&& (9223372036854775807 : Int64)) (q1 &&& (9223372036854775807 : Int64))) - (own_min (q0 &&& (9223372036854775807 : Int64)) (q1 &&& (9223372036854775807 : Int64)))) + (1 : Int64)) v8 v12)), .val (.int (own_DG (((own_max (q0 &&& (9223372036854775807 : Int64)) (q1 &&& (9223372036854775807 : Int64))) - (own_min (q0 &&& (9223372036854775807 : Int64)) (q1 &&& (9223372036854775807 : Int64)))) + (1 : Int64))))] [(.int (1 : Int32))])) _
          refine XS.goto X26.here hx rfl (pc0 := 157) (pc' := 161) rfl (hb hby at_157) (by decide) (by decide) ?_
          show Steps p.tables e below (T26.setTop (mkF m 161 #[.val (.long q0), .second, .val (.long q1), .second, .val (.int p2), .val (.long (q0 &&& (9223372036854775807 : Int64))), .second, .val (.long (q1 &&& (9223372036854775807 : Int64))), .second, .val (.long (own_min (q0 &&& (9223372036854775807 : Int64)) (q1 &&& (9223372036854775807 : Int64)))), .second, .val (.long (own_max (q0 &&& (9223372036854775807 : Int64)) (q1 &&& (9223372036854775807 : Int64)))), .second, .val (.long (((own_max (q0 &&& (9223372036854775807 : Int64)) (q1 &&& (9223372036854775807 : Int64))) - (own_min (q0 &&& (9223372036854775807 : Int64)) (q1 &&& (9223372036854775807 : Int64)))) + (1 : Int64))), .second, .val (.long (own_max (q0 &&& (9223372036854775807 : Int64)) (q1 &&& (9223372036854775807 : Int64)))), .second, .val (.int v8), .val (.int v12), .val (.int (own_MG (own_max (q0 &&& (9223372036854775807 : Int64)) (q1 &&& (9223372036854775807 : Int64))) (((own_max (q0 &&& (9223372036854775807 : Int64)) (q1 &&& (9223372036854775807 : Int64))) - (own_min (q0 &&& (9223372036854775807 : Int64)) (q1 &&& (9223372036854775807 : Int64)))) + (1 : Int64)) v8 v12)), .val (.int (own_DG (((own_max (q0 &&& (9223372036854775807 : Int64)) (q1 &&& (9223372036854775807 : Int64))) - (own_min (q0 &&& (9223372036854775807 : Int64)) (q1 &&& (9223372036854775807 : Int64)))) + (1 : Int64))))] [(.int (1 : Int32))])) _
          exact q)
        obtain ⟨fs, hr, hrun, hended, hW, hsame⟩ := X26.leave (v := some (.int (1 : Int32))) (fun h => by rw [Bd.returns] at h; cases h)
        refine ⟨_, _, k0 _ (k27 _ ?_), hrun, hended, _, _, rfl, ?_, ⟨_, rfl⟩, hW, hsame.mono (by decide) (by decide)⟩
        · show Steps p.tables e below (T26.setTop (mkF m 161 #[.val (.long q0), .second, .val (.long q1), .second, .val (.int p2), .val (.long (q0 &&& (9223372036854775807 : Int64))), .second, .val (.long (q1 &&& (9223372036854775807 : Int64))), .second, .val (.long (own_min (q0 &&& (9223372036854775807 : Int64)) (q1 &&& (9223372036854775807 : Int64)))), .second, .val (.long (own_max (q0 &&& (9223372036854775807 : Int64)) (q1 &&& (9223372036854775807 : Int64)))), .second, .val (.long (((own_max (q0 &&& (9223372036854775807 : Int64)) (q1 &&& (9223372036854775807 : Int64))) - (own_min (q0 &&& (9223372036854775807 : Int64)) (q1 &&& (9223372036854775807 : Int64)))) + (1 : Int64))), .second, .val (.long (own_max (q0 &&& (9223372036854775807 : Int64)) (q1 &&& (9223372036854775807 : Int64)))), .second, .val (.int v8), .val (.int v12), .val (.int (own_MG (own_max (q0 &&& (9223372036854775807 : Int64)) (q1 &&& (9223372036854775807 : Int64))) (((own_max (q0 &&& (9223372036854775807 : Int64)) (q1 &&& (9223372036854775807 : Int64))) - (own_min (q0 &&& (9223372036854775807 : Int64)) (q1 &&& (9223372036854775807 : Int64)))) + (1 : Int64)) v8 v12)), .val (.int (own_DG (((own_max (q0 &&& (9223372036854775807 : Int64)) (q1 &&& (9223372036854775807 : Int64))) - (own_min (q0 &&& (9223372036854775807 : Int64)) (q1 &&& (9223372036854775807 : Int64)))) + (1 : Int64))))] [(.int (1 : Int32))])) _
          exact retN X26 hx (t := .boolean) Bd.returns (by simp) (hb hby at_161) hr
        · show Q0 Z q0 q1 p2 h0 n0 _ T26.heap _
          rw [e26]
          exact ⟨rfl, N26⟩
      ·
        have k28 : own_To p e below T14 (mkF m 161 #[.val (.long q0), .second, .val (.long q1), .second, .val (.int p2), .val (.long (q0 &&& (9223372036854775807 : Int64))), .second, .val (.long (q1 &&& (9223372036854775807 : Int64))), .second, .val (.long (own_min (q0 &&& (9223372036854775807 : Int64)) (q1 &&& (9223372036854775807 : Int64)))), .second, .val (.long (own_max (q0 &&& (9223372036854775807 : Int64)) (q1 &&& (9223372036854775807 : Int64)))), .second, .val (.long (((own_max (q0 &&& (9223372036854775807 : Int64)) (q1 &&& (9223372036854775807 : Int64))) - (own_min (q0 &&& (9223372036854775807 : Int64)) (q1 &&& (9223372036854775807 : Int64)))) + (1 : Int64))), .second, .val (.long (own_max (q0 &&& (9223372036854775807 : Int64)) (q1 &&& (9223372036854775807 : Int64)))), .second, .val (.int v8), .val (.int v12), .val (.int (own_MG (own_max (q0 &&& (9223372036854775807 : Int64)) (q1 &&& (9223372036854775807 : Int64))) (((own_max (q0 &&& (9223372036854775807 : Int64)) (q1 &&& (9223372036854775807 : Int64))) - (own_min (q0 &&& (9223372036854775807 : Int64)) (q1 &&& (9223372036854775807 : Int64)))) + (1 : Int64)) v8 v12)), .val (.int (0 : Int32))] [(.int (1 : Int32))]) s₁ (mkF m 0 #[.val (.long q0), .second, .val (.long q1), .second, .val (.int p2), .unset, .unset, .unset, .unset, .unset, .unset, .unset, .unset, .unset, .unset, .unset, .unset, .unset, .unset, .unset, .unset] []) := fun t q => k24 t (by
          refine XS.ifNo X14.here hx rfl (hb hby at_102) rfl ((if0 _ _).trans (feq hc25).1) ?_
          show Steps p.tables e below (T14.setTop (mkF m 105 #[.val (.long q0), .second, .val (.long q1), .second, .val (.int p2), .val (.long (q0 &&& (9223372036854775807 : Int64))), .second, .val (.long (q1 &&& (9223372036854775807 : Int64))), .second, .val (.long (own_min (q0 &&& (9223372036854775807 : Int64)) (q1 &&& (9223372036854775807 : Int64)))), .second, .val (.long (own_max (q0 &&& (9223372036854775807 : Int64)) (q1 &&& (9223372036854775807 : Int64)))), .second, .val (.long (((own_max (q0 &&& (9223372036854775807 : Int64)) (q1 &&& (9223372036854775807 : Int64))) - (own_min (q0 &&& (9223372036854775807 : Int64)) (q1 &&& (9223372036854775807 : Int64)))) + (1 : Int64))), .second, .val (.long (own_max (q0 &&& (9223372036854775807 : Int64)) (q1 &&& (9223372036854775807 : Int64)))), .second, .val (.int v8), .val (.int v12), .val (.int (own_MG (own_max (q0 &&& (9223372036854775807 : Int64)) (q1 &&& (9223372036854775807 : Int64))) (((own_max (q0 &&& (9223372036854775807 : Int64)) (q1 &&& (9223372036854775807 : Int64))) - (own_min (q0 &&& (9223372036854775807 : Int64)) (q1 &&& (9223372036854775807 : Int64)))) + (1 : Int64)) v8 v12)), .unset] [])) _
          refine XS.iconst X14.here hx rfl (hb hby at_105) ?_
          show Steps p.tables e below (T14.setTop (mkF m 106 #[.val (.long q0), .second, .val (.long q1), .second, .val (.int p2), .val (.long (q0 &&& (9223372036854775807 : Int64))), .second, .val (.long (q1 &&& (9223372036854775807 : Int64))), .second, .val (.long (own_min (q0 &&& (9223372036854775807 : Int64)) (q1 &&& (9223372036854775807 : Int64)))), .second, .val (.long (own_max (q0 &&& (9223372036854775807 : Int64)) (q1 &&& (9223372036854775807 : Int64)))), .second, .val (.long (((own_max (q0 &&& (9223372036854775807 : Int64)) (q1 &&& (9223372036854775807 : Int64))) - (own_min (q0 &&& (9223372036854775807 : Int64)) (q1 &&& (9223372036854775807 : Int64)))) + (1 : Int64))), .second, .val (.long (own_max (q0 &&& (9223372036854775807 : Int64)) (q1 &&& (9223372036854775807 : Int64)))), .second, .val (.int v8), .val (.int v12), .val (.int (own_MG (own_max (q0 &&& (9223372036854775807 : Int64)) (q1 &&& (9223372036854775807 : Int64))) (((own_max (q0 &&& (9223372036854775807 : Int64)) (q1 &&& (9223372036854775807 : Int64))) - (own_min (q0 &&& (9223372036854775807 : Int64)) (q1 &&& (9223372036854775807 : Int64)))) + (1 : Int64)) v8 v12)), .unset] [(.int (0 : Int32))])) _
          refine XS.istore X14.here hx rfl (hb hby at_106) rfl (l' := #[.val (.long q0), .second, .val (.long q1), .second, .val (.int p2), .val (.long (q0 &&& (9223372036854775807 : Int64))), .second, .val (.long (q1 &&& (9223372036854775807 : Int64))), .second, .val (.long (own_min (q0 &&& (9223372036854775807 : Int64)) (q1 &&& (9223372036854775807 : Int64)))), .second, .val (.long (own_max (q0 &&& (9223372036854775807 : Int64)) (q1 &&& (9223372036854775807 : Int64)))), .second, .val (.long (((own_max (q0 &&& (9223372036854775807 : Int64)) (q1 &&& (9223372036854775807 : Int64))) - (own_min (q0 &&& (9223372036854775807 : Int64)) (q1 &&& (9223372036854775807 : Int64)))) + (1 : Int64))), .second, .val (.long (own_max (q0 &&& (9223372036854775807 : Int64)) (q1 &&& (9223372036854775807 : Int64)))), .second, .val (.int v8), .val (.int v12), .val (.int (own_MG (own_max (q0 &&& (9223372036854775807 : Int64)) (q1 &&& (9223372036854775807 : Int64))) (((own_max (q0 &&& (9223372036854775807 : Int64)) (q1 &&& (9223372036854775807 : Int64))) - (own_min (q0 &&& (9223372036854775807 : Int64)) (q1 &&& (9223372036854775807 : Int64)))) + (1 : Int64)) v8 v12)), .val (.int (0 : Int32))]) rfl ?_
          show Steps p.tables e below (T14.setTop (mkF m 108 #[.val (.long q0), .second, .val (.long q1), .second, .val (.int p2), .val (.long (q0 &&& (9223372036854775807 : Int64))), .second, .val (.long (q1 &&& (9223372036854775807 : Int64))), .second, .val (.long (own_min (q0 &&& (9223372036854775807 : Int64)) (q1 &&& (9223372036854775807 : Int64)))), .second, .val (.long (own_max (q0 &&& (9223372036854775807 : Int64)) (q1 &&& (9223372036854775807 : Int64)))), .second, .val (.long (((own_max (q0 &&& (9223372036854775807 : Int64)) (q1 &&& (9223372036854775807 : Int64))) - (own_min (q0 &&& (9223372036854775807 : Int64)) (q1 &&& (9223372036854775807 : Int64)))) + (1 : Int64))), .second, .val (.long (own_max (q0 &&& (9223372036854775807 : Int64)) (q1 &&& (9223372036854775807 : Int64)))), .second, .val (.int v8), .val (.int v12), .val (.int (own_MG (own_max (q0 &&& (9223372036854775807 : Int64)) (q1 &&& (9223372036854775807 : Int64))) (((own_max (q0 &&& (9223372036854775807 : Int64)) (q1 &&& (9223372036854775807 : Int64))) - (own_min (q0 &&& (9223372036854775807 : Int64)) (q1 &&& (9223372036854775807 : Int64)))) + (1 : Int64)) v8 v12)), .val (.int (0 : Int32))] [])) _
          refine XS.goto X14.here hx rfl (pc0 := 108) (pc' := 149) rfl (hb hby at_108) (by decide) (by decide) ?_
          show Steps p.tables e below (T14.setTop (mkF m 149 #[.val (.long q0), .second, .val (.long q1), .second, .val (.int p2), .val (.long (q0 &&& (9223372036854775807 : Int64))), .second, .val (.long (q1 &&& (9223372036854775807 : Int64))), .second, .val (.long (own_min (q0 &&& (9223372036854775807 : Int64)) (q1 &&& (9223372036854775807 : Int64)))), .second, .val (.long (own_max (q0 &&& (9223372036854775807 : Int64)) (q1 &&& (9223372036854775807 : Int64)))), .second, .val (.long (((own_max (q0 &&& (9223372036854775807 : Int64)) (q1 &&& (9223372036854775807 : Int64))) - (own_min (q0 &&& (9223372036854775807 : Int64)) (q1 &&& (9223372036854775807 : Int64)))) + (1 : Int64))), .second, .val (.long (own_max (q0 &&& (9223372036854775807 : Int64)) (q1 &&& (9223372036854775807 : Int64)))), .second, .val (.int v8), .val (.int v12), .val (.int (own_MG (own_max (q0 &&& (9223372036854775807 : Int64)) (q1 &&& (9223372036854775807 : Int64))) (((own_max (q0 &&& (9223372036854775807 : Int64)) (q1 &&& (9223372036854775807 : Int64))) - (own_min (q0 &&& (9223372036854775807 : Int64)) (q1 &&& (9223372036854775807 : Int64)))) + (1 : Int64)) v8 v12)), .val (.int (0 : Int32))] [])) _
          refine XS.iload X14.here hx rfl (hb hby at_149) rfl ?_
          show Steps p.tables e below (T14.setTop (mkF m 151 #[.val (.long q0), .second, .val (.long q1), .second, .val (.int p2), .val (.long (q0 &&& (9223372036854775807 : Int64))), .second, .val (.long (q1 &&& (9223372036854775807 : Int64))), .second, .val (.long (own_min (q0 &&& (9223372036854775807 : Int64)) (q1 &&& (9223372036854775807 : Int64)))), .second, .val (.long (own_max (q0 &&& (9223372036854775807 : Int64)) (q1 &&& (9223372036854775807 : Int64)))), .second, .val (.long (((own_max (q0 &&& (9223372036854775807 : Int64)) (q1 &&& (9223372036854775807 : Int64))) - (own_min (q0 &&& (9223372036854775807 : Int64)) (q1 &&& (9223372036854775807 : Int64)))) + (1 : Int64))), .second, .val (.long (own_max (q0 &&& (9223372036854775807 : Int64)) (q1 &&& (9223372036854775807 : Int64)))), .second, .val (.int v8), .val (.int v12), .val (.int (own_MG (own_max (q0 &&& (9223372036854775807 : Int64)) (q1 &&& (9223372036854775807 : Int64))) (((own_max (q0 &&& (9223372036854775807 : Int64)) (q1 &&& (9223372036854775807 : Int64))) - (own_min (q0 &&& (9223372036854775807 : Int64)) (q1 &&& (9223372036854775807 : Int64)))) + (1 : Int64)) v8 v12)), .val (.int (0 : Int32))] [(.int (own_MG (own_max (q0 &&& (9223372036854775807 : Int64)) (q1 &&& (9223372036854775807 : Int64))) (((own_max (q0 &&& (9223372036854775807 : Int64)) (q1 &&& (9223372036854775807 : Int64))) - (own_min (q0 &&& (9223372036854775807 : Int64)) (q1 &&& (9223372036854775807 : Int64)))) + (1 : Int64)) v8 v12))])) _
          refine XS.iload X14.here hx rfl (hb hby at_151) rfl ?_
          show Steps p.tables e below (T14.setTop (mkF m 153 #[.val (.long q0), .second, .val (.long q1), .second, .val (.int p2), .val (.long (q0 &&& (9223372036854775807 : Int64))), .second, .val (.long (q1 &&& (9223372036854775807 : Int64))), .second, .val (.long (own_min (q0 &&& (9223372036854775807 : Int64)) (q1 &&& (9223372036854775807 : Int64)))), .second, .val (.long (own_max (q0 &&& (9223372036854775807 : Int64)) (q1 &&& (9223372036854775807 : Int64)))), .second, .val (.long (((own_max (q0 &&& (9223372036854775807 : Int64)) (q1 &&& (9223372036854775807 : Int64))) - (own_min (q0 &&& (9223372036854775807 : Int64)) (q1 &&& (9223372036854775807 : Int64)))) + (1 : Int64))), .second, .val (.long (own_max (q0 &&& (9223372036854775807 : Int64)) (q1 &&& (9223372036854775807 : Int64)))), .second, .val (.int v8), .val (.int v12), .val (.int (own_MG (own_max (q0 &&& (9223372036854775807 : Int64)) (q1 &&& (9223372036854775807 : Int64))) (((own_max (q0 &&& (9223372036854775807 : Int64)) (q1 &&& (9223372036854775807 : Int64))) - (own_min (q0 &&& (9223372036854775807 : Int64)) (q1 &&& (9223372036854775807 : Int64)))) + (1 : Int64)) v8 v12)), .val (.int (0 : Int32))] [(.int (0 : Int32)), (.int (own_MG (own_max (q0 &&& (9223372036854775807 : Int64)) (q1 &&& (9223372036854775807 : Int64))) (((own_max (q0 &&& (9223372036854775807 : Int64)) (q1 &&& (9223372036854775807 : Int64))) - (own_min (q0 &&& (9223372036854775807 : Int64)) (q1 &&& (9223372036854775807 : Int64)))) + (1 : Int64)) v8 v12))])) _
          refine XS.icmpNo X14.here hx rfl (hb hby at_153) rfl (teq (by rw [own_MG]; simp only [hc16, hc25, if_true, if_false]; first | done | rfl | (rw [eabo, own_len _ m1, own_len _ hlen]) | (rw [own_len _ hlen]))).2 ?_
          show Steps p.tables e below (T14.setTop (mkF m 156 #[.val (.long q0), .second, .val (.long q1), .second, .val (.int p2), .val (.long (q0 &&& (9223372036854775807 : Int64))), .second, .val (.long (q1 &&& (9223372036854775807 : Int64))), .second, .val (.long (own_min (q0 &&& (9223372036854775807 : Int64)) (q1 &&& (9223372036854775807 : Int64)))), .second, .val (.long (own_max (q0 &&& (9223372036854775807 : Int64)) (q1 &&& (9223372036854775807 : Int64)))), .second, .val (.long (((own_max (q0 &&& (9223372036854775807 : Int64)) (q1 &&& (9223372036854775807 : Int64))) - (own_min (q0 &&& (9223372036854775807 : Int64)) (q1 &&& (9223372036854775807 : Int64)))) + (1 : Int64))), .second, .val (.long (own_max (q0 &&& (9223372036854775807 : Int64)) (q1 &&& (9223372036854775807 : Int64)))), .second, .val (.int v8), .val (.int v12), .val (.int (own_MG (own_max (q0 &&& (9223372036854775807 : Int64)) (q1 &&& (9223372036854775807 : Int64))) (((own_max (q0 &&& (9223372036854775807 : Int64)) (q1 &&& (9223372036854775807 : Int64))) - (own_min (q0 &&& (9223372036854775807 : Int64)) (q1 &&& (9223372036854775807 : Int64)))) + (1 : Int64)) v8 v12)), .val (.int (0 : Int32))] [])) _
          refine XS.iconst X14.here hx rfl (hb hby at_156) ?_
          show Steps p.tables e below (T14.setTop (mkF m 157 #[.val (.long q0), .second, .val (.long q1), .second, .val (.int p2), .val (.long (q0 &&& (9223372036854775807 : Int64))), .second, .val (.long (q1 &&& (9223372036854775807 : Int64))), .second, .val (.long (own_min (q0 &&& (9223372036854775807 : Int64)) (q1 &&& (9223372036854775807 : Int64)))), .second, .val (.long (own_max (q0 &&& (9223372036854775807 : Int64)) (q1 &&& (9223372036854775807 : Int64)))), .second, .val (.long (((own_max (q0 &&& (9223372036854775807 : Int64)) (q1 &&& (9223372036854775807 : Int64))) - (own_min (q0 &&& (9223372036854775807 : Int64)) (q1 &&& (9223372036854775807 : Int64)))) + (1 : Int64))), .second, .val (.long (own_max (q0 &&& (9223372036854775807 : Int64)) (q1 &&& (9223372036854775807 : Int64)))), .second, .val (.int v8), .val (.int v12), .val (.int (own_MG (own_max (q0 &&& (9223372036854775807 : Int64)) (q1 &&& (9223372036854775807 : Int64))) (((own_max (q0 &&& (9223372036854775807 : Int64)) (q1 &&& (9223372036854775807 : Int64))) - (own_min (q0 &&& (9223372036854775807 : Int64)) (q1 &&& (9223372036854775807 : Int64)))) + (1 : Int64)) v8 v12)), .val (.int (0 : Int32))] [(.int (1 : Int32))])) _
          refine XS.goto X14.here hx rfl (pc0 := 157) (pc' := 161) rfl (hb hby at_157) (by decide) (by decide) ?_
          show Steps p.tables e below (T14.setTop (mkF m 161 #[.val (.long q0), .second, .val (.long q1), .second, .val (.int p2), .val (.long (q0 &&& (9223372036854775807 : Int64))), .second, .val (.long (q1 &&& (9223372036854775807 : Int64))), .second, .val (.long (own_min (q0 &&& (9223372036854775807 : Int64)) (q1 &&& (9223372036854775807 : Int64)))), .second, .val (.long (own_max (q0 &&& (9223372036854775807 : Int64)) (q1 &&& (9223372036854775807 : Int64)))), .second, .val (.long (((own_max (q0 &&& (9223372036854775807 : Int64)) (q1 &&& (9223372036854775807 : Int64))) - (own_min (q0 &&& (9223372036854775807 : Int64)) (q1 &&& (9223372036854775807 : Int64)))) + (1 : Int64))), .second, .val (.long (own_max (q0 &&& (9223372036854775807 : Int64)) (q1 &&& (9223372036854775807 : Int64)))), .second, .val (.int v8), .val (.int v12), .val (.int (own_MG (own_max (q0 &&& (9223372036854775807 : Int64)) (q1 &&& (9223372036854775807 : Int64))) (((own_max (q0 &&& (9223372036854775807 : Int64)) (q1 &&& (9223372036854775807 : Int64))) - (own_min (q0 &&& (9223372036854775807 : Int64)) (q1 &&& (9223372036854775807 : Int64)))) + (1 : Int64)) v8 v12)), .val (.int (0 : Int32))] [(.int (1 : Int32))])) _
          exact q)
        obtain ⟨fs, hr, hrun, hended, hW, hsame⟩ := X14.leave (v := some (.int (1 : Int32))) (fun h => by rw [Bd.returns] at h; cases h)
        refine ⟨_, _, k0 _ (k28 _ ?_), hrun, hended, _, _, rfl, ?_, ⟨_, rfl⟩, hW, hsame.mono (by decide) (by decide)⟩
        · show Steps p.tables e below (T14.setTop (mkF m 161 #[.val (.long q0), .second, .val (.long q1), .second, .val (.int p2), .val (.long (q0 &&& (9223372036854775807 : Int64))), .second, .val (.long (q1 &&& (9223372036854775807 : Int64))), .second, .val (.long (own_min (q0 &&& (9223372036854775807 : Int64)) (q1 &&& (9223372036854775807 : Int64)))), .second, .val (.long (own_max (q0 &&& (9223372036854775807 : Int64)) (q1 &&& (9223372036854775807 : Int64)))), .second, .val (.long (((own_max (q0 &&& (9223372036854775807 : Int64)) (q1 &&& (9223372036854775807 : Int64))) - (own_min (q0 &&& (9223372036854775807 : Int64)) (q1 &&& (9223372036854775807 : Int64)))) + (1 : Int64))), .second, .val (.long (own_max (q0 &&& (9223372036854775807 : Int64)) (q1 &&& (9223372036854775807 : Int64)))), .second, .val (.int v8), .val (.int v12), .val (.int (own_MG (own_max (q0 &&& (9223372036854775807 : Int64)) (q1 &&& (9223372036854775807 : Int64))) (((own_max (q0 &&& (9223372036854775807 : Int64)) (q1 &&& (9223372036854775807 : Int64))) - (own_min (q0 &&& (9223372036854775807 : Int64)) (q1 &&& (9223372036854775807 : Int64)))) + (1 : Int64)) v8 v12)), .val (.int (0 : Int32))] [(.int (1 : Int32))])) _
          exact retN X14 hx (t := .boolean) Bd.returns (by simp) (hb hby at_161) hr
        · show Q0 Z q0 q1 p2 h0 n0 _ T14.heap _
          rw [e14]
          exact ⟨rfl, N14⟩
set_option maxRecDepth 65536 in
set_option maxHeartbeats 40000000 in
theorem comes_1 {Post : Tables → Env → Array Value → State → Outcome → State → Prop} (hpost : ∀ tb e args s v u, (limb_1_1.after args s (.returned v) u = true ∧ limb_1_2.after args s (.returned v) u = true ∧ True) → FrameEnd s (.returned v) u (Jvm.fieldLocs frame_1_writes args s ++ Jvm.arrayLocs frame_1_arrays args s ++ Jvm.staticLocs frame_1_statics s) 0 0 → Post tb e args s (.returned v) u) :
    ArmFor flags0 classFile x code maxLocals ret World_1 tables_1 room_1 Calls_1 rest_1 Pre_1 Post := by
  intro l hfl _ _ p e ha hc hk s m args below hf hA hF happ hP
  obtain ⟨hcalls, hrest, hpre⟩ := hP
  obtain ⟨-, -, -, hnamed, -, -, -, hat⟩ := (Spec.applies_iff hf).mp happ
  obtain ⟨hg, hn⟩ := and_e (Cond.before_iff.mp (show (Jvm.Cond.and given_1 narrow_1).before args s = true from hpre))
  obtain ⟨hgc, hg0⟩ := and_e hg
  obtain ⟨ga0, hg1⟩ := and_e hg0
  obtain ⟨ga1, hg2⟩ := and_e hg1
  obtain ⟨w0, w1, w2, rfl⟩ : ∃ w0 w1 w2 : Value, args = #[w0, w1, w2] := by
    have hs : args.size = 3 := by simpa [Cond.value, given_1] using hgc
    obtain ⟨L⟩ := args
    match L, hs with
    | [w0, w1, w2], _ => exact ⟨w0, w1, w2, rfl⟩
  have hw := fun d (hd : d ∈ tables_1) => atoms_spec (ws := Jvm.Cond.code x code maxLocals ret :: tables_1) hat d (List.mem_cons_of_mem _ hd)
  have hfit : Fit s := fun {y c} hc i hi => by
    obtain ⟨ha, rfl⟩ := Array.getElem?_eq_some_iff.mp hc
    have q := List.all_eq_true.mp ((Array.all_eq_true_iff_forall_mem.mp hF) _ (Array.getElem_mem ha)) i (List.mem_range.mpr hi)
    simpa [Array.getElem?_eq_getElem hi] using q
  obtain ⟨i0, ei0⟩ := isL_v ga0
  obtain rfl : w0 = (.long i0) := Option.some.inj ei0
  obtain ⟨i1, ei1⟩ := isL_v ga1
  obtain rfl : w1 = (.long i1) := Option.some.inj ei1
  obtain ⟨i2, ei2⟩ := is_v hg2
  obtain rfl : w2 = (.int i2) := Option.some.inj ei2
  obtain ⟨n, o, h1, h2, h3, _, L, rfl, ⟨rfl, N⟩, hq⟩ := rm0 l s _ hw tables_1 i0 i1 i2 s.heap s.heap.size (Nat.le_refl _) p e ha hc hk s m _ below hf ((Spec.applies_iff_loose hf).mp happ).1 ⟨rfl, State.Warmed39.refl s, rfl⟩ trivial
  refine ⟨n, _, h1, h2, h3, hpost _ _ _ _ _ _ ⟨Cond.after_iff.mpr rfl, Cond.after_iff.mpr (eq_i res_at (Term.int_eval (1)) rfl), trivial⟩ ⟨hq.1, hq.2.1, (hq.2.2.sift fun y hy => Or.inr (N y hy)).mono (by decide) (by decide)⟩⟩
theorem main_1_1 : Claimed_1_1 := comes_1 fun _ _ _ _ _ _ h hF => ⟨h.1, hF⟩
theorem main_1_2 : Claimed_1_2 := comes_1 fun _ _ _ _ _ _ h hF => ⟨h.2.1, hF⟩
end Jvm.Pilot.@@N@@
namespace Jvm.Pilot.@@N@@
open Jvm Jvm.ClassFile Sem Op Lib Jvm.Free Jvm.Stand Jvm.Pilot.@@N@@.Jvm.D
/-! MADE BY PROGRAM (witnessworld.py) out of the Statement's table words and the real class files: 11 classes; the members and pool entries that the words name. The judged class is class 1, her method 2. -/
namespace start1
open Jvm.ClassFile
def u (s : String) : CpInfo := .utf8 (stringToUtf16 s)
/-- a pool by its gaps: so many unusable entries, then the entry; so many at the end -/
def gap : Nat → List CpInfo → List CpInfo
  | 0, r => r
  | n + 1, r => .unusable :: gap n r
def poolList (es : List (Nat × CpInfo)) (last : Nat) : List CpInfo := es.foldr (fun e r => gap e.1 (e.2 :: r)) (gap last [])
def pool (es : List (Nat × CpInfo)) (last : Nat) : Array CpInfo := ⟨poolList es last⟩
def fileOf (pool : Array CpInfo) (this : Nat) (attrs : Array Attribute := #[]) (ms : Array MethodInfo := #[]) (fl : Nat := 33) (sup : Nat := 0) (ifs : Array Nat := #[]) (fds : Array FieldInfo := #[]) : ClassFile where
  minorVersion := 0
  majorVersion := 65
  constantPool := pool
  accessFlags := fl
  thisClass := this
  superClass := sup
  interfaces := ifs
  fields := fds
  methods := ms
  attributes := attrs
def plain (name : String) (sup : Option ClassId) : Class where
  name := name
  kind := .ordinary
  loader := none
  accessFlags := 33
  super := sup
  interfaces := #[]
  cf := none
  fields := #[]
  methods := #[]
  instanceTypes := #[]
  staticTypes := #[]
  resolved := #[]
  callSites := []
  init := .initialized
  statics := none
  mirror := none

def pool0 : Array CpInfo := pool [(5, u "<init>"), (0, u "()V"), (1, .class_ 10), (1, u "java/lang/Object")] 113

def k0m0 : Method := { name := "<init>", desc := "()V", sig := { parameters := [], returnType := none }, accessFlags := 1, code := none }
/-- java/lang/Object -/
def k0 : Class := { plain "java/lang/Object" none with
  accessFlags := 33
  interfaces := #[]
  cf := some (fileOf pool0 8 #[] #[{ accessFlags := 1, nameIndex := 5, descriptorIndex := 6, attributes := #[] }] 33 0 #[] #[])
  fields := #[]
  methods := #[k0m0]
  instanceTypes := #[]
  staticTypes := #[]
  resolved := Array.replicate 124 none
  statics := none }

def pool1 : Array CpInfo := pool [(2, .class_ 4), (1, u "java/lang/Object"), (0, u "<init>"), (0, u "()V"), (0, .long 26), (1, .long 676), (1, .long 17576), (1, .long 456976), (1, .long 11881376), (1, .long 308915776), (1, .long 8031810176), (1, .long 208827064576), (1, .long 5429503678976), (1, .long 141167095653376), (1, .long 3670344486987776), (1, .long 95428956661682176), (1, .long 2481152873203736576), (3, .long 9223372036854775807), (1, .methodref 38 39), (0, .class_ 40), (0, .nameAndType 41 42), (0, u "java/lang/Math"), (0, u "min"), (0, u "(JJ)J"), (0, .methodref 38 44), (0, .nameAndType 45 42), (0, u "max"), (0, .methodref 47 48), (0, .class_ 49), (0, .nameAndType 50 51), (0, u "com/example/ordrly/ordrly/commits/Progress"), (0, u "mostGrowth"), (0, u "(JJZZ)I"), (0, .methodref 53 54), (0, .class_ 55), (0, .nameAndType 56 57), (0, u "com/example/ordrly/ordrly/commits/ProgressMostGrowthPinLaw"), (0, u "digits"), (0, u "(J)I"), (3, u "law"), (0, u "(JJI)Z")] 2

def k1m0 : Method := { name := "<init>", desc := "()V", sig := { parameters := [], returnType := none }, accessFlags := 1, code := none }
def k1c1 : Code := { maxStack := 4, maxLocals := 3, code := method_2_code, exceptionTable := #[], attributes := #[] }
def k1m1 : Method := { name := "digits", desc := "(J)I", sig := { parameters := [.long], returnType := some .int }, accessFlags := 10, code := some k1c1 }
def k1c2 : Code := { maxStack := 6, maxLocals := 21, code := code, exceptionTable := #[], attributes := #[] }
def k1m2 : Method := { name := "law", desc := "(JJI)Z", sig := { parameters := [.long, .long, .int], returnType := some .boolean }, accessFlags := 9, code := some k1c2 }
/-- com/example/ordrly/ordrly/commits/ProgressMostGrowthPinLaw -/
def k1 : Class := { plain "com/example/ordrly/ordrly/commits/ProgressMostGrowthPinLaw" (some 0) with
  accessFlags := 49
  interfaces := #[]
  cf := some (fileOf pool1 53 #[] #[{ accessFlags := 1, nameIndex := 5, descriptorIndex := 6, attributes := #[] }, { accessFlags := 10, nameIndex := 56, descriptorIndex := 57, attributes := #[] }, { accessFlags := 9, nameIndex := 61, descriptorIndex := 62, attributes := #[] }] 49 2 #[] #[])
  fields := #[]
  methods := #[k1m0, k1m1, k1m2]
  instanceTypes := #[]
  staticTypes := #[]
  resolved := Array.replicate 65 none
  statics := none }

def pool2 : Array CpInfo := pool [(1, .class_ 2), (0, u "java/lang/Math"), (1, .class_ 6), (1, u "java/lang/Object"), (0, u "<init>"), (0, u "()V"), (89, .class_ 100), (1, u "java/lang/Math$RandomNumberGeneratorHolder"), (20, u "(JJ)J"), (50, u "negativeZeroFloatBits"), (0, u "J"), (2, u "negativeZeroDoubleBits"), (21, u "max"), (2, u "min"), (43, u "$assertionsDisabled"), (0, u "Z"), (91, u "twoToTheDoubleScaleDown"), (0, u "D"), (4, u "twoToTheDoubleScaleUp"), (9, u "E"), (3, u "PI"), (2, u "TAU"), (2, u "DEGREES_TO_RADIANS"), (0, u "RADIANS_TO_DEGREES")] 94

def k2m0 : Method := { name := "<init>", desc := "()V", sig := { parameters := [], returnType := none }, accessFlags := 2, code := none }
def k2c1 : Code := { maxStack := 4, maxLocals := 4, code := jdk_29_method_66_code, exceptionTable := #[], attributes := #[] }
def k2m1 : Method := { name := "max", desc := "(JJ)J", sig := { parameters := [.long, .long], returnType := some .long }, accessFlags := 9, code := some k2c1 }
def k2c2 : Code := { maxStack := 4, maxLocals := 4, code := jdk_29_method_70_code, exceptionTable := #[], attributes := #[] }
def k2m2 : Method := { name := "min", desc := "(JJ)J", sig := { parameters := [.long, .long], returnType := some .long }, accessFlags := 9, code := some k2c2 }
/-- java/lang/Math -/
def k2 : Class := { plain "java/lang/Math" (some 0) with
  accessFlags := 49
  interfaces := #[]
  cf := some (fileOf pool2 1 #[.nestMembers #[98]] #[{ accessFlags := 2, nameIndex := 7, descriptorIndex := 8, attributes := #[] }, { accessFlags := 9, nameIndex := 198, descriptorIndex := 121, attributes := #[] }, { accessFlags := 9, nameIndex := 201, descriptorIndex := 121, attributes := #[] }] 49 4 #[] #[{ accessFlags := 25, nameIndex := 354, descriptorIndex := 339, attributes := #[] }, { accessFlags := 25, nameIndex := 358, descriptorIndex := 339, attributes := #[] }, { accessFlags := 25, nameIndex := 361, descriptorIndex := 339, attributes := #[] }, { accessFlags := 26, nameIndex := 364, descriptorIndex := 339, attributes := #[] }, { accessFlags := 26, nameIndex := 365, descriptorIndex := 339, attributes := #[] }, { accessFlags := 26, nameIndex := 172, descriptorIndex := 173, attributes := #[] }, { accessFlags := 26, nameIndex := 176, descriptorIndex := 173, attributes := #[] }, { accessFlags := 8, nameIndex := 344, descriptorIndex := 339, attributes := #[] }, { accessFlags := 8, nameIndex := 338, descriptorIndex := 339, attributes := #[] }, { accessFlags := 4120, nameIndex := 245, descriptorIndex := 246, attributes := #[] }])
  fields := #[{ name := "E", type := .double, accessFlags := 25, slot := 0, constantValue := 0 }, { name := "PI", type := .double, accessFlags := 25, slot := 1, constantValue := 0 }, { name := "TAU", type := .double, accessFlags := 25, slot := 2, constantValue := 0 }, { name := "DEGREES_TO_RADIANS", type := .double, accessFlags := 26, slot := 3, constantValue := 0 }, { name := "RADIANS_TO_DEGREES", type := .double, accessFlags := 26, slot := 4, constantValue := 0 }, { name := "negativeZeroFloatBits", type := .long, accessFlags := 26, slot := 5, constantValue := 0 }, { name := "negativeZeroDoubleBits", type := .long, accessFlags := 26, slot := 6, constantValue := 0 }, { name := "twoToTheDoubleScaleUp", type := .double, accessFlags := 8, slot := 7, constantValue := 0 }, { name := "twoToTheDoubleScaleDown", type := .double, accessFlags := 8, slot := 8, constantValue := 0 }, { name := "$assertionsDisabled", type := .boolean, accessFlags := 4120, slot := 9, constantValue := 0 }]
  methods := #[k2m0, k2m1, k2m2]
  instanceTypes := #[]
  staticTypes := #[.double, .double, .double, .double, .double, .long, .long, .double, .double, .boolean]
  resolved := Array.replicate 460 none
  statics := none }

def pool3 : Array CpInfo := pool [(2, .class_ 4), (1, u "java/lang/Object"), (0, u "<init>"), (0, u "()V"), (0, .class_ 8), (0, u "java/lang/Record")] 13

def k3m0 : Method := { name := "<init>", desc := "()V", sig := { parameters := [], returnType := none }, accessFlags := 4, code := none }
/-- java/lang/Record -/
def k3 : Class := { plain "java/lang/Record" (some 0) with
  accessFlags := 1057
  interfaces := #[]
  cf := some (fileOf pool3 7 #[] #[{ accessFlags := 4, nameIndex := 5, descriptorIndex := 6, attributes := #[] }] 1057 2 #[] #[])
  fields := #[]
  methods := #[k3m0]
  instanceTypes := #[]
  staticTypes := #[]
  resolved := Array.replicate 22 none
  statics := none }

def pool4 : Array CpInfo := pool [(2, .class_ 4), (1, u "java/lang/Record"), (16, .class_ 22), (0, u "com/example/ordrly/ordrly/commits/Progress$Range"), (23, .class_ 48), (1, u "com/example/ordrly/ordrly/commits/Progress"), (0, u "offset"), (0, u "J"), (2, u "finished"), (0, u "Ljava/util/List;"), (29, .methodref 46 85), (0, .nameAndType 86 87), (0, u "countLength"), (0, u "(J)I"), (79, .long 26), (23, u "LONGEST_HEADER"), (0, u "I"), (2, u "FORMAT"), (0, u "Ljava/lang/String;"), (1, u "DIGITS"), (9, u "mostGrowth"), (0, u "(JJZZ)I")] 43

def k4c0 : Code := { maxStack := 4, maxLocals := 6, code := prog_2_method_4_code, exceptionTable := #[], attributes := #[] }
def k4m0 : Method := { name := "mostGrowth", desc := "(JJZZ)I", sig := { parameters := [.long, .long, .boolean, .boolean], returnType := some .int }, accessFlags := 9, code := some k4c0 }
def k4c1 : Code := { maxStack := 4, maxLocals := 5, code := prog_2_method_8_code, exceptionTable := #[], attributes := #[] }
def k4m1 : Method := { name := "countLength", desc := "(J)I", sig := { parameters := [.long], returnType := some .int }, accessFlags := 10, code := some k4c1 }
/-- com/example/ordrly/ordrly/commits/Progress -/
def k4 : Class := { plain "com/example/ordrly/ordrly/commits/Progress" (some 3) with
  accessFlags := 49
  interfaces := #[]
  cf := some (fileOf pool4 46 #[.nestMembers #[21]] #[{ accessFlags := 9, nameIndex := 208, descriptorIndex := 209, attributes := #[] }, { accessFlags := 10, nameIndex := 86, descriptorIndex := 87, attributes := #[] }] 49 2 #[] #[{ accessFlags := 18, nameIndex := 49, descriptorIndex := 50, attributes := #[] }, { accessFlags := 18, nameIndex := 53, descriptorIndex := 54, attributes := #[] }, { accessFlags := 26, nameIndex := 195, descriptorIndex := 196, attributes := #[] }, { accessFlags := 26, nameIndex := 198, descriptorIndex := 192, attributes := #[] }, { accessFlags := 25, nameIndex := 191, descriptorIndex := 192, attributes := #[] }])
  fields := #[{ name := "offset", type := .long, accessFlags := 18, slot := 0, constantValue := 0 }, { name := "finished", type := (.object "java/util/List"), accessFlags := 18, slot := 1, constantValue := 0 }, { name := "FORMAT", type := (.object "java/lang/String"), accessFlags := 26, slot := 0, constantValue := 0 }, { name := "DIGITS", type := .int, accessFlags := 26, slot := 1, constantValue := 0 }, { name := "LONGEST_HEADER", type := .int, accessFlags := 25, slot := 2, constantValue := 0 }]
  methods := #[k4m0, k4m1]
  instanceTypes := #[.long, (.object "java/util/List")]
  staticTypes := #[(.object "java/lang/String"), .int, .int]
  resolved := Array.replicate 253 none
  statics := none }

def pool5 : Array CpInfo := pool [(1, u "java/lang/Cloneable"), (0, .class_ 1), (0, u "java/lang/Object"), (0, .class_ 3)] 3

/-- java/lang/Cloneable -/
def k5 : Class := { plain "java/lang/Cloneable" (some 0) with
  accessFlags := 1537
  interfaces := #[]
  cf := some (fileOf pool5 2 #[] #[] 1537 4 #[] #[])
  fields := #[]
  methods := #[]
  instanceTypes := #[]
  staticTypes := #[]
  resolved := Array.replicate 8 none
  statics := none }

def pool6 : Array CpInfo := pool [(1, u "java/io/Serializable"), (0, .class_ 1), (0, u "java/lang/Object"), (0, .class_ 3)] 3

/-- java/io/Serializable -/
def k6 : Class := { plain "java/io/Serializable" (some 0) with
  accessFlags := 1537
  interfaces := #[]
  cf := some (fileOf pool6 2 #[] #[] 1537 4 #[] #[])
  fields := #[]
  methods := #[]
  instanceTypes := #[]
  staticTypes := #[]
  resolved := Array.replicate 8 none
  statics := none }

/-- the primitive byte -/
def k7 : Class := { plain "byte" none with kind := .primitive 'B', accessFlags := 0x411 }
/-- [B -/
def k8 : Class := { plain "[B" (some 0) with kind := .array 7 .byte, interfaces := #[5, 6], accessFlags := 1041 }

/-- the primitive int -/
def k9 : Class := { plain "int" none with kind := .primitive 'I', accessFlags := 0x411 }
/-- [I -/
def k10 : Class := { plain "[I" (some 0) with kind := .array 9 .int, interfaces := #[5, 6], accessFlags := 1041 }

def heap : Heap := #[]
def classes : Array Class := #[k0, k1, k2, k3, k4, k5, k6, k7, k8, k9, k10]
def interned : List (Array UInt16 × Addr) := []
def slotsUsed : Nat := 0
def theMethod : MethodId := ⟨1, 2⟩
def args0 : Array Value := #[.long 5, .long 7, .int 3]
def aboutOver (below : List Frame) : State where
  vm := { classes := classes, interned := interned.toArray }
  heap := heap
  slotsUsed := slotsUsed
  threads := #[{ frames := .invoking theMethod args0 :: below }]
def below0 : List Frame := [.native { method := ⟨0, 0⟩, args := #[] }]
def about1 : State := aboutOver below0
def p0 : Program := .bare "" "" ""
def e0 : Env := launch0.env 0 0 0
theorem w_frames : about1.frames = Frame.invoking theMethod args0 :: below0 := rfl
set_option maxRecDepth 65536 in
theorem w_args : argsFit about1.vm theMethod args0 = true := by decide +kernel
set_option maxRecDepth 65536 in
theorem w_heap : heapFits about1 = true := by decide +kernel
set_option maxRecDepth 65536 in
theorem w_runnable : about1.curStatus? = some .runnable := by decide +kernel
set_option maxRecDepth 65536 in
theorem w_alone : about1.alone = true := by decide +kernel
set_option maxRecDepth 65536 in
theorem w_named : about1.methodNamed? x = some theMethod := by decide +kernel
set_option maxRecDepth 65536 in
theorem w_hears : about1.hears theMethod below0 = true := by decide +kernel
set_option maxRecDepth 65536 in
theorem w_ripe : about1.ripe theMethod args0 below0 = true := by decide +kernel
theorem w_running : about1.status = .running := rfl
set_option maxRecDepth 65536 in
theorem w_room : about1.hasRoom e0.platform room_1 = true :=
  launch0.hasRoom_least _ room_1 (by decide +kernel) (by decide +kernel) (by decide +kernel) (by decide +kernel) (by decide +kernel) (by decide +kernel)
theorem allAtoms_all (ts : List Jvm.Cond) (a : Array Jvm.Value) (st : Jvm.State) : (allAtoms ts).before a st = ts.all (fun c => c.before a st) := by
  induction ts with
  | nil => rfl
  | cons c t ih =>
    show (Jvm.Cond.and c (allAtoms t)).before a st = _
    rw [Jvm.Cond.before_and, ih, List.all_cons]
def words1 : List Jvm.Cond := Jvm.Cond.code x code maxLocals ret :: tables_1
/-- a 'code' word, met by the world's own term for the bytes: nothing is compared byte by byte -/
theorem code_word {y : MethodName} {bytes : ByteArray} {mx : Nat} {rt : Option FieldType} {a : Array Value} {s : State} {m : MethodId} {meth : Method} {c : Code} (h1 : s.methodNamed? y = some m) (h2 : s.vm.method? m = some meth) (h3 : meth.code = some c) (h4 : c.code = bytes)
    (h5 : (c.maxLocals == mx && c.exceptionTable.isEmpty && decide (c.maxStack ≤ mostOperands) && decide (meth.sig.returnType = rt) && !meth.locks && decide (parseMethodDescriptor y.desc = some meth.sig)) = true) : (Jvm.Cond.code y bytes mx rt).before a s = true := by
  simp only [Bool.and_eq_true, beq_iff_eq, Bool.not_eq_true', decide_eq_true_eq] at h5
  obtain ⟨⟨⟨⟨⟨g1, g2⟩, g3⟩, g4⟩, g5⟩, g6⟩ := h5
  simp [Cond.before, Cond.holds, Cond.value, h1, h2, h3, h4, g1, g2, g3, g4, g5, g6]
def isCode : Jvm.Cond → Bool
  | .code _ _ _ _ => true
  | _ => false
theorem all_split {L : List Jvm.Cond} {P : Jvm.Cond → Bool} (h1 : L.all (fun c => isCode c || P c) = true) (h2 : ∀ c ∈ L.filter isCode, P c = true) : L.all P = true := by
  refine List.all_eq_true.mpr fun c hc => ?_
  have h := List.all_eq_true.mp h1 c hc
  rcases Bool.eq_false_or_eq_true (isCode c) with hi | hi
  · exact h2 c (List.mem_filter.mpr ⟨hc, hi⟩)
  · simpa [hi] using h
set_option maxRecDepth 65536 in
theorem w_c0 : (Jvm.Cond.code x code maxLocals ret).before args0 about1 = true := code_word (m := ⟨1, 2⟩) (meth := k1m2) (c := k1c2) (by decide +kernel) rfl rfl rfl (by decide +kernel)
set_option maxRecDepth 65536 in
theorem w_c1 : (Jvm.Cond.code ({ cls := "java/lang/Math", name := "min", desc := "(JJ)J" } : Jvm.MethodName) jdk_29_method_70_code (4 : Nat) (Option.some Jvm.ClassFile.FieldType.long)).before args0 about1 = true := code_word (m := ⟨2, 2⟩) (meth := k2m2) (c := k2c2) (by decide +kernel) rfl rfl rfl (by decide +kernel)
set_option maxRecDepth 65536 in
theorem w_c2 : (Jvm.Cond.code ({ cls := "java/lang/Math", name := "max", desc := "(JJ)J" } : Jvm.MethodName) jdk_29_method_66_code (4 : Nat) (Option.some Jvm.ClassFile.FieldType.long)).before args0 about1 = true := code_word (m := ⟨2, 1⟩) (meth := k2m1) (c := k2c1) (by decide +kernel) rfl rfl rfl (by decide +kernel)
set_option maxRecDepth 65536 in
theorem w_c3 : (Jvm.Cond.code ({ cls := "com/example/ordrly/ordrly/commits/Progress", name := "mostGrowth", desc := "(JJZZ)I" } : Jvm.MethodName) prog_2_method_4_code (6 : Nat) (Option.some Jvm.ClassFile.FieldType.int)).before args0 about1 = true := code_word (m := ⟨4, 0⟩) (meth := k4m0) (c := k4c0) (by decide +kernel) rfl rfl rfl (by decide +kernel)
set_option maxRecDepth 65536 in
theorem w_c4 : (Jvm.Cond.code ({ cls := "com/example/ordrly/ordrly/commits/Progress", name := "countLength", desc := "(J)I" } : Jvm.MethodName) prog_2_method_8_code (5 : Nat) (Option.some Jvm.ClassFile.FieldType.int)).before args0 about1 = true := code_word (m := ⟨4, 1⟩) (meth := k4m1) (c := k4c1) (by decide +kernel) rfl rfl rfl (by decide +kernel)
set_option maxRecDepth 65536 in
theorem w_c5 : (Jvm.Cond.code ({ cls := "com/example/ordrly/ordrly/commits/ProgressMostGrowthPinLaw", name := "digits", desc := "(J)I" } : Jvm.MethodName) method_2_code (3 : Nat) (Option.some Jvm.ClassFile.FieldType.int)).before args0 about1 = true := code_word (m := ⟨1, 1⟩) (meth := k1m1) (c := k1c1) (by decide +kernel) rfl rfl rfl (by decide +kernel)
def codes1 : List Jvm.Cond := [Jvm.Cond.code x code maxLocals ret, Jvm.Cond.code ({ cls := "java/lang/Math", name := "min", desc := "(JJ)J" } : Jvm.MethodName) jdk_29_method_70_code (4 : Nat) (Option.some Jvm.ClassFile.FieldType.long), Jvm.Cond.code ({ cls := "java/lang/Math", name := "max", desc := "(JJ)J" } : Jvm.MethodName) jdk_29_method_66_code (4 : Nat) (Option.some Jvm.ClassFile.FieldType.long), Jvm.Cond.code ({ cls := "com/example/ordrly/ordrly/commits/Progress", name := "mostGrowth", desc := "(JJZZ)I" } : Jvm.MethodName) prog_2_method_4_code (6 : Nat) (Option.some Jvm.ClassFile.FieldType.int), Jvm.Cond.code ({ cls := "com/example/ordrly/ordrly/commits/Progress", name := "countLength", desc := "(J)I" } : Jvm.MethodName) prog_2_method_8_code (5 : Nat) (Option.some Jvm.ClassFile.FieldType.int), Jvm.Cond.code ({ cls := "com/example/ordrly/ordrly/commits/ProgressMostGrowthPinLaw", name := "digits", desc := "(J)I" } : Jvm.MethodName) method_2_code (3 : Nat) (Option.some Jvm.ClassFile.FieldType.int)]
set_option maxRecDepth 65536 in
theorem codes_eq : words1.filter isCode = codes1 := rfl
theorem w_codes : ∀ c ∈ words1.filter isCode, c.before args0 about1 = true := by
  rw [codes_eq]
  intro c hc
  simp only [codes1, List.mem_cons, List.not_mem_nil, or_false] at hc
  rcases hc with rfl | rfl | rfl | rfl | rfl | rfl
  · exact w_c0
  · exact w_c1
  · exact w_c2
  · exact w_c3
  · exact w_c4
  · exact w_c5
set_option maxRecDepth 65536 in
theorem w_t1 : (words1.take 24).all (fun c => isCode c || c.before args0 about1) = true := by decide +kernel
set_option maxRecDepth 65536 in
theorem w_t2 : (words1.drop 24).all (fun c => isCode c || c.before args0 about1) = true := by decide +kernel
theorem w_tables : (allAtoms (Jvm.Cond.code x code maxLocals ret :: tables_1)).before args0 about1 = true := by
  rw [allAtoms_all]
  show words1.all (fun c => c.before args0 about1) = true
  refine all_split ?_ w_codes
  rw [← List.take_append_drop 24 words1, List.all_append, w_t1, w_t2]
  rfl
set_option maxRecDepth 65536 in
theorem w_case : (Jvm.Cond.and given_1 narrow_1).before args0 about1 = true := by decide +kernel
theorem w_applies : (headSpec (Jvm.Cond.code x code maxLocals ret :: tables_1) room_1).applies x e0.platform about1 = true :=
  (Spec.applies_iff w_frames).mpr ⟨w_running, w_runnable, w_alone, w_named, w_hears, w_ripe, w_room, w_tables⟩
theorem atStart : AtStart classFile x code maxLocals ret World_1 tables_1 room_1 Calls_1 rest_1 Pre_1 launch0 p0 e0 about1 theMethod args0 below0 :=
  ⟨lists_1, trivial, launch0.admits_env _ _ _, launch0.least_env, fairChoices_fair.cas, fairChoices_fair.clock, w_frames, w_args, w_heap, w_applies, trivial, trivial, w_case⟩
end start1
theorem witness_1 : WitnessClaimed_1 := ⟨start1.p0, start1.e0, start1.about1, start1.theMethod, start1.args0, start1.below0, start1.atStart⟩
end Jvm.Pilot.@@N@@
