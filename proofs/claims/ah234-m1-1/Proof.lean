import JvmDerived
import JvmDerived.Pilot.@@N@@Statement
import JvmDerived.Pilot.@@N@@Code
set_option linter.unusedVariables false
set_option linter.unusedSimpArgs false

namespace Jvm.Pilot.@@N@@
open Jvm Jvm.ClassFile Sem Op Lib Jvm.Free Jvm.Stand Jvm.LawKit Jvm.RoadKit Bundle Jvm.Pilot.@@N@@.Jvm.D
/-- from every end that the second place reaches the first does -/
abbrev own_To (p : Program) (e : Env) (below : List Frame) (T' : State) (f' : JFrame) (T : State) (f : JFrame) : Prop := ∀ t, Steps p.tables e below (T'.setTop f') t → Steps p.tables e below (T.setTop f) t
theorem own_d1_0 : decode jdk_29_method_69_code 0 = .ok (.iload_n 0, 1) := by decide +kernel
theorem own_d1_1 : decode jdk_29_method_69_code 1 = .ok (.iload_n 1, 1) := by decide +kernel
theorem own_d1_2 : decode jdk_29_method_69_code 2 = .ok (.if_icmp .gt 7, 3) := by decide +kernel
theorem own_d1_5 : decode jdk_29_method_69_code 5 = .ok (.iload_n 0, 1) := by decide +kernel
theorem own_d1_6 : decode jdk_29_method_69_code 6 = .ok (.goto 4, 3) := by decide +kernel
theorem own_d1_9 : decode jdk_29_method_69_code 9 = .ok (.iload_n 1, 1) := by decide +kernel
theorem own_d1_10 : decode jdk_29_method_69_code 10 = .ok (.ireturn, 1) := by decide +kernel
theorem own_ef1 (m : MethodId) (x0 : Int32) (x1 : Int32) : entryFrame m #[(.int x0), (.int x1)] 2 = mkF m 0 #[.val (.int x0), .val (.int x1)] [] := by first | (simp [entryFrame, mkF, argsToLocals, Value.category]; done) | rfl
def own_min (p0 p1 : Int32) : Int32 := (if p1 < p0 then p1 else p0)
def Q1 (Z : State) (p0 : Int32) (p1 : Int32) (h0 : Heap) (n0 : Nat) (v : Option Value) (h : Heap) (L : List Loc) : Prop := v = some (.int (own_min p0 p1)) ∧ Fr n0 L ∧ h = h0
set_option maxRecDepth 65536 in
set_option maxHeartbeats 40000000 in
theorem rm1 (l : Launch) (Z : State) (a0 : Array Value) (hw : ∀ d ∈ tables_1, d.before a0 Z = true) (ws : List Jvm.Cond) (p0 : Int32) (p1 : Int32) (h0 : Heap) (n0 : Nat) (Z0 : n0 ≤ h0.size) :
    MetFree l (⟨"java/lang/Math", "min", "(II)I"⟩ : MethodName) (head1 (Jvm.Cond.code (⟨"java/lang/Math", "min", "(II)I"⟩ : MethodName) jdk_29_method_69_code 2 (some .int) :: ws) ({ frames := 0, cells := 0, slots := 0, locals := 0 } : Room)) (fun a U => a = #[(.int p0), (.int p1)] ∧ Z.Warmed39 U.vm ∧ U.heap = h0) (fun _ _ _ _ _ => True) (fun _ U o U' => ∃ v L, o = .returned v ∧ Q1 Z p0 p1 h0 n0 v U'.heap L ∧ FrameEnd U o U' L ({ frames := 0, cells := 0, slots := 0, locals := 0 } : Room).cells ({ frames := 0, cells := 0, slots := 0, locals := 0 } : Room).slots) := by
  refine MetFree.of_bodySF (Jvm.Free.JP.mathPlain rfl (by decide +kernel)) hisR ?_
  intro p e s m args below meth c s₁ Bd hml0 hP hK
  obtain ⟨rfl, hZ, hh⟩ := hP
  have hx := Bd.exec
  have hby := Bd.bytes
  have hml : c.maxLocals = 2 := hml0
  have hown : s.vm.findClass "java/lang/Math" = some m.cls := findClass_of_methodNamed Bd.named
  have hnm := (name_of_methodNamed Bd.named Bd.method).1
  have X0 : Stand p l e ({ frames := 0, cells := 0, slots := 0, locals := 0 } : Room) s m #[(.int p0), (.int p1)] below meth c s₁ [] 0 0 := Stand.of_body Bd
  have e0 : s₁.heap = h0 := by rw [← hh, Bd.state]; rfl
  have N0 := Fr.nil n0
  have k0 : own_To p e below s₁ (mkF m 0 #[.val (.int p0), .val (.int p1)] []) s₁ (entryFrame m #[(.int p0), (.int p1)] 2) := fun t k => castTop (own_ef1 m p0 p1) k
  have ki : own_To p e below s₁ (mkF m 0 #[.val (.int p0), .val (.int p1)] []) s₁ (mkF m 0 #[.val (.int p0), .val (.int p1)] []) := fun t q => q
  have k1 : own_To p e below s₁ (mkF m 2 #[.val (.int p0), .val (.int p1)] [(.int p1), (.int p0)]) s₁ (mkF m 0 #[.val (.int p0), .val (.int p1)] []) := fun t q => ki t (by
    refine XS.iloadN X0.here hx rfl (hb hby own_d1_0) rfl ?_
    show Steps p.tables e below (s₁.setTop (mkF m 1 #[.val (.int p0), .val (.int p1)] [(.int p0)])) _
    refine XS.iloadN X0.here hx rfl (hb hby own_d1_1) rfl ?_
    show Steps p.tables e below (s₁.setTop (mkF m 2 #[.val (.int p0), .val (.int p1)] [(.int p1), (.int p0)])) _
    exact q)
  by_cases hc2 : p1 < p0
  ·
    have k3 : own_To p e below s₁ (mkF m 10 #[.val (.int p0), .val (.int p1)] [(.int p1)]) s₁ (mkF m 0 #[.val (.int p0), .val (.int p1)] []) := fun t q => k1 t (by
      refine XS.icmpYes X0.here hx rfl (pc0 := 2) (pc' := 9) rfl (hb hby own_d1_2) rfl (tlt hc2).2.2.1 (by decide) (by decide) ?_
      show Steps p.tables e below (s₁.setTop (mkF m 9 #[.val (.int p0), .val (.int p1)] [])) _
      refine XS.iloadN X0.here hx rfl (hb hby own_d1_9) rfl ?_
      show Steps p.tables e below (s₁.setTop (mkF m 10 #[.val (.int p0), .val (.int p1)] [(.int p1)])) _
      exact q)
    obtain ⟨fs, hr, hrun, hended, hW, hsame⟩ := X0.leave (v := some (.int p1)) (fun h => by rw [Bd.returns] at h; cases h)
    refine ⟨_, _, k0 _ (k3 _ ?_), hrun, hended, _, _, rfl, ?_, ⟨_, rfl⟩, hW, hsame.mono (by decide) (by decide)⟩
    · show Steps p.tables e below (s₁.setTop (mkF m 10 #[.val (.int p0), .val (.int p1)] [(.int p1)])) _
      exact retOut X0 hx Bd.returns rfl (Or.inl ⟨rfl, Or.inl rfl, _, rfl⟩) (hb hby own_d1_10) hr
    · show Q1 Z p0 p1 h0 n0 _ s₁.heap _
      rw [e0]
      exact ⟨by rw [own_min, if_pos hc2], N0, rfl⟩
  ·
    have k4 : own_To p e below s₁ (mkF m 10 #[.val (.int p0), .val (.int p1)] [(.int p0)]) s₁ (mkF m 0 #[.val (.int p0), .val (.int p1)] []) := fun t q => k1 t (by
      refine XS.icmpNo X0.here hx rfl (hb hby own_d1_2) rfl (flt hc2).2.2.1 ?_
      show Steps p.tables e below (s₁.setTop (mkF m 5 #[.val (.int p0), .val (.int p1)] [])) _
      refine XS.iloadN X0.here hx rfl (hb hby own_d1_5) rfl ?_
      show Steps p.tables e below (s₁.setTop (mkF m 6 #[.val (.int p0), .val (.int p1)] [(.int p0)])) _
      refine XS.goto X0.here hx rfl (pc0 := 6) (pc' := 10) rfl (hb hby own_d1_6) (by decide) (by decide) ?_
      show Steps p.tables e below (s₁.setTop (mkF m 10 #[.val (.int p0), .val (.int p1)] [(.int p0)])) _
      exact q)
    obtain ⟨fs, hr, hrun, hended, hW, hsame⟩ := X0.leave (v := some (.int p0)) (fun h => by rw [Bd.returns] at h; cases h)
    refine ⟨_, _, k0 _ (k4 _ ?_), hrun, hended, _, _, rfl, ?_, ⟨_, rfl⟩, hW, hsame.mono (by decide) (by decide)⟩
    · show Steps p.tables e below (s₁.setTop (mkF m 10 #[.val (.int p0), .val (.int p1)] [(.int p0)])) _
      exact retOut X0 hx Bd.returns rfl (Or.inl ⟨rfl, Or.inl rfl, _, rfl⟩) (hb hby own_d1_10) hr
    · show Q1 Z p0 p1 h0 n0 _ s₁.heap _
      rw [e0]
      exact ⟨by rw [own_min, if_neg hc2], N0, rfl⟩
theorem own_d2_0 : decode jdk_29_method_65_code 0 = .ok (.iload_n 0, 1) := by decide +kernel
theorem own_d2_1 : decode jdk_29_method_65_code 1 = .ok (.iload_n 1, 1) := by decide +kernel
theorem own_d2_2 : decode jdk_29_method_65_code 2 = .ok (.if_icmp .lt 7, 3) := by decide +kernel
theorem own_d2_5 : decode jdk_29_method_65_code 5 = .ok (.iload_n 0, 1) := by decide +kernel
theorem own_d2_6 : decode jdk_29_method_65_code 6 = .ok (.goto 4, 3) := by decide +kernel
theorem own_d2_9 : decode jdk_29_method_65_code 9 = .ok (.iload_n 1, 1) := by decide +kernel
theorem own_d2_10 : decode jdk_29_method_65_code 10 = .ok (.ireturn, 1) := by decide +kernel
theorem own_ef2 (m : MethodId) (x0 : Int32) (x1 : Int32) : entryFrame m #[(.int x0), (.int x1)] 2 = mkF m 0 #[.val (.int x0), .val (.int x1)] [] := by first | (simp [entryFrame, mkF, argsToLocals, Value.category]; done) | rfl
def own_max (p0 p1 : Int32) : Int32 := (if p0 < p1 then p1 else p0)
def Q2 (Z : State) (p0 : Int32) (p1 : Int32) (h0 : Heap) (n0 : Nat) (v : Option Value) (h : Heap) (L : List Loc) : Prop := v = some (.int (own_max p0 p1)) ∧ Fr n0 L ∧ h = h0
set_option maxRecDepth 65536 in
set_option maxHeartbeats 40000000 in
theorem rm2 (l : Launch) (Z : State) (a0 : Array Value) (hw : ∀ d ∈ tables_1, d.before a0 Z = true) (ws : List Jvm.Cond) (p0 : Int32) (p1 : Int32) (h0 : Heap) (n0 : Nat) (Z0 : n0 ≤ h0.size) :
    MetFree l (⟨"java/lang/Math", "max", "(II)I"⟩ : MethodName) (head1 (Jvm.Cond.code (⟨"java/lang/Math", "max", "(II)I"⟩ : MethodName) jdk_29_method_65_code 2 (some .int) :: ws) ({ frames := 0, cells := 0, slots := 0, locals := 0 } : Room)) (fun a U => a = #[(.int p0), (.int p1)] ∧ Z.Warmed39 U.vm ∧ U.heap = h0) (fun _ _ _ _ _ => True) (fun _ U o U' => ∃ v L, o = .returned v ∧ Q2 Z p0 p1 h0 n0 v U'.heap L ∧ FrameEnd U o U' L ({ frames := 0, cells := 0, slots := 0, locals := 0 } : Room).cells ({ frames := 0, cells := 0, slots := 0, locals := 0 } : Room).slots) := by
  refine MetFree.of_bodySF (Jvm.Free.JP.mathPlain rfl (by decide +kernel)) hisR ?_
  intro p e s m args below meth c s₁ Bd hml0 hP hK
  obtain ⟨rfl, hZ, hh⟩ := hP
  have hx := Bd.exec
  have hby := Bd.bytes
  have hml : c.maxLocals = 2 := hml0
  have hown : s.vm.findClass "java/lang/Math" = some m.cls := findClass_of_methodNamed Bd.named
  have hnm := (name_of_methodNamed Bd.named Bd.method).1
  have X0 : Stand p l e ({ frames := 0, cells := 0, slots := 0, locals := 0 } : Room) s m #[(.int p0), (.int p1)] below meth c s₁ [] 0 0 := Stand.of_body Bd
  have e0 : s₁.heap = h0 := by rw [← hh, Bd.state]; rfl
  have N0 := Fr.nil n0
  have k0 : own_To p e below s₁ (mkF m 0 #[.val (.int p0), .val (.int p1)] []) s₁ (entryFrame m #[(.int p0), (.int p1)] 2) := fun t k => castTop (own_ef2 m p0 p1) k
  have ki : own_To p e below s₁ (mkF m 0 #[.val (.int p0), .val (.int p1)] []) s₁ (mkF m 0 #[.val (.int p0), .val (.int p1)] []) := fun t q => q
  have k1 : own_To p e below s₁ (mkF m 2 #[.val (.int p0), .val (.int p1)] [(.int p1), (.int p0)]) s₁ (mkF m 0 #[.val (.int p0), .val (.int p1)] []) := fun t q => ki t (by
    refine XS.iloadN X0.here hx rfl (hb hby own_d2_0) rfl ?_
    show Steps p.tables e below (s₁.setTop (mkF m 1 #[.val (.int p0), .val (.int p1)] [(.int p0)])) _
    refine XS.iloadN X0.here hx rfl (hb hby own_d2_1) rfl ?_
    show Steps p.tables e below (s₁.setTop (mkF m 2 #[.val (.int p0), .val (.int p1)] [(.int p1), (.int p0)])) _
    exact q)
  by_cases hc2 : p0 < p1
  ·
    have k3 : own_To p e below s₁ (mkF m 10 #[.val (.int p0), .val (.int p1)] [(.int p1)]) s₁ (mkF m 0 #[.val (.int p0), .val (.int p1)] []) := fun t q => k1 t (by
      refine XS.icmpYes X0.here hx rfl (pc0 := 2) (pc' := 9) rfl (hb hby own_d2_2) rfl (tlt hc2).1 (by decide) (by decide) ?_
      show Steps p.tables e below (s₁.setTop (mkF m 9 #[.val (.int p0), .val (.int p1)] [])) _
      refine XS.iloadN X0.here hx rfl (hb hby own_d2_9) rfl ?_
      show Steps p.tables e below (s₁.setTop (mkF m 10 #[.val (.int p0), .val (.int p1)] [(.int p1)])) _
      exact q)
    obtain ⟨fs, hr, hrun, hended, hW, hsame⟩ := X0.leave (v := some (.int p1)) (fun h => by rw [Bd.returns] at h; cases h)
    refine ⟨_, _, k0 _ (k3 _ ?_), hrun, hended, _, _, rfl, ?_, ⟨_, rfl⟩, hW, hsame.mono (by decide) (by decide)⟩
    · show Steps p.tables e below (s₁.setTop (mkF m 10 #[.val (.int p0), .val (.int p1)] [(.int p1)])) _
      exact retOut X0 hx Bd.returns rfl (Or.inl ⟨rfl, Or.inl rfl, _, rfl⟩) (hb hby own_d2_10) hr
    · show Q2 Z p0 p1 h0 n0 _ s₁.heap _
      rw [e0]
      exact ⟨by rw [own_max, if_pos hc2], N0, rfl⟩
  ·
    have k4 : own_To p e below s₁ (mkF m 10 #[.val (.int p0), .val (.int p1)] [(.int p0)]) s₁ (mkF m 0 #[.val (.int p0), .val (.int p1)] []) := fun t q => k1 t (by
      refine XS.icmpNo X0.here hx rfl (hb hby own_d2_2) rfl (flt hc2).1 ?_
      show Steps p.tables e below (s₁.setTop (mkF m 5 #[.val (.int p0), .val (.int p1)] [])) _
      refine XS.iloadN X0.here hx rfl (hb hby own_d2_5) rfl ?_
      show Steps p.tables e below (s₁.setTop (mkF m 6 #[.val (.int p0), .val (.int p1)] [(.int p0)])) _
      refine XS.goto X0.here hx rfl (pc0 := 6) (pc' := 10) rfl (hb hby own_d2_6) (by decide) (by decide) ?_
      show Steps p.tables e below (s₁.setTop (mkF m 10 #[.val (.int p0), .val (.int p1)] [(.int p0)])) _
      exact q)
    obtain ⟨fs, hr, hrun, hended, hW, hsame⟩ := X0.leave (v := some (.int p0)) (fun h => by rw [Bd.returns] at h; cases h)
    refine ⟨_, _, k0 _ (k4 _ ?_), hrun, hended, _, _, rfl, ?_, ⟨_, rfl⟩, hW, hsame.mono (by decide) (by decide)⟩
    · show Steps p.tables e below (s₁.setTop (mkF m 10 #[.val (.int p0), .val (.int p1)] [(.int p0)])) _
      exact retOut X0 hx Bd.returns rfl (Or.inl ⟨rfl, Or.inl rfl, _, rfl⟩) (hb hby own_d2_10) hr
    · show Q2 Z p0 p1 h0 n0 _ s₁.heap _
      rw [e0]
      exact ⟨by rw [own_max, if_neg hc2], N0, rfl⟩
/-- an int[] of length z; place j holds g j -/
def own_B (Z : State) (h : Heap) (a : Addr) (z : Int32) (g : Nat → Int32) : Prop := ∃ c : Cell, Arr Z h a c .int ∧ c.slots.size = z.toNatClampNeg ∧ ¬ z < 0 ∧ ∀ j, j < c.slots.size → c.slots[j]? = some (.int (g j))
theorem own_Bset {Z : State} {h h' : Heap} {a : Addr} {z i x : Int32} {g : Nat → Int32} {c : Cell} (A : Arr Z h a c .int) (S : c.slots.size = z.toNatClampNeg) (M : ¬ z < 0) (H : ∀ j, j < c.slots.size → c.slots[j]? = some (.int (g j))) (W : Wr h h' a i.toNatClampNeg (.int x)) :
    own_B Z h' a z (fun j => if j = i.toNatClampNeg then x else g j) := by
  refine ⟨_, A.same W, by rw [sz_set]; exact S, M, fun j hj => ?_⟩
  rw [sz_set] at hj
  by_cases u : j = i.toNatClampNeg
  · subst u; simp [Cell.setSlot, hj]
  · simp only [u, if_false, Cell.setSlot]
    rw [Array.getElem?_setIfInBounds_ne (Ne.symm u)]; exact H j hj
theorem own_Bkeep {Z : State} {h h' : Heap} {a : Addr} {z : Int32} {g : Nat → Int32} {ws : List Addr} (V : own_B Z h a z g) (K : Keep h h' ws) (q : a ∉ ws) : own_B Z h' a z g := by
  obtain ⟨c, A, r⟩ := V; exact ⟨c, ⟨K.2.1 a c A.1 q, A.2⟩, r⟩
theorem own_Bnew {Z : State} {h : Heap} {a : Addr} {k : ClassId} {z : Int32} (V : Arv Z h a k .int z [] (.int (0 : Int32))) : own_B Z h a z (fun _ => 0) := by
  obtain ⟨c, A, -, S, M, H, -⟩ := V; exact ⟨c, A, S, M, fun j hj => H j hj⟩
/-- what place i holds in the end -/
def own_f (p0 p1 p2 i : Int32) : Int32 := if i = (0 : Int32) then p0 else p0 + (((p1 - p0).toInt64 * i.toInt64) / p2.toInt64).toInt32
theorem own_nat {i j : Int32} (hi : 0 ≤ i.toInt) (hj : 0 ≤ j.toInt) (h : j.toNatClampNeg = i.toNatClampNeg) : j = i := by
  apply Int32.toInt_inj.mp
  simp only [Int32.toNatClampNeg] at h; omega
theorem own_inc (i : Int32) (h1 : 0 ≤ i.toInt) (h2 : i.toInt ≤ 100) : (i + (1 : Int32)).toInt = i.toInt + 1 := by
  have a := c_iadd i 1
  have r := rng32 (i + 1)
  rw [show (1 : Int32).toInt = 1 from rfl] at a; omega
theorem own_nz64 (p2 : Int32) (h : 1 ≤ p2.toInt) : p2.toInt64 ≠ (0 : Int64) := fun e => by
  have a := c_i2l p2
  rw [e] at a
  have : (0 : Int64).toInt = 0 := rfl
  omega
theorem own_d3_0 : decode prog_24_method_3_code 0 = .ok (.iload_n 2, 1) := by decide +kernel
theorem own_d3_1 : decode prog_24_method_3_code 1 = .ok (.iconst 1, 1) := by decide +kernel
theorem own_d3_2 : decode prog_24_method_3_code 2 = .ok (.iadd, 1) := by decide +kernel
theorem own_d3_3 : decode prog_24_method_3_code 3 = .ok (.newarray .int, 2) := by decide +kernel
theorem own_d3_5 : decode prog_24_method_3_code 5 = .ok (.astore_n 3, 1) := by decide +kernel
theorem own_d3_6 : decode prog_24_method_3_code 6 = .ok (.aload_n 3, 1) := by decide +kernel
theorem own_d3_7 : decode prog_24_method_3_code 7 = .ok (.iconst 0, 1) := by decide +kernel
theorem own_d3_8 : decode prog_24_method_3_code 8 = .ok (.iload_n 0, 1) := by decide +kernel
theorem own_d3_9 : decode prog_24_method_3_code 9 = .ok (.iastore, 1) := by decide +kernel
theorem own_d3_10 : decode prog_24_method_3_code 10 = .ok (.iconst 1, 1) := by decide +kernel
theorem own_d3_11 : decode prog_24_method_3_code 11 = .ok (.istore 4, 2) := by decide +kernel
theorem own_d3_13 : decode prog_24_method_3_code 13 = .ok (.iload 4, 2) := by decide +kernel
theorem own_d3_15 : decode prog_24_method_3_code 15 = .ok (.iload_n 2, 1) := by decide +kernel
theorem own_d3_16 : decode prog_24_method_3_code 16 = .ok (.if_icmp .gt 27, 3) := by decide +kernel
theorem own_d3_19 : decode prog_24_method_3_code 19 = .ok (.aload_n 3, 1) := by decide +kernel
theorem own_d3_20 : decode prog_24_method_3_code 20 = .ok (.iload 4, 2) := by decide +kernel
theorem own_d3_22 : decode prog_24_method_3_code 22 = .ok (.iload_n 0, 1) := by decide +kernel
theorem own_d3_23 : decode prog_24_method_3_code 23 = .ok (.iload_n 1, 1) := by decide +kernel
theorem own_d3_24 : decode prog_24_method_3_code 24 = .ok (.iload_n 0, 1) := by decide +kernel
theorem own_d3_25 : decode prog_24_method_3_code 25 = .ok (.isub, 1) := by decide +kernel
theorem own_d3_26 : decode prog_24_method_3_code 26 = .ok (.i2l, 1) := by decide +kernel
theorem own_d3_27 : decode prog_24_method_3_code 27 = .ok (.iload 4, 2) := by decide +kernel
theorem own_d3_29 : decode prog_24_method_3_code 29 = .ok (.i2l, 1) := by decide +kernel
theorem own_d3_30 : decode prog_24_method_3_code 30 = .ok (.lmul, 1) := by decide +kernel
theorem own_d3_31 : decode prog_24_method_3_code 31 = .ok (.iload_n 2, 1) := by decide +kernel
theorem own_d3_32 : decode prog_24_method_3_code 32 = .ok (.i2l, 1) := by decide +kernel
theorem own_d3_33 : decode prog_24_method_3_code 33 = .ok (.ldiv, 1) := by decide +kernel
theorem own_d3_34 : decode prog_24_method_3_code 34 = .ok (.l2i, 1) := by decide +kernel
theorem own_d3_35 : decode prog_24_method_3_code 35 = .ok (.iadd, 1) := by decide +kernel
theorem own_d3_36 : decode prog_24_method_3_code 36 = .ok (.iastore, 1) := by decide +kernel
theorem own_d3_37 : decode prog_24_method_3_code 37 = .ok (.iinc 4 1, 3) := by decide +kernel
theorem own_d3_40 : decode prog_24_method_3_code 40 = .ok (.goto (-27), 3) := by decide +kernel
theorem own_d3_43 : decode prog_24_method_3_code 43 = .ok (.aload_n 3, 1) := by decide +kernel
theorem own_d3_44 : decode prog_24_method_3_code 44 = .ok (.areturn, 1) := by decide +kernel
set_option maxRecDepth 65536 in
set_option maxHeartbeats 40000000 in
theorem own_loop {p : Program} {l : Launch} {e : Env} {R : Room} {s : State} {m : MethodId} {args : Array Value} {below : List Frame} {meth : Method} {c : Code} {cells slots : Nat} {Z : State} {a0 : Array Value} (hx : p.tables.exec = Jvm.exec) (hZ : Z.Warmed39 s.vm) (hw : ∀ d ∈ tables_1, d.before a0 Z = true) (hby : c.code = prog_24_method_3_code) (hml : c.maxLocals = 5) (hown : s.vm.findClass "com/example/vetted_traces/vettedtraces/engine/Parts" = some m.cls) (n0 : Nat) (p0 p1 p2 : Int32) (a : Addr) (ga : n0 ≤ a) (hp8 : p2.toInt ≤ 8) :
    ∀ (k : Nat) (T0 : State) (locs : List Loc) (h0 : Heap) (g : Nat → Int32) (i : Int32) (X0 : Stand p l e R s m args below meth c T0 locs cells slots) (e0 : T0.heap = h0) (N0 : Fr n0 locs) (V0 : own_B Z h0 a (p2 + (1 : Int32)) g), 1 ≤ i.toInt → i.toInt + k = p2.toInt + 1 → (∀ j : Int32, 0 ≤ j.toInt → j.toInt < i.toInt → g j.toNatClampNeg = own_f p0 p1 p2 j) →
      ∃ (T' : State) (locs' : List Loc) (h' : Heap) (g' : Nat → Int32) (i' : Int32), Stand p l e R s m args below meth c T' locs' cells slots ∧ T'.heap = h' ∧ Fr n0 locs' ∧ Keep h0 h' [a] ∧ own_B Z h' a (p2 + (1 : Int32)) g' ∧ (∀ j : Int32, 0 ≤ j.toInt → j.toInt ≤ p2.toInt → g' j.toNatClampNeg = own_f p0 p1 p2 j) ∧ own_To p e below T' (mkF m 43 #[.val (.int p0), .val (.int p1), .val (.int p2), .val (.ref a), .val (.int i')] []) T0 (mkF m 13 #[.val (.int p0), .val (.int p1), .val (.int p2), .val (.ref a), .val (.int i)] []) := by
  intro k
  induction k with
  | zero =>
    intro T0 locs h0 g i X0 e0 N0 V0 h1 h2 hg
    have hc : p2 < i := by rw [Int32.lt_iff_toInt_lt]; omega
    have ki : own_To p e below T0 (mkF m 13 #[.val (.int p0), .val (.int p1), .val (.int p2), .val (.ref a), .val (.int i)] []) T0 (mkF m 13 #[.val (.int p0), .val (.int p1), .val (.int p2), .val (.ref a), .val (.int i)] []) := fun t q => q
    have k1 : own_To p e below T0 (mkF m 43 #[.val (.int p0), .val (.int p1), .val (.int p2), .val (.ref a), .val (.int i)] []) T0 (mkF m 13 #[.val (.int p0), .val (.int p1), .val (.int p2), .val (.ref a), .val (.int i)] []) := fun t q => ki t (by
      refine XS.iload X0.here hx rfl (hb hby own_d3_13) rfl ?_
      show Steps p.tables e below (T0.setTop (mkF m 15 #[.val (.int p0), .val (.int p1), .val (.int p2), .val (.ref a), .val (.int i)] [(.int i)])) _
      refine XS.iloadN X0.here hx rfl (hb hby own_d3_15) rfl ?_
      show Steps p.tables e below (T0.setTop (mkF m 16 #[.val (.int p0), .val (.int p1), .val (.int p2), .val (.ref a), .val (.int i)] [(.int p2), (.int i)])) _
      refine XS.icmpYes X0.here hx rfl (pc0 := 16) (pc' := 43) rfl (hb hby own_d3_16) rfl (tlt hc).2.2.1 (by decide) (by decide) ?_
      show Steps p.tables e below (T0.setTop (mkF m 43 #[.val (.int p0), .val (.int p1), .val (.int p2), .val (.ref a), .val (.int i)] [])) _
      exact q)
    exact ⟨T0, locs, h0, g, i, X0, e0, N0, Keep.refl _ _, V0, fun j q1 q2 => hg j q1 (by omega), k1⟩
  | succ k ih =>
    intro T0 locs h0 g i X0 e0 N0 V0 h1 h2 hg
    have hc : ¬ p2 < i := by rw [Int32.lt_iff_toInt_lt]; omega
    have hp1 : 1 ≤ p2.toInt := by omega
    have hi0 : ¬ i < 0 := by rw [Int32.lt_iff_toInt_lt, show (0 : Int32).toInt = 0 from rfl]; omega
    have hi1 : i < (p2 + (1 : Int32)) := by rw [Int32.lt_iff_toInt_lt, own_inc p2 (by omega) (by omega)]; omega
    have hi2 := own_inc i (by omega) (by omega)
    have ki : own_To p e below T0 (mkF m 13 #[.val (.int p0), .val (.int p1), .val (.int p2), .val (.ref a), .val (.int i)] []) T0 (mkF m 13 #[.val (.int p0), .val (.int p1), .val (.int p2), .val (.ref a), .val (.int i)] []) := fun t q => q
    obtain ⟨clr1, Arr1, Sr1, Mr1, Hhr1⟩ := id V0
    have hinr1 : ¬ (i < 0 ∨ clr1.slots.size ≤ (i).toNatClampNeg) := inb_of Sr1 ⟨hi0, hi1⟩
    obtain ⟨T2, h2, X2, e2, W2, st2⟩ := stI X0 hx hZ e0 Arr1 (j := i) hinr1 (g := (mkF m 36 #[.val (.int p0), .val (.int p1), .val (.int p2), .val (.ref a), .val (.int i)] [(.int (p0 + (((((p1 - p0).toInt64) * (i.toInt64)) / (p2.toInt64)).toInt32))), (.int i), (.ref a)])) rfl rfl (hb hby own_d3_36)
    have N2 := Fr.snoc X2 N0 ga
    have V2 := own_Bset Arr1 Sr1 Mr1 Hhr1 W2
    have k3 : own_To p e below T2 (mkF m 13 #[.val (.int p0), .val (.int p1), .val (.int p2), .val (.ref a), .val (.int (i + (1 : Int32)))] []) T0 (mkF m 13 #[.val (.int p0), .val (.int p1), .val (.int p2), .val (.ref a), .val (.int i)] []) := fun t q => ki t (by
      refine XS.iload X0.here hx rfl (hb hby own_d3_13) rfl ?_
      show Steps p.tables e below (T0.setTop (mkF m 15 #[.val (.int p0), .val (.int p1), .val (.int p2), .val (.ref a), .val (.int i)] [(.int i)])) _
      refine XS.iloadN X0.here hx rfl (hb hby own_d3_15) rfl ?_
      show Steps p.tables e below (T0.setTop (mkF m 16 #[.val (.int p0), .val (.int p1), .val (.int p2), .val (.ref a), .val (.int i)] [(.int p2), (.int i)])) _
      refine XS.icmpNo X0.here hx rfl (hb hby own_d3_16) rfl (flt hc).2.2.1 ?_
      show Steps p.tables e below (T0.setTop (mkF m 19 #[.val (.int p0), .val (.int p1), .val (.int p2), .val (.ref a), .val (.int i)] [])) _
      refine XS.aloadN X0.here hx rfl (hb hby own_d3_19) rfl rfl ?_
      show Steps p.tables e below (T0.setTop (mkF m 20 #[.val (.int p0), .val (.int p1), .val (.int p2), .val (.ref a), .val (.int i)] [(.ref a)])) _
      refine XS.iload X0.here hx rfl (hb hby own_d3_20) rfl ?_
      show Steps p.tables e below (T0.setTop (mkF m 22 #[.val (.int p0), .val (.int p1), .val (.int p2), .val (.ref a), .val (.int i)] [(.int i), (.ref a)])) _
      refine XS.iloadN X0.here hx rfl (hb hby own_d3_22) rfl ?_
      show Steps p.tables e below (T0.setTop (mkF m 23 #[.val (.int p0), .val (.int p1), .val (.int p2), .val (.ref a), .val (.int i)] [(.int p0), (.int i), (.ref a)])) _
      refine XS.iloadN X0.here hx rfl (hb hby own_d3_23) rfl ?_
      show Steps p.tables e below (T0.setTop (mkF m 24 #[.val (.int p0), .val (.int p1), .val (.int p2), .val (.ref a), .val (.int i)] [(.int p1), (.int p0), (.int i), (.ref a)])) _
      refine XS.iloadN X0.here hx rfl (hb hby own_d3_24) rfl ?_
      show Steps p.tables e below (T0.setTop (mkF m 25 #[.val (.int p0), .val (.int p1), .val (.int p2), .val (.ref a), .val (.int i)] [(.int p0), (.int p1), (.int p0), (.int i), (.ref a)])) _
      refine XS.isub X0.here hx rfl (hb hby own_d3_25) rfl ?_
      show Steps p.tables e below (T0.setTop (mkF m 26 #[.val (.int p0), .val (.int p1), .val (.int p2), .val (.ref a), .val (.int i)] [(.int (p1 - p0)), (.int p0), (.int i), (.ref a)])) _
      refine XS.i2l X0.here hx rfl (hb hby own_d3_26) rfl ?_
      show Steps p.tables e below (T0.setTop (mkF m 27 #[.val (.int p0), .val (.int p1), .val (.int p2), .val (.ref a), .val (.int i)] [(.long ((p1 - p0).toInt64)), (.int p0), (.int i), (.ref a)])) _
      refine XS.iload X0.here hx rfl (hb hby own_d3_27) rfl ?_
      show Steps p.tables e below (T0.setTop (mkF m 29 #[.val (.int p0), .val (.int p1), .val (.int p2), .val (.ref a), .val (.int i)] [(.int i), (.long ((p1 - p0).toInt64)), (.int p0), (.int i), (.ref a)])) _
      refine XS.i2l X0.here hx rfl (hb hby own_d3_29) rfl ?_
      show Steps p.tables e below (T0.setTop (mkF m 30 #[.val (.int p0), .val (.int p1), .val (.int p2), .val (.ref a), .val (.int i)] [(.long (i.toInt64)), (.long ((p1 - p0).toInt64)), (.int p0), (.int i), (.ref a)])) _
      refine XS.lmul X0.here hx rfl (hb hby own_d3_30) rfl ?_
      show Steps p.tables e below (T0.setTop (mkF m 31 #[.val (.int p0), .val (.int p1), .val (.int p2), .val (.ref a), .val (.int i)] [(.long (((p1 - p0).toInt64) * (i.toInt64))), (.int p0), (.int i), (.ref a)])) _
      refine XS.iloadN X0.here hx rfl (hb hby own_d3_31) rfl ?_
      show Steps p.tables e below (T0.setTop (mkF m 32 #[.val (.int p0), .val (.int p1), .val (.int p2), .val (.ref a), .val (.int i)] [(.int p2), (.long (((p1 - p0).toInt64) * (i.toInt64))), (.int p0), (.int i), (.ref a)])) _
      refine XS.i2l X0.here hx rfl (hb hby own_d3_32) rfl ?_
      show Steps p.tables e below (T0.setTop (mkF m 33 #[.val (.int p0), .val (.int p1), .val (.int p2), .val (.ref a), .val (.int i)] [(.long (p2.toInt64)), (.long (((p1 - p0).toInt64) * (i.toInt64))), (.int p0), (.int i), (.ref a)])) _
      refine XS.ldiv X0.here hx rfl (hb hby own_d3_33) rfl (own_nz64 p2 hp1) ?_
      show Steps p.tables e below (T0.setTop (mkF m 34 #[.val (.int p0), .val (.int p1), .val (.int p2), .val (.ref a), .val (.int i)] [(.long ((((p1 - p0).toInt64) * (i.toInt64)) / (p2.toInt64))), (.int p0), (.int i), (.ref a)])) _
      refine XS.l2i X0.here hx rfl (hb hby own_d3_34) rfl ?_
      show Steps p.tables e below (T0.setTop (mkF m 35 #[.val (.int p0), .val (.int p1), .val (.int p2), .val (.ref a), .val (.int i)] [(.int (((((p1 - p0).toInt64) * (i.toInt64)) / (p2.toInt64)).toInt32)), (.int p0), (.int i), (.ref a)])) _
      refine XS.iadd X0.here hx rfl (hb hby own_d3_35) rfl ?_
      show Steps p.tables e below (T0.setTop (mkF m 36 #[.val (.int p0), .val (.int p1), .val (.int p2), .val (.ref a), .val (.int i)] [(.int (p0 + (((((p1 - p0).toInt64) * (i.toInt64)) / (p2.toInt64)).toInt32))), (.int i), (.ref a)])) _
      refine st2 _ ?_
      show Steps p.tables e below (T2.setTop (mkF m 37 #[.val (.int p0), .val (.int p1), .val (.int p2), .val (.ref a), .val (.int i)] [])) _
      refine XS.iinc X2.here hx rfl (hb hby own_d3_37) rfl (l' := #[.val (.int p0), .val (.int p1), .val (.int p2), .val (.ref a), .val (.int (i + (1 : Int32)))]) rfl ?_
      show Steps p.tables e below (T2.setTop (mkF m 40 #[.val (.int p0), .val (.int p1), .val (.int p2), .val (.ref a), .val (.int (i + (1 : Int32)))] [])) _
      refine XS.goto X2.here hx rfl (pc0 := 40) (pc' := 13) rfl (hb hby own_d3_40) (by decide) (by decide) ?_
      show Steps p.tables e below (T2.setTop (mkF m 13 #[.val (.int p0), .val (.int p1), .val (.int p2), .val (.ref a), .val (.int (i + (1 : Int32)))] [])) _
      exact q)
    obtain ⟨T', locs', h', g', i', X', e', N', K', V', hg', kI⟩ := ih _ _ _ _ (i + (1 : Int32)) X2 e2 N2 V2 (by omega) (by omega) (fun j q1 q2 => by
      by_cases u : j.toNatClampNeg = i.toNatClampNeg
      · have := own_nat (by omega) q1 u
        subst this
        simp only [if_true]
        rw [own_f, if_neg (fun z => by rw [z] at h1; exact absurd h1 (by decide))]
      · simp only [u, if_false]
        refine hg j q1 ?_
        have : j ≠ i := fun z => u (by rw [z])
        rw [Ne, ← Int32.toInt_inj] at this
        omega)
    exact ⟨T', locs', h', g', i', X', e', N', (Keep.of_wr W2).trans K' (fun x hx => Or.inl hx), V', hg', fun t q => k3 t (kI t q)⟩
theorem own_pn3 : plainName "com/example/vetted_traces/vettedtraces/engine/Parts" = true := by first | (simp [plainName, overriddenIn]; done) | decide +kernel
theorem own_ef3 (m : MethodId) (x0 : Int32) (x1 : Int32) (x2 : Int32) : entryFrame m #[(.int x0), (.int x1), (.int x2)] 5 = mkF m 0 #[.val (.int x0), .val (.int x1), .val (.int x2), .unset, .unset] [] := by first | (simp [entryFrame, mkF, argsToLocals, Value.category]; done) | rfl
def Q3 (Z : State) (p0 : Int32) (p1 : Int32) (p2 : Int32) (h0 : Heap) (n0 : Nat) (v : Option Value) (h : Heap) (L : List Loc) : Prop := ∃ (b : Addr) (g : Nat → Int32), v = some (.ref b) ∧ Fr n0 L ∧ Keep h0 h [] ∧ n0 ≤ b ∧ own_B Z h b (p2 + (1 : Int32)) g ∧ (∀ j : Int32, 0 ≤ j.toInt → j.toInt ≤ p2.toInt → g j.toNatClampNeg = own_f p0 p1 p2 j)
set_option maxRecDepth 65536 in
set_option maxHeartbeats 40000000 in
theorem rm3 (l : Launch) (Z : State) (a0 : Array Value) (hw : ∀ d ∈ tables_1, d.before a0 Z = true) (ws : List Jvm.Cond) (p0 : Int32) (p1 : Int32) (p2 : Int32) (h0 : Heap) (n0 : Nat) (Z0 : n0 ≤ h0.size) (h0_ : 0 ≤ p2.toInt) (h8_ : p2.toInt ≤ 8) :
    MetFree l (⟨"com/example/vetted_traces/vettedtraces/engine/Parts", "bounds", "(III)[I"⟩ : MethodName) (head1 (Jvm.Cond.code (⟨"com/example/vetted_traces/vettedtraces/engine/Parts", "bounds", "(III)[I"⟩ : MethodName) prog_24_method_3_code 5 (some (.array .int)) :: ws) ({ frames := 0, cells := 1, slots := 9, locals := 0 } : Room)) (fun a U => a = #[(.int p0), (.int p1), (.int p2)] ∧ Z.Warmed39 U.vm ∧ U.heap = h0) (fun _ _ _ _ _ => True) (fun _ U o U' => ∃ v L, o = .returned v ∧ Q3 Z p0 p1 p2 h0 n0 v U'.heap L ∧ FrameEnd U o U' L ({ frames := 0, cells := 1, slots := 9, locals := 0 } : Room).cells ({ frames := 0, cells := 1, slots := 9, locals := 0 } : Room).slots) := by
  refine MetFree.of_bodySF (plainFor_of_name own_pn3) hisR ?_
  intro p e s m args below meth c s₁ Bd hml0 hP hK
  obtain ⟨rfl, hZ, hh⟩ := hP
  have hx := Bd.exec
  have hby := Bd.bytes
  have hml : c.maxLocals = 5 := hml0
  have hown : s.vm.findClass "com/example/vetted_traces/vettedtraces/engine/Parts" = some m.cls := findClass_of_methodNamed Bd.named
  have hnm := (name_of_methodNamed Bd.named Bd.method).1
  have X0 : Stand p l e ({ frames := 0, cells := 1, slots := 9, locals := 0 } : Room) s m #[(.int p0), (.int p1), (.int p2)] below meth c s₁ [] 0 0 := Stand.of_body Bd
  have e0 : s₁.heap = h0 := by rw [← hh, Bd.state]; rfl
  have N0 := Fr.nil n0
  have k0 : own_To p e below s₁ (mkF m 0 #[.val (.int p0), .val (.int p1), .val (.int p2), .unset, .unset] []) s₁ (entryFrame m #[(.int p0), (.int p1), (.int p2)] 5) := fun t k => castTop (own_ef3 m p0 p1 p2) k
  have ki : own_To p e below s₁ (mkF m 0 #[.val (.int p0), .val (.int p1), .val (.int p2), .unset, .unset] []) s₁ (mkF m 0 #[.val (.int p0), .val (.int p1), .val (.int p2), .unset, .unset] []) := fun t q => q
  have hz := own_inc p2 h0_ (by omega)
  have hneg : ¬ (p2 + (1 : Int32)) < 0 := by rw [Int32.lt_iff_toInt_lt, show (0 : Int32).toInt = 0 from rfl]; omega
  have hcap : ((p2 + (1 : Int32))).toNatClampNeg ≤ 9 := by rw [Int32.toNatClampNeg]; omega
  obtain ⟨T1, h1, kk1, X1, e1, E1, A1, st1⟩ := newP X0 hx hZ (hw _ (List.mem_of_getElem? (i := 12) rfl)) e0 (g := (mkF m 3 #[.val (.int p0), .val (.int p1), .val (.int p2), .unset, .unset] [(.int (p2 + (1 : Int32)))])) rfl (hb hby own_d3_3) rfl hneg (cap := 9) hcap (by decide) (by decide) (by decide)
  obtain ⟨b1, g1⟩ : ∃ z, z = h0.size := ⟨_, rfl⟩
  rw [← g1] at A1 st1
  have ge_b1 : n0 ≤ b1 := Nat.le_trans Z0 (Nat.le_of_eq g1.symm)
  have K2 : Keep h0 h0 [] := (Keep.refl h0 [])
  have sz_b1 : h0.size ≤ b1 := Nat.le_trans K2.1 (Nat.le_of_eq g1.symm)
  have V1 : Arv Z h1 b1 kk1 .int (p2 + (1 : Int32)) [] (.int (0 : Int32)) := Arv.new A1 hneg
  have VB := own_Bnew V1
  obtain ⟨clr3, Arr3, Sr3, Mr3, Hhr3⟩ := id VB
  have hinr3 : ¬ ((0 : Int32) < 0 ∨ clr3.slots.size ≤ ((0 : Int32)).toNatClampNeg) := inb_of Sr3 ⟨by decide, by rw [Int32.lt_iff_toInt_lt, show (0 : Int32).toInt = 0 from rfl]; omega⟩
  obtain ⟨T4, h4, X4, e4, W4, st4⟩ := stI X1 hx hZ e1 Arr3 (j := (0 : Int32)) hinr3 (g := (mkF m 9 #[.val (.int p0), .val (.int p1), .val (.int p2), .val (.ref b1), .unset] [(.int p0), (.int (0 : Int32)), (.ref b1)])) rfl rfl (hb hby own_d3_9)
  have N4 := Fr.snoc X4 N0 ge_b1
  have V4 := own_Bset Arr3 Sr3 Mr3 Hhr3 W4
  have k5 : own_To p e below T4 (mkF m 13 #[.val (.int p0), .val (.int p1), .val (.int p2), .val (.ref b1), .val (.int (1 : Int32))] []) s₁ (mkF m 0 #[.val (.int p0), .val (.int p1), .val (.int p2), .unset, .unset] []) := fun t q => ki t (by
    refine XS.iloadN X0.here hx rfl (hb hby own_d3_0) rfl ?_
    show Steps p.tables e below (s₁.setTop (mkF m 1 #[.val (.int p0), .val (.int p1), .val (.int p2), .unset, .unset] [(.int p2)])) _
    refine XS.iconst X0.here hx rfl (hb hby own_d3_1) ?_
    show Steps p.tables e below (s₁.setTop (mkF m 2 #[.val (.int p0), .val (.int p1), .val (.int p2), .unset, .unset] [(.int (1 : Int32)), (.int p2)])) _
    refine XS.iadd X0.here hx rfl (hb hby own_d3_2) rfl ?_
    show Steps p.tables e below (s₁.setTop (mkF m 3 #[.val (.int p0), .val (.int p1), .val (.int p2), .unset, .unset] [(.int (p2 + (1 : Int32)))])) _
    refine st1 _ ?_
    show Steps p.tables e below (T1.setTop (mkF m 5 #[.val (.int p0), .val (.int p1), .val (.int p2), .unset, .unset] [(.ref b1)])) _
    refine XS.astoreN X1.here hx rfl (hb hby own_d3_5) rfl rfl (l' := #[.val (.int p0), .val (.int p1), .val (.int p2), .val (.ref b1), .unset]) rfl ?_
    show Steps p.tables e below (T1.setTop (mkF m 6 #[.val (.int p0), .val (.int p1), .val (.int p2), .val (.ref b1), .unset] [])) _
    refine XS.aloadN X1.here hx rfl (hb hby own_d3_6) rfl rfl ?_
    show Steps p.tables e below (T1.setTop (mkF m 7 #[.val (.int p0), .val (.int p1), .val (.int p2), .val (.ref b1), .unset] [(.ref b1)])) _
    refine XS.iconst X1.here hx rfl (hb hby own_d3_7) ?_
    show Steps p.tables e below (T1.setTop (mkF m 8 #[.val (.int p0), .val (.int p1), .val (.int p2), .val (.ref b1), .unset] [(.int (0 : Int32)), (.ref b1)])) _
    refine XS.iloadN X1.here hx rfl (hb hby own_d3_8) rfl ?_
    show Steps p.tables e below (T1.setTop (mkF m 9 #[.val (.int p0), .val (.int p1), .val (.int p2), .val (.ref b1), .unset] [(.int p0), (.int (0 : Int32)), (.ref b1)])) _
    refine st4 _ ?_
    show Steps p.tables e below (T4.setTop (mkF m 10 #[.val (.int p0), .val (.int p1), .val (.int p2), .val (.ref b1), .unset] [])) _
    refine XS.iconst X4.here hx rfl (hb hby own_d3_10) ?_
    show Steps p.tables e below (T4.setTop (mkF m 11 #[.val (.int p0), .val (.int p1), .val (.int p2), .val (.ref b1), .unset] [(.int (1 : Int32))])) _
    refine XS.istore X4.here hx rfl (hb hby own_d3_11) rfl (l' := #[.val (.int p0), .val (.int p1), .val (.int p2), .val (.ref b1), .val (.int (1 : Int32))]) rfl ?_
    show Steps p.tables e below (T4.setTop (mkF m 13 #[.val (.int p0), .val (.int p1), .val (.int p2), .val (.ref b1), .val (.int (1 : Int32))] [])) _
    exact q)
  have K6 : Keep h0 h4 [] := ((K2.ext E1).wr W4 (Or.inr sz_b1))
  obtain ⟨T', locs', h', g', i', X', e', N', K', V', hg', kI⟩ := own_loop (a0 := a0) hx hZ hw hby hml hown n0 p0 p1 p2 b1 ge_b1 h8_ p2.toInt.toNat _ _ _ _ (1 : Int32) X4 e4 N4 V4 (by decide) (by rw [show (1 : Int32).toInt = 1 from rfl]; omega) (fun j q1 q2 => by
    have : j = 0 := by apply Int32.toInt_inj.mp; rw [show (1 : Int32).toInt = 1 from rfl] at q2; rw [show (0 : Int32).toInt = 0 from rfl]; omega
    subst this; rfl)
  have kM : own_To p e below T' (mkF m 43 #[.val (.int p0), .val (.int p1), .val (.int p2), .val (.ref b1), .val (.int i')] []) s₁ (mkF m 0 #[.val (.int p0), .val (.int p1), .val (.int p2), .unset, .unset] []) := fun t q => k5 t (kI t q)
  have K7 : Keep h0 h' [] := (K6.trans K' (allS (P := fun x => x ∈ ([] : List Addr) ∨ h0.size ≤ x) (Or.inr sz_b1) all0))
  have k8 : own_To p e below T' (mkF m 44 #[.val (.int p0), .val (.int p1), .val (.int p2), .val (.ref b1), .val (.int i')] [(.ref b1)]) s₁ (mkF m 0 #[.val (.int p0), .val (.int p1), .val (.int p2), .unset, .unset] []) := fun t q => kM t (by
    refine XS.aloadN X'.here hx rfl (hb hby own_d3_43) rfl rfl ?_
    show Steps p.tables e below (T'.setTop (mkF m 44 #[.val (.int p0), .val (.int p1), .val (.int p2), .val (.ref b1), .val (.int i')] [(.ref b1)])) _
    exact q)
  obtain ⟨fs, hr, hrun, hended, hW, hsame⟩ := X'.leave (v := some (.ref b1)) (fun h => by rw [Bd.returns] at h; cases h)
  refine ⟨_, _, k0 _ (k8 _ ?_), hrun, hended, _, _, rfl, ?_, ⟨_, rfl⟩, hW, hsame.mono (by decide) (by decide)⟩
  · show Steps p.tables e below (T'.setTop (mkF m 44 #[.val (.int p0), .val (.int p1), .val (.int p2), .val (.ref b1), .val (.int i')] [(.ref b1)])) _
    exact retOut X' hx Bd.returns rfl (Or.inr (Or.inr (Or.inr (Or.inr ⟨rfl, rfl, rfl⟩)))) (hb hby own_d3_44) hr
  · show Q3 Z p0 p1 p2 h0 n0 _ T'.heap _
    rw [e']
    exact ⟨b1, g', rfl, N', K7, ge_b1, V', hg'⟩
theorem own_mm (a b : Int32) (ha : 0 ≤ a.toInt) (hb : 0 ≤ b.toInt) : 0 ≤ (own_min a b).toInt ∧ (own_min a b).toInt ≤ (own_max a b).toInt := by
  unfold own_min own_max
  simp only [Int32.lt_iff_toInt_lt]
  split <;> split <;> omega
theorem own_mask (x : Int32) : 0 ≤ (x &&& (2147483647 : Int32)).toInt := by
  have := c_mask x 2147483647 31 (by decide) (by decide); omega
theorem own_cnt (x : Int32) : 0 ≤ ((x &&& (2147483647 : Int32)) % (9 : Int32)).toInt ∧ ((x &&& (2147483647 : Int32)) % (9 : Int32)).toInt ≤ 8 := by
  have h := (c_irem (x &&& 2147483647) 9 9 rfl).1 (own_mask x)
  omega
theorem own_k (x c : Int32) (h1 : 0 ≤ c.toInt) (h2 : c.toInt ≤ 8) : (c + (1 : Int32)) ≠ 0 ∧ 0 ≤ ((x &&& (2147483647 : Int32)) % (c + (1 : Int32))).toInt ∧ ((x &&& (2147483647 : Int32)) % (c + (1 : Int32))).toInt ≤ c.toInt := by
  have e := own_inc c h1 (by omega)
  have v := (c_iremV (x &&& 2147483647) (c + 1)).1 (own_mask x) (by omega)
  refine ⟨fun z => ?_, by omega, by omega⟩
  rw [z] at e
  have : (0 : Int32).toInt = 0 := rfl
  omega
/-- the quotient, as whole numbers -/
theorem own_q (lo hi c k : Int32) (h0 : 0 ≤ lo.toInt) (h1 : lo.toInt ≤ hi.toInt) (c1 : 1 ≤ c.toInt) (c8 : c.toInt ≤ 8) (k0 : 0 ≤ k.toInt) (k8 : k.toInt ≤ c.toInt) :
    (own_f lo hi c k).toInt = lo.toInt + ((hi.toInt - lo.toInt) * k.toInt) / c.toInt ∧ 0 ≤ ((hi.toInt - lo.toInt) * k.toInt) / c.toInt ∧ ((hi.toInt - lo.toInt) * k.toInt) / c.toInt ≤ hi.toInt - lo.toInt := by
  have r1 := rng32 lo
  have r2 := rng32 hi
  have d0 : 0 ≤ (hi.toInt - lo.toInt) * k.toInt := Int.mul_nonneg (by omega) k0
  have d1 : (hi.toInt - lo.toInt) * k.toInt ≤ (hi.toInt - lo.toInt) * c.toInt := Int.mul_le_mul_of_nonneg_left k8 (by omega)
  have d2 : (hi.toInt - lo.toInt) * c.toInt / c.toInt = hi.toInt - lo.toInt := Int.mul_ediv_cancel _ (by omega)
  have q1 : ((hi.toInt - lo.toInt) * k.toInt) / c.toInt ≤ hi.toInt - lo.toInt := Int.le_trans (Int.ediv_le_ediv (by omega) d1) (Int.le_of_eq d2)
  have q0 : 0 ≤ ((hi.toInt - lo.toInt) * k.toInt) / c.toInt := Int.ediv_nonneg d0 (by omega)
  refine ⟨?_, q0, q1⟩
  unfold own_f
  split
  · rename_i e
    subst e
    rw [show (0 : Int32).toInt = 0 from rfl, Int.mul_zero, Int.zero_ediv, Int.add_zero]
  · have s1 : (hi - lo).toInt = hi.toInt - lo.toInt := by
      have a := c_isub hi lo
      have r := rng32 (hi - lo)
      omega
    have m1 : ((hi - lo).toInt64 * k.toInt64).toInt = (hi.toInt - lo.toInt) * k.toInt := by
      have a := c_lmul (hi - lo).toInt64 k.toInt64
      have r := rng64 ((hi - lo).toInt64 * k.toInt64)
      rw [c_i2l, c_i2l, s1] at a
      have b : (hi.toInt - lo.toInt) * c.toInt ≤ (hi.toInt - lo.toInt) * 8 := Int.mul_le_mul_of_nonneg_left c8 (by omega)
      omega
    have v1 := (c_ldiv ((hi - lo).toInt64 * k.toInt64) c.toInt64 c.toInt (c_i2l c) (fun z => by
      have a := c_i2l c
      rw [z] at a
      have : (-1 : Int64).toInt = -1 := rfl
      omega)).1 (by rw [m1]; exact d0)
    rw [m1] at v1
    have n1 := c_l2i (((hi - lo).toInt64 * k.toInt64) / c.toInt64)
    rw [v1] at n1
    have r3 := rng32 (((hi - lo).toInt64 * k.toInt64) / c.toInt64).toInt32
    have a1 := c_iadd lo (((hi - lo).toInt64 * k.toInt64) / c.toInt64).toInt32
    have r4 := rng32 (lo + (((hi - lo).toInt64 * k.toInt64) / c.toInt64).toInt32)
    omega
theorem own_top (lo hi c : Int32) (h0 : 0 ≤ lo.toInt) (h1 : lo.toInt ≤ hi.toInt) (c1 : 1 ≤ c.toInt) (c8 : c.toInt ≤ 8) : own_f lo hi c c = hi := by
  have q := (own_q lo hi c c h0 h1 c1 c8 (by omega) (by omega)).1
  rw [Int.mul_ediv_cancel _ (by omega)] at q
  apply Int32.toInt_inj.mp; omega
theorem own_cmp (lo hi c k : Int32) (h0 : 0 ≤ lo.toInt) (h1 : lo.toInt ≤ hi.toInt) (c1 : 1 ≤ c.toInt) (c8 : c.toInt ≤ 8) (k0 : 0 ≤ k.toInt) (k8 : k.toInt ≤ c.toInt) :
    (¬ ((hi.toInt64 - lo.toInt64) * k.toInt64) < (((own_f lo hi c k).toInt64 - lo.toInt64) * c.toInt64)) ∧ ((hi.toInt64 - lo.toInt64) * k.toInt64) < ((((own_f lo hi c k).toInt64 - lo.toInt64) + (1 : Int64)) * c.toInt64) := by
  obtain ⟨q1, q2, q3⟩ := own_q lo hi c k h0 h1 c1 c8 k0 k8
  have r1 := rng32 lo
  have r2 := rng32 hi
  generalize own_f lo hi c k = f at *
  generalize hQ : ((hi.toInt - lo.toInt) * k.toInt) / c.toInt = Q at *
  have e1 : (hi.toInt64 - lo.toInt64).toInt = hi.toInt - lo.toInt := by
    have a := c_lsub hi.toInt64 lo.toInt64
    have r := rng64 (hi.toInt64 - lo.toInt64)
    rw [c_i2l, c_i2l] at a; omega
  have e2 : (f.toInt64 - lo.toInt64).toInt = Q := by
    have a := c_lsub f.toInt64 lo.toInt64
    have r := rng64 (f.toInt64 - lo.toInt64)
    rw [c_i2l, c_i2l] at a; omega
  have e3 : ((f.toInt64 - lo.toInt64) + (1 : Int64)).toInt = Q + 1 := by
    have a := c_ladd (f.toInt64 - lo.toInt64) 1
    have r := rng64 ((f.toInt64 - lo.toInt64) + 1)
    rw [e2, show (1 : Int64).toInt = 1 from rfl] at a; omega
  have d0 : 0 ≤ (hi.toInt - lo.toInt) * k.toInt := Int.mul_nonneg (by omega) k0
  have d1 : (hi.toInt - lo.toInt) * k.toInt ≤ (hi.toInt - lo.toInt) * 8 := Int.mul_le_mul_of_nonneg_left (by omega) (by omega)
  have m1 : ((hi.toInt64 - lo.toInt64) * k.toInt64).toInt = (hi.toInt - lo.toInt) * k.toInt := by
    have a := c_lmul (hi.toInt64 - lo.toInt64) k.toInt64
    have r := rng64 ((hi.toInt64 - lo.toInt64) * k.toInt64)
    rw [e1, c_i2l] at a; omega
  have b0 : 0 ≤ Q * c.toInt := Int.mul_nonneg q2 (by omega)
  have b1 : Q * c.toInt ≤ Q * 8 := Int.mul_le_mul_of_nonneg_left c8 q2
  have m2 : ((f.toInt64 - lo.toInt64) * c.toInt64).toInt = Q * c.toInt := by
    have a := c_lmul (f.toInt64 - lo.toInt64) c.toInt64
    have r := rng64 ((f.toInt64 - lo.toInt64) * c.toInt64)
    rw [e2, c_i2l] at a; omega
  have b2 : (Q + 1) * c.toInt = Q * c.toInt + c.toInt := by rw [Int.add_mul, Int.one_mul]
  have m3 : (((f.toInt64 - lo.toInt64) + (1 : Int64)) * c.toInt64).toInt = (Q + 1) * c.toInt := by
    have a := c_lmul ((f.toInt64 - lo.toInt64) + (1 : Int64)) c.toInt64
    have r := rng64 (((f.toInt64 - lo.toInt64) + (1 : Int64)) * c.toInt64)
    rw [e3, c_i2l] at a; omega
  have v1 := Int.ediv_mul_le ((hi.toInt - lo.toInt) * k.toInt) (show c.toInt ≠ 0 by omega)
  have v2 := Int.lt_ediv_add_one_mul_self ((hi.toInt - lo.toInt) * k.toInt) (show 0 < c.toInt by omega)
  rw [hQ] at v1 v2
  rw [Int64.lt_iff_toInt_lt, Int64.lt_iff_toInt_lt, m1, m2, m3]
  exact ⟨by omega, v2⟩
theorem own_pd0 : parseMethodDescriptor "(II)I" = some ⟨[.int, .int], some .int⟩ := by decide +kernel
theorem own_pd1 : parseMethodDescriptor "(III)[I" = some ⟨[.int, .int, .int], some (.array .int)⟩ := by decide +kernel
theorem own_pn0 : plainName "com/example/vetted_traces/vettedtraces/engine/PartsBoundsPinLaw" = true := by first | (simp [plainName, overriddenIn]; done) | decide +kernel
theorem own_ef0 (m : MethodId) (x0 : Int32) (x1 : Int32) (x2 : Int32) (x3 : Int32) : entryFrame m #[(.int x0), (.int x1), (.int x2), (.int x3)] maxLocals = mkF m 0 #[.val (.int x0), .val (.int x1), .val (.int x2), .val (.int x3), .unset, .unset, .unset, .unset, .unset, .unset, .unset, .unset, .unset, .unset, .unset, .unset, .unset] [] := by first | (simp [entryFrame, mkF, argsToLocals, Value.category, maxLocals]; done) | rfl
def Q0 (Z : State) (p0 : Int32) (p1 : Int32) (p2 : Int32) (p3 : Int32) (h0 : Heap) (n0 : Nat) (v : Option Value) (h : Heap) (L : List Loc) : Prop := v = some (.int 1) ∧ Fr n0 L
set_option maxRecDepth 65536 in
set_option maxHeartbeats 40000000 in
theorem rm0 (l : Launch) (Z : State) (a0 : Array Value) (hw : ∀ d ∈ tables_1, d.before a0 Z = true) (ws : List Jvm.Cond) (p0 : Int32) (p1 : Int32) (p2 : Int32) (p3 : Int32) (h0 : Heap) (n0 : Nat) (Z0 : n0 ≤ h0.size) :
    MetFree l x (head1 (Jvm.Cond.code x code maxLocals ret :: ws) room_1) (fun a U => a = #[(.int p0), (.int p1), (.int p2), (.int p3)] ∧ Z.Warmed39 U.vm ∧ U.heap = h0) (fun _ _ _ _ _ => True) (fun _ U o U' => ∃ v L, o = .returned v ∧ Q0 Z p0 p1 p2 p3 h0 n0 v U'.heap L ∧ FrameEnd U o U' L 16 128) := by
  refine MetFree.of_bodySF (plainFor_of_name own_pn0) hisR ?_
  intro p e s m args below meth c s₁ Bd hml0 hP hK
  obtain ⟨rfl, hZ, hh⟩ := hP
  have hx := Bd.exec
  have hby := Bd.bytes
  have hml : c.maxLocals = 17 := hml0
  have hown : s.vm.findClass "com/example/vetted_traces/vettedtraces/engine/PartsBoundsPinLaw" = some m.cls := findClass_of_methodNamed Bd.named
  have hnm := (name_of_methodNamed Bd.named Bd.method).1
  have X0 : Stand p l e room_1 s m #[(.int p0), (.int p1), (.int p2), (.int p3)] below meth c s₁ [] 0 0 := Stand.of_body Bd
  have e0 : s₁.heap = h0 := by rw [← hh, Bd.state]; rfl
  have N0 := Fr.nil n0
  have k0 : own_To p e below s₁ (mkF m 0 #[.val (.int p0), .val (.int p1), .val (.int p2), .val (.int p3), .unset, .unset, .unset, .unset, .unset, .unset, .unset, .unset, .unset, .unset, .unset, .unset, .unset] []) s₁ (entryFrame m #[(.int p0), (.int p1), (.int p2), (.int p3)] maxLocals) := fun t k => castTop (own_ef0 m p0 p1 p2 p3) k
  have ki : own_To p e below s₁ (mkF m 0 #[.val (.int p0), .val (.int p1), .val (.int p2), .val (.int p3), .unset, .unset, .unset, .unset, .unset, .unset, .unset, .unset, .unset, .unset, .unset, .unset, .unset] []) s₁ (mkF m 0 #[.val (.int p0), .val (.int p1), .val (.int p2), .val (.int p3), .unset, .unset, .unset, .unset, .unset, .unset, .unset, .unset, .unset, .unset, .unset, .unset, .unset] []) := fun t q => q
  obtain ⟨hc0, hc8⟩ := own_cnt p2
  obtain ⟨hnz, hk0, hk8⟩ := own_k p3 ((p2 &&& (2147483647 : Int32)) % (9 : Int32)) hc0 hc8
  obtain ⟨hl0, hlh⟩ := own_mm (p0 &&& (2147483647 : Int32)) (p1 &&& (2147483647 : Int32)) (own_mask p0) (own_mask p1)
  have hz := own_inc ((p2 &&& (2147483647 : Int32)) % (9 : Int32)) hc0 (by omega)
  obtain ⟨_, _, ⟨T1, L1, kk1, n1⟩, -, X1, ⟨Lc1, hQ1, l1, y1, z1⟩, st1⟩ := Jvm.LawKit.callS X0 hx (y := (⟨"java/lang/Math", "min", "(II)I"⟩ : MethodName)) hown (mvT hZ (hw _ (List.mem_of_getElem? (i := 1) rfl))) (mvT hZ (hw _ (List.mem_of_getElem? (i := 2) rfl))) (mvT hZ (hw _ (List.mem_of_getElem? (i := 3) rfl))) (mvT hZ (hw _ (List.mem_of_getElem? (i := 4) rfl))) (by decide) (backOf (W := 0) (rm1 l Z a0 hw [] (p0 &&& (2147483647 : Int32)) (p1 &&& (2147483647 : Int32)) h0 n0 Z0) hZ (hw _ (List.mem_of_getElem? (i := 4) rfl)) (hw _ (List.mem_of_getElem? (i := 3) rfl)) (by decide) (by decide)) (g := (mkF m 16 #[.val (.int p0), .val (.int p1), .val (.int p2), .val (.int p3), .val (.int (p0 &&& (2147483647 : Int32))), .val (.int (p1 &&& (2147483647 : Int32))), .unset, .unset, .unset, .unset, .unset, .unset, .unset, .unset, .unset, .unset, .unset] [(.int (p1 &&& (2147483647 : Int32))), (.int (p0 &&& (2147483647 : Int32)))])) rfl (by rw [hml]; rfl) (argsL := [(.int (p0 &&& (2147483647 : Int32))), (.int (p1 &&& (2147483647 : Int32)))]) (rest := []) (lenOf own_pd0 rfl) rfl (by show 2 * 0 + _ ≤ _; exact Nat.le_of_eq rfl) (hb hby at_16) (fun _ _ => ⟨rfl, e0, (by decide : 0 + 0 ≤ _), (by decide : 0 + 0 ≤ _)⟩)
  dsimp only [Pt.U, Pt.locs, Pt.cells, Pt.slots] at X1 l1 y1 z1 st1 hQ1
  subst l1 y1 z1
  obtain ⟨rfl, N1q, e1⟩ := hQ1
  have N1 := Fr.app N0 N1q
  obtain ⟨_, _, ⟨T2, L2, kk2, n2⟩, -, X2, ⟨Lc2, hQ2, l2, y2, z2⟩, st2⟩ := Jvm.LawKit.callS X1 hx (y := (⟨"java/lang/Math", "max", "(II)I"⟩ : MethodName)) hown (mvT hZ (hw _ (List.mem_of_getElem? (i := 5) rfl))) (mvT hZ (hw _ (List.mem_of_getElem? (i := 6) rfl))) (mvT hZ (hw _ (List.mem_of_getElem? (i := 3) rfl))) (mvT hZ (hw _ (List.mem_of_getElem? (i := 7) rfl))) (by decide) (backOf (W := 0) (rm2 l Z a0 hw [] (p0 &&& (2147483647 : Int32)) (p1 &&& (2147483647 : Int32)) h0 n0 Z0) hZ (hw _ (List.mem_of_getElem? (i := 7) rfl)) (hw _ (List.mem_of_getElem? (i := 3) rfl)) (by decide) (by decide)) (g := (mkF m 25 #[.val (.int p0), .val (.int p1), .val (.int p2), .val (.int p3), .val (.int (p0 &&& (2147483647 : Int32))), .val (.int (p1 &&& (2147483647 : Int32))), .val (.int (own_min (p0 &&& (2147483647 : Int32)) (p1 &&& (2147483647 : Int32)))), .unset, .unset, .unset, .unset, .unset, .unset, .unset, .unset, .unset, .unset] [(.int (p1 &&& (2147483647 : Int32))), (.int (p0 &&& (2147483647 : Int32)))])) rfl (by rw [hml]; rfl) (argsL := [(.int (p0 &&& (2147483647 : Int32))), (.int (p1 &&& (2147483647 : Int32)))]) (rest := []) (lenOf own_pd0 rfl) rfl (by show 2 * 0 + _ ≤ _; exact Nat.le_of_eq rfl) (hb hby at_25) (fun _ _ => ⟨rfl, e1, (by decide : 0 + 0 ≤ _), (by decide : 0 + 0 ≤ _)⟩)
  dsimp only [Pt.U, Pt.locs, Pt.cells, Pt.slots] at X2 l2 y2 z2 st2 hQ2
  subst l2 y2 z2
  obtain ⟨rfl, N2q, e2⟩ := hQ2
  have N2 := Fr.app N1 N2q
  obtain ⟨_, _, ⟨T3, L3, kk3, n3⟩, -, X3, ⟨Lc3, hQ3, l3, y3, z3⟩, st3⟩ := Jvm.LawKit.callS X2 hx (y := (⟨"com/example/vetted_traces/vettedtraces/engine/Parts", "bounds", "(III)[I"⟩ : MethodName)) hown (mvT hZ (hw _ (List.mem_of_getElem? (i := 8) rfl))) (mvT hZ (hw _ (List.mem_of_getElem? (i := 9) rfl))) (mvT hZ (hw _ (List.mem_of_getElem? (i := 10) rfl))) (mvT hZ (hw _ (List.mem_of_getElem? (i := 11) rfl))) (by decide) (backOf (W := 0) (rm3 l Z a0 hw [] (own_min (p0 &&& (2147483647 : Int32)) (p1 &&& (2147483647 : Int32))) (own_max (p0 &&& (2147483647 : Int32)) (p1 &&& (2147483647 : Int32))) ((p2 &&& (2147483647 : Int32)) % (9 : Int32)) h0 n0 Z0 hc0 hc8) hZ (hw _ (List.mem_of_getElem? (i := 11) rfl)) (hw _ (List.mem_of_getElem? (i := 10) rfl)) (by decide) (by decide)) (g := (mkF m 56 #[.val (.int p0), .val (.int p1), .val (.int p2), .val (.int p3), .val (.int (p0 &&& (2147483647 : Int32))), .val (.int (p1 &&& (2147483647 : Int32))), .val (.int (own_min (p0 &&& (2147483647 : Int32)) (p1 &&& (2147483647 : Int32)))), .val (.int (own_max (p0 &&& (2147483647 : Int32)) (p1 &&& (2147483647 : Int32)))), .val (.int ((p2 &&& (2147483647 : Int32)) % (9 : Int32))), .val (.int ((p3 &&& (2147483647 : Int32)) % (((p2 &&& (2147483647 : Int32)) % (9 : Int32)) + (1 : Int32)))), .unset, .unset, .unset, .unset, .unset, .unset, .unset] [(.int ((p2 &&& (2147483647 : Int32)) % (9 : Int32))), (.int (own_max (p0 &&& (2147483647 : Int32)) (p1 &&& (2147483647 : Int32)))), (.int (own_min (p0 &&& (2147483647 : Int32)) (p1 &&& (2147483647 : Int32))))])) rfl (by rw [hml]; rfl) (argsL := [(.int (own_min (p0 &&& (2147483647 : Int32)) (p1 &&& (2147483647 : Int32)))), (.int (own_max (p0 &&& (2147483647 : Int32)) (p1 &&& (2147483647 : Int32)))), (.int ((p2 &&& (2147483647 : Int32)) % (9 : Int32)))]) (rest := []) (lenOf own_pd1 rfl) rfl (by show 2 * 0 + _ ≤ _; exact Nat.le_of_eq rfl) (hb hby at_56) (fun _ _ => ⟨rfl, e2, (by decide : 0 + 1 ≤ _), (by decide : 0 + 9 ≤ _)⟩)
  dsimp only [Pt.U, Pt.locs, Pt.cells, Pt.slots] at X3 l3 y3 z3 st3 hQ3
  subst l3 y3 z3
  obtain ⟨r3, g3, rfl, N3q, K3, ge_r3, V3, hg3⟩ := hQ3
  have N3 := Fr.app N2 N3q
  obtain ⟨clr4, Arr4, Sr4, Mr4, Hhr4⟩ := id V3
  obtain ⟨clr5, Arr5, Sr5, Mr5, Hhr5⟩ := id V3
  have hinr5 : ¬ ((0 : Int32) < 0 ∨ clr5.slots.size ≤ ((0 : Int32)).toNatClampNeg) := inb_of Sr5 ⟨by decide, by rw [Int32.lt_iff_toInt_lt, hz, show (0 : Int32).toInt = 0 from rfl]; omega⟩
  have hatr5 : clr5.slots[((0 : Int32)).toNatClampNeg]? = some (.int (own_f (own_min (p0 &&& (2147483647 : Int32)) (p1 &&& (2147483647 : Int32))) (own_max (p0 &&& (2147483647 : Int32)) (p1 &&& (2147483647 : Int32))) ((p2 &&& (2147483647 : Int32)) % (9 : Int32)) (0 : Int32))) := by rw [Hhr5 _ (Nat.lt_of_not_le fun y => hinr5 (Or.inr y)), hg3 _ (by decide) (by rw [show (0 : Int32).toInt = 0 from rfl]; omega)]
  have k6 : own_To p e below T3 (mkF m 86 #[.val (.int p0), .val (.int p1), .val (.int p2), .val (.int p3), .val (.int (p0 &&& (2147483647 : Int32))), .val (.int (p1 &&& (2147483647 : Int32))), .val (.int (own_min (p0 &&& (2147483647 : Int32)) (p1 &&& (2147483647 : Int32)))), .val (.int (own_max (p0 &&& (2147483647 : Int32)) (p1 &&& (2147483647 : Int32)))), .val (.int ((p2 &&& (2147483647 : Int32)) % (9 : Int32))), .val (.int ((p3 &&& (2147483647 : Int32)) % (((p2 &&& (2147483647 : Int32)) % (9 : Int32)) + (1 : Int32)))), .val (.ref r3), .unset, .unset, .unset, .unset, .unset, .unset] [(.int ((p2 &&& (2147483647 : Int32)) % (9 : Int32)))]) s₁ (mkF m 0 #[.val (.int p0), .val (.int p1), .val (.int p2), .val (.int p3), .unset, .unset, .unset, .unset, .unset, .unset, .unset, .unset, .unset, .unset, .unset, .unset, .unset] []) := fun t q => ki t (by
    refine XS.iloadN X0.here hx rfl (hb hby at_0) rfl ?_
    show Steps p.tables e below (s₁.setTop (mkF m 1 #[.val (.int p0), .val (.int p1), .val (.int p2), .val (.int p3), .unset, .unset, .unset, .unset, .unset, .unset, .unset, .unset, .unset, .unset, .unset, .unset, .unset] [(.int p0)])) _
    refine X0.ldcInt hx hown (mvT hZ (hw _ (List.mem_of_getElem? (i := 0) rfl))) (g := (mkF m 1 #[.val (.int p0), .val (.int p1), .val (.int p2), .val (.int p3), .unset, .unset, .unset, .unset, .unset, .unset, .unset, .unset, .unset, .unset, .unset, .unset, .unset] [(.int p0)])) rfl (hb hby at_1) _ ?_
    show Steps p.tables e below (s₁.setTop (mkF m 3 #[.val (.int p0), .val (.int p1), .val (.int p2), .val (.int p3), .unset, .unset, .unset, .unset, .unset, .unset, .unset, .unset, .unset, .unset, .unset, .unset, .unset] [(.int (2147483647 : Int32)), (.int p0)])) _
    refine XS.iand X0.here hx rfl (hb hby at_3) rfl ?_
    show Steps p.tables e below (s₁.setTop (mkF m 4 #[.val (.int p0), .val (.int p1), .val (.int p2), .val (.int p3), .unset, .unset, .unset, .unset, .unset, .unset, .unset, .unset, .unset, .unset, .unset, .unset, .unset] [(.int (p0 &&& (2147483647 : Int32)))])) _
    refine XS.istore X0.here hx rfl (hb hby at_4) rfl (l' := #[.val (.int p0), .val (.int p1), .val (.int p2), .val (.int p3), .val (.int (p0 &&& (2147483647 : Int32))), .unset, .unset, .unset, .unset, .unset, .unset, .unset, .unset, .unset, .unset, .unset, .unset]) rfl ?_
    show Steps p.tables e below (s₁.setTop (mkF m 6 #[.val (.int p0), .val (.int p1), .val (.int p2), .val (.int p3), .val (.int (p0 &&& (2147483647 : Int32))), .unset, .unset, .unset, .unset, .unset, .unset, .unset, .unset, .unset, .unset, .unset, .unset] [])) _
    refine XS.iloadN X0.here hx rfl (hb hby at_6) rfl ?_
    show Steps p.tables e below (s₁.setTop (mkF m 7 #[.val (.int p0), .val (.int p1), .val (.int p2), .val (.int p3), .val (.int (p0 &&& (2147483647 : Int32))), .unset, .unset, .unset, .unset, .unset, .unset, .unset, .unset, .unset, .unset, .unset, .unset] [(.int p1)])) _
    refine X0.ldcInt hx hown (mvT hZ (hw _ (List.mem_of_getElem? (i := 0) rfl))) (g := (mkF m 7 #[.val (.int p0), .val (.int p1), .val (.int p2), .val (.int p3), .val (.int (p0 &&& (2147483647 : Int32))), .unset, .unset, .unset, .unset, .unset, .unset, .unset, .unset, .unset, .unset, .unset, .unset] [(.int p1)])) rfl (hb hby at_7) _ ?_
    show Steps p.tables e below (s₁.setTop (mkF m 9 #[.val (.int p0), .val (.int p1), .val (.int p2), .val (.int p3), .val (.int (p0 &&& (2147483647 : Int32))), .unset, .unset, .unset, .unset, .unset, .unset, .unset, .unset, .unset, .unset, .unset, .unset] [(.int (2147483647 : Int32)), (.int p1)])) _
    refine XS.iand X0.here hx rfl (hb hby at_9) rfl ?_
    show Steps p.tables e below (s₁.setTop (mkF m 10 #[.val (.int p0), .val (.int p1), .val (.int p2), .val (.int p3), .val (.int (p0 &&& (2147483647 : Int32))), .unset, .unset, .unset, .unset, .unset, .unset, .unset, .unset, .unset, .unset, .unset, .unset] [(.int (p1 &&& (2147483647 : Int32)))])) _
    refine XS.istore X0.here hx rfl (hb hby at_10) rfl (l' := #[.val (.int p0), .val (.int p1), .val (.int p2), .val (.int p3), .val (.int (p0 &&& (2147483647 : Int32))), .val (.int (p1 &&& (2147483647 : Int32))), .unset, .unset, .unset, .unset, .unset, .unset, .unset, .unset, .unset, .unset, .unset]) rfl ?_
    show Steps p.tables e below (s₁.setTop (mkF m 12 #[.val (.int p0), .val (.int p1), .val (.int p2), .val (.int p3), .val (.int (p0 &&& (2147483647 : Int32))), .val (.int (p1 &&& (2147483647 : Int32))), .unset, .unset, .unset, .unset, .unset, .unset, .unset, .unset, .unset, .unset, .unset] [])) _
    refine XS.iload X0.here hx rfl (hb hby at_12) rfl ?_
    show Steps p.tables e below (s₁.setTop (mkF m 14 #[.val (.int p0), .val (.int p1), .val (.int p2), .val (.int p3), .val (.int (p0 &&& (2147483647 : Int32))), .val (.int (p1 &&& (2147483647 : Int32))), .unset, .unset, .unset, .unset, .unset, .unset, .unset, .unset, .unset, .unset, .unset] [(.int (p0 &&& (2147483647 : Int32)))])) _
    refine XS.iload X0.here hx rfl (hb hby at_14) rfl ?_
    show Steps p.tables e below (s₁.setTop (mkF m 16 #[.val (.int p0), .val (.int p1), .val (.int p2), .val (.int p3), .val (.int (p0 &&& (2147483647 : Int32))), .val (.int (p1 &&& (2147483647 : Int32))), .unset, .unset, .unset, .unset, .unset, .unset, .unset, .unset, .unset, .unset, .unset] [(.int (p1 &&& (2147483647 : Int32))), (.int (p0 &&& (2147483647 : Int32)))])) _
    refine st1 _ ?_
    show Steps p.tables e below (T1.setTop (mkF m 19 #[.val (.int p0), .val (.int p1), .val (.int p2), .val (.int p3), .val (.int (p0 &&& (2147483647 : Int32))), .val (.int (p1 &&& (2147483647 : Int32))), .unset, .unset, .unset, .unset, .unset, .unset, .unset, .unset, .unset, .unset, .unset] [(.int (own_min (p0 &&& (2147483647 : Int32)) (p1 &&& (2147483647 : Int32))))])) _
    refine XS.istore X1.here hx rfl (hb hby at_19) rfl (l' := #[.val (.int p0), .val (.int p1), .val (.int p2), .val (.int p3), .val (.int (p0 &&& (2147483647 : Int32))), .val (.int (p1 &&& (2147483647 : Int32))), .val (.int (own_min (p0 &&& (2147483647 : Int32)) (p1 &&& (2147483647 : Int32)))), .unset, .unset, .unset, .unset, .unset, .unset, .unset, .unset, .unset, .unset]) rfl ?_
    show Steps p.tables e below (T1.setTop (mkF m 21 #[.val (.int p0), .val (.int p1), .val (.int p2), .val (.int p3), .val (.int (p0 &&& (2147483647 : Int32))), .val (.int (p1 &&& (2147483647 : Int32))), .val (.int (own_min (p0 &&& (2147483647 : Int32)) (p1 &&& (2147483647 : Int32)))), .unset, .unset, .unset, .unset, .unset, .unset, .unset, .unset, .unset, .unset] [])) _
    refine XS.iload X1.here hx rfl (hb hby at_21) rfl ?_
    show Steps p.tables e below (T1.setTop (mkF m 23 #[.val (.int p0), .val (.int p1), .val (.int p2), .val (.int p3), .val (.int (p0 &&& (2147483647 : Int32))), .val (.int (p1 &&& (2147483647 : Int32))), .val (.int (own_min (p0 &&& (2147483647 : Int32)) (p1 &&& (2147483647 : Int32)))), .unset, .unset, .unset, .unset, .unset, .unset, .unset, .unset, .unset, .unset] [(.int (p0 &&& (2147483647 : Int32)))])) _
    refine XS.iload X1.here hx rfl (hb hby at_23) rfl ?_
    show Steps p.tables e below (T1.setTop (mkF m 25 #[.val (.int p0), .val (.int p1), .val (.int p2), .val (.int p3), .val (.int (p0 &&& (2147483647 : Int32))), .val (.int (p1 &&& (2147483647 : Int32))), .val (.int (own_min (p0 &&& (2147483647 : Int32)) (p1 &&& (2147483647 : Int32)))), .unset, .unset, .unset, .unset, .unset, .unset, .unset, .unset, .unset, .unset] [(.int (p1 &&& (2147483647 : Int32))), (.int (p0 &&& (2147483647 : Int32)))])) _
    refine st2 _ ?_
    show Steps p.tables e below (T2.setTop (mkF m 28 #[.val (.int p0), .val (.int p1), .val (.int p2), .val (.int p3), .val (.int (p0 &&& (2147483647 : Int32))), .val (.int (p1 &&& (2147483647 : Int32))), .val (.int (own_min (p0 &&& (2147483647 : Int32)) (p1 &&& (2147483647 : Int32)))), .unset, .unset, .unset, .unset, .unset, .unset, .unset, .unset, .unset, .unset] [(.int (own_max (p0 &&& (2147483647 : Int32)) (p1 &&& (2147483647 : Int32))))])) _
    refine XS.istore X2.here hx rfl (hb hby at_28) rfl (l' := #[.val (.int p0), .val (.int p1), .val (.int p2), .val (.int p3), .val (.int (p0 &&& (2147483647 : Int32))), .val (.int (p1 &&& (2147483647 : Int32))), .val (.int (own_min (p0 &&& (2147483647 : Int32)) (p1 &&& (2147483647 : Int32)))), .val (.int (own_max (p0 &&& (2147483647 : Int32)) (p1 &&& (2147483647 : Int32)))), .unset, .unset, .unset, .unset, .unset, .unset, .unset, .unset, .unset]) rfl ?_
    show Steps p.tables e below (T2.setTop (mkF m 30 #[.val (.int p0), .val (.int p1), .val (.int p2), .val (.int p3), .val (.int (p0 &&& (2147483647 : Int32))), .val (.int (p1 &&& (2147483647 : Int32))), .val (.int (own_min (p0 &&& (2147483647 : Int32)) (p1 &&& (2147483647 : Int32)))), .val (.int (own_max (p0 &&& (2147483647 : Int32)) (p1 &&& (2147483647 : Int32)))), .unset, .unset, .unset, .unset, .unset, .unset, .unset, .unset, .unset] [])) _
    refine XS.iloadN X2.here hx rfl (hb hby at_30) rfl ?_
    show Steps p.tables e below (T2.setTop (mkF m 31 #[.val (.int p0), .val (.int p1), .val (.int p2), .val (.int p3), .val (.int (p0 &&& (2147483647 : Int32))), .val (.int (p1 &&& (2147483647 : Int32))), .val (.int (own_min (p0 &&& (2147483647 : Int32)) (p1 &&& (2147483647 : Int32)))), .val (.int (own_max (p0 &&& (2147483647 : Int32)) (p1 &&& (2147483647 : Int32)))), .unset, .unset, .unset, .unset, .unset, .unset, .unset, .unset, .unset] [(.int p2)])) _
    refine X2.ldcInt hx hown (mvT hZ (hw _ (List.mem_of_getElem? (i := 0) rfl))) (g := (mkF m 31 #[.val (.int p0), .val (.int p1), .val (.int p2), .val (.int p3), .val (.int (p0 &&& (2147483647 : Int32))), .val (.int (p1 &&& (2147483647 : Int32))), .val (.int (own_min (p0 &&& (2147483647 : Int32)) (p1 &&& (2147483647 : Int32)))), .val (.int (own_max (p0 &&& (2147483647 : Int32)) (p1 &&& (2147483647 : Int32)))), .unset, .unset, .unset, .unset, .unset, .unset, .unset, .unset, .unset] [(.int p2)])) rfl (hb hby at_31) _ ?_
    show Steps p.tables e below (T2.setTop (mkF m 33 #[.val (.int p0), .val (.int p1), .val (.int p2), .val (.int p3), .val (.int (p0 &&& (2147483647 : Int32))), .val (.int (p1 &&& (2147483647 : Int32))), .val (.int (own_min (p0 &&& (2147483647 : Int32)) (p1 &&& (2147483647 : Int32)))), .val (.int (own_max (p0 &&& (2147483647 : Int32)) (p1 &&& (2147483647 : Int32)))), .unset, .unset, .unset, .unset, .unset, .unset, .unset, .unset, .unset] [(.int (2147483647 : Int32)), (.int p2)])) _
    refine XS.iand X2.here hx rfl (hb hby at_33) rfl ?_
    show Steps p.tables e below (T2.setTop (mkF m 34 #[.val (.int p0), .val (.int p1), .val (.int p2), .val (.int p3), .val (.int (p0 &&& (2147483647 : Int32))), .val (.int (p1 &&& (2147483647 : Int32))), .val (.int (own_min (p0 &&& (2147483647 : Int32)) (p1 &&& (2147483647 : Int32)))), .val (.int (own_max (p0 &&& (2147483647 : Int32)) (p1 &&& (2147483647 : Int32)))), .unset, .unset, .unset, .unset, .unset, .unset, .unset, .unset, .unset] [(.int (p2 &&& (2147483647 : Int32)))])) _
    refine XS.bipush X2.here hx rfl (hb hby at_34) ?_
    show Steps p.tables e below (T2.setTop (mkF m 36 #[.val (.int p0), .val (.int p1), .val (.int p2), .val (.int p3), .val (.int (p0 &&& (2147483647 : Int32))), .val (.int (p1 &&& (2147483647 : Int32))), .val (.int (own_min (p0 &&& (2147483647 : Int32)) (p1 &&& (2147483647 : Int32)))), .val (.int (own_max (p0 &&& (2147483647 : Int32)) (p1 &&& (2147483647 : Int32)))), .unset, .unset, .unset, .unset, .unset, .unset, .unset, .unset, .unset] [(.int (9 : Int32)), (.int (p2 &&& (2147483647 : Int32)))])) _
    refine iremM X2 hx rfl (hb hby at_36) rfl (by decide) ?_
    show Steps p.tables e below (T2.setTop (mkF m 37 #[.val (.int p0), .val (.int p1), .val (.int p2), .val (.int p3), .val (.int (p0 &&& (2147483647 : Int32))), .val (.int (p1 &&& (2147483647 : Int32))), .val (.int (own_min (p0 &&& (2147483647 : Int32)) (p1 &&& (2147483647 : Int32)))), .val (.int (own_max (p0 &&& (2147483647 : Int32)) (p1 &&& (2147483647 : Int32)))), .unset, .unset, .unset, .unset, .unset, .unset, .unset, .unset, .unset] [(.int ((p2 &&& (2147483647 : Int32)) % (9 : Int32)))])) _
    refine XS.istore X2.here hx rfl (hb hby at_37) rfl (l' := #[.val (.int p0), .val (.int p1), .val (.int p2), .val (.int p3), .val (.int (p0 &&& (2147483647 : Int32))), .val (.int (p1 &&& (2147483647 : Int32))), .val (.int (own_min (p0 &&& (2147483647 : Int32)) (p1 &&& (2147483647 : Int32)))), .val (.int (own_max (p0 &&& (2147483647 : Int32)) (p1 &&& (2147483647 : Int32)))), .val (.int ((p2 &&& (2147483647 : Int32)) % (9 : Int32))), .unset, .unset, .unset, .unset, .unset, .unset, .unset, .unset]) rfl ?_
    show Steps p.tables e below (T2.setTop (mkF m 39 #[.val (.int p0), .val (.int p1), .val (.int p2), .val (.int p3), .val (.int (p0 &&& (2147483647 : Int32))), .val (.int (p1 &&& (2147483647 : Int32))), .val (.int (own_min (p0 &&& (2147483647 : Int32)) (p1 &&& (2147483647 : Int32)))), .val (.int (own_max (p0 &&& (2147483647 : Int32)) (p1 &&& (2147483647 : Int32)))), .val (.int ((p2 &&& (2147483647 : Int32)) % (9 : Int32))), .unset, .unset, .unset, .unset, .unset, .unset, .unset, .unset] [])) _
    refine XS.iloadN X2.here hx rfl (hb hby at_39) rfl ?_
    show Steps p.tables e below (T2.setTop (mkF m 40 #[.val (.int p0), .val (.int p1), .val (.int p2), .val (.int p3), .val (.int (p0 &&& (2147483647 : Int32))), .val (.int (p1 &&& (2147483647 : Int32))), .val (.int (own_min (p0 &&& (2147483647 : Int32)) (p1 &&& (2147483647 : Int32)))), .val (.int (own_max (p0 &&& (2147483647 : Int32)) (p1 &&& (2147483647 : Int32)))), .val (.int ((p2 &&& (2147483647 : Int32)) % (9 : Int32))), .unset, .unset, .unset, .unset, .unset, .unset, .unset, .unset] [(.int p3)])) _
    refine X2.ldcInt hx hown (mvT hZ (hw _ (List.mem_of_getElem? (i := 0) rfl))) (g := (mkF m 40 #[.val (.int p0), .val (.int p1), .val (.int p2), .val (.int p3), .val (.int (p0 &&& (2147483647 : Int32))), .val (.int (p1 &&& (2147483647 : Int32))), .val (.int (own_min (p0 &&& (2147483647 : Int32)) (p1 &&& (2147483647 : Int32)))), .val (.int (own_max (p0 &&& (2147483647 : Int32)) (p1 &&& (2147483647 : Int32)))), .val (.int ((p2 &&& (2147483647 : Int32)) % (9 : Int32))), .unset, .unset, .unset, .unset, .unset, .unset, .unset, .unset] [(.int p3)])) rfl (hb hby at_40) _ ?_
    show Steps p.tables e below (T2.setTop (mkF m 42 #[.val (.int p0), .val (.int p1), .val (.int p2), .val (.int p3), .val (.int (p0 &&& (2147483647 : Int32))), .val (.int (p1 &&& (2147483647 : Int32))), .val (.int (own_min (p0 &&& (2147483647 : Int32)) (p1 &&& (2147483647 : Int32)))), .val (.int (own_max (p0 &&& (2147483647 : Int32)) (p1 &&& (2147483647 : Int32)))), .val (.int ((p2 &&& (2147483647 : Int32)) % (9 : Int32))), .unset, .unset, .unset, .unset, .unset, .unset, .unset, .unset] [(.int (2147483647 : Int32)), (.int p3)])) _
    refine XS.iand X2.here hx rfl (hb hby at_42) rfl ?_
    show Steps p.tables e below (T2.setTop (mkF m 43 #[.val (.int p0), .val (.int p1), .val (.int p2), .val (.int p3), .val (.int (p0 &&& (2147483647 : Int32))), .val (.int (p1 &&& (2147483647 : Int32))), .val (.int (own_min (p0 &&& (2147483647 : Int32)) (p1 &&& (2147483647 : Int32)))), .val (.int (own_max (p0 &&& (2147483647 : Int32)) (p1 &&& (2147483647 : Int32)))), .val (.int ((p2 &&& (2147483647 : Int32)) % (9 : Int32))), .unset, .unset, .unset, .unset, .unset, .unset, .unset, .unset] [(.int (p3 &&& (2147483647 : Int32)))])) _
    refine XS.iload X2.here hx rfl (hb hby at_43) rfl ?_
    show Steps p.tables e below (T2.setTop (mkF m 45 #[.val (.int p0), .val (.int p1), .val (.int p2), .val (.int p3), .val (.int (p0 &&& (2147483647 : Int32))), .val (.int (p1 &&& (2147483647 : Int32))), .val (.int (own_min (p0 &&& (2147483647 : Int32)) (p1 &&& (2147483647 : Int32)))), .val (.int (own_max (p0 &&& (2147483647 : Int32)) (p1 &&& (2147483647 : Int32)))), .val (.int ((p2 &&& (2147483647 : Int32)) % (9 : Int32))), .unset, .unset, .unset, .unset, .unset, .unset, .unset, .unset] [(.int ((p2 &&& (2147483647 : Int32)) % (9 : Int32))), (.int (p3 &&& (2147483647 : Int32)))])) _
    refine XS.iconst X2.here hx rfl (hb hby at_45) ?_
    show Steps p.tables e below (T2.setTop (mkF m 46 #[.val (.int p0), .val (.int p1), .val (.int p2), .val (.int p3), .val (.int (p0 &&& (2147483647 : Int32))), .val (.int (p1 &&& (2147483647 : Int32))), .val (.int (own_min (p0 &&& (2147483647 : Int32)) (p1 &&& (2147483647 : Int32)))), .val (.int (own_max (p0 &&& (2147483647 : Int32)) (p1 &&& (2147483647 : Int32)))), .val (.int ((p2 &&& (2147483647 : Int32)) % (9 : Int32))), .unset, .unset, .unset, .unset, .unset, .unset, .unset, .unset] [(.int (1 : Int32)), (.int ((p2 &&& (2147483647 : Int32)) % (9 : Int32))), (.int (p3 &&& (2147483647 : Int32)))])) _
    refine XS.iadd X2.here hx rfl (hb hby at_46) rfl ?_
    show Steps p.tables e below (T2.setTop (mkF m 47 #[.val (.int p0), .val (.int p1), .val (.int p2), .val (.int p3), .val (.int (p0 &&& (2147483647 : Int32))), .val (.int (p1 &&& (2147483647 : Int32))), .val (.int (own_min (p0 &&& (2147483647 : Int32)) (p1 &&& (2147483647 : Int32)))), .val (.int (own_max (p0 &&& (2147483647 : Int32)) (p1 &&& (2147483647 : Int32)))), .val (.int ((p2 &&& (2147483647 : Int32)) % (9 : Int32))), .unset, .unset, .unset, .unset, .unset, .unset, .unset, .unset] [(.int (((p2 &&& (2147483647 : Int32)) % (9 : Int32)) + (1 : Int32))), (.int (p3 &&& (2147483647 : Int32)))])) _
    refine iremM X2 hx rfl (hb hby at_47) rfl hnz ?_
    show Steps p.tables e below (T2.setTop (mkF m 48 #[.val (.int p0), .val (.int p1), .val (.int p2), .val (.int p3), .val (.int (p0 &&& (2147483647 : Int32))), .val (.int (p1 &&& (2147483647 : Int32))), .val (.int (own_min (p0 &&& (2147483647 : Int32)) (p1 &&& (2147483647 : Int32)))), .val (.int (own_max (p0 &&& (2147483647 : Int32)) (p1 &&& (2147483647 : Int32)))), .val (.int ((p2 &&& (2147483647 : Int32)) % (9 : Int32))), .unset, .unset, .unset, .unset, .unset, .unset, .unset, .unset] [(.int ((p3 &&& (2147483647 : Int32)) % (((p2 &&& (2147483647 : Int32)) % (9 : Int32)) + (1 : Int32))))])) _
    refine XS.istore X2.here hx rfl (hb hby at_48) rfl (l' := #[.val (.int p0), .val (.int p1), .val (.int p2), .val (.int p3), .val (.int (p0 &&& (2147483647 : Int32))), .val (.int (p1 &&& (2147483647 : Int32))), .val (.int (own_min (p0 &&& (2147483647 : Int32)) (p1 &&& (2147483647 : Int32)))), .val (.int (own_max (p0 &&& (2147483647 : Int32)) (p1 &&& (2147483647 : Int32)))), .val (.int ((p2 &&& (2147483647 : Int32)) % (9 : Int32))), .val (.int ((p3 &&& (2147483647 : Int32)) % (((p2 &&& (2147483647 : Int32)) % (9 : Int32)) + (1 : Int32)))), .unset, .unset, .unset, .unset, .unset, .unset, .unset]) rfl ?_
    show Steps p.tables e below (T2.setTop (mkF m 50 #[.val (.int p0), .val (.int p1), .val (.int p2), .val (.int p3), .val (.int (p0 &&& (2147483647 : Int32))), .val (.int (p1 &&& (2147483647 : Int32))), .val (.int (own_min (p0 &&& (2147483647 : Int32)) (p1 &&& (2147483647 : Int32)))), .val (.int (own_max (p0 &&& (2147483647 : Int32)) (p1 &&& (2147483647 : Int32)))), .val (.int ((p2 &&& (2147483647 : Int32)) % (9 : Int32))), .val (.int ((p3 &&& (2147483647 : Int32)) % (((p2 &&& (2147483647 : Int32)) % (9 : Int32)) + (1 : Int32)))), .unset, .unset, .unset, .unset, .unset, .unset, .unset] [])) _
    refine XS.iload X2.here hx rfl (hb hby at_50) rfl ?_
    show Steps p.tables e below (T2.setTop (mkF m 52 #[.val (.int p0), .val (.int p1), .val (.int p2), .val (.int p3), .val (.int (p0 &&& (2147483647 : Int32))), .val (.int (p1 &&& (2147483647 : Int32))), .val (.int (own_min (p0 &&& (2147483647 : Int32)) (p1 &&& (2147483647 : Int32)))), .val (.int (own_max (p0 &&& (2147483647 : Int32)) (p1 &&& (2147483647 : Int32)))), .val (.int ((p2 &&& (2147483647 : Int32)) % (9 : Int32))), .val (.int ((p3 &&& (2147483647 : Int32)) % (((p2 &&& (2147483647 : Int32)) % (9 : Int32)) + (1 : Int32)))), .unset, .unset, .unset, .unset, .unset, .unset, .unset] [(.int (own_min (p0 &&& (2147483647 : Int32)) (p1 &&& (2147483647 : Int32))))])) _
    refine XS.iload X2.here hx rfl (hb hby at_52) rfl ?_
    show Steps p.tables e below (T2.setTop (mkF m 54 #[.val (.int p0), .val (.int p1), .val (.int p2), .val (.int p3), .val (.int (p0 &&& (2147483647 : Int32))), .val (.int (p1 &&& (2147483647 : Int32))), .val (.int (own_min (p0 &&& (2147483647 : Int32)) (p1 &&& (2147483647 : Int32)))), .val (.int (own_max (p0 &&& (2147483647 : Int32)) (p1 &&& (2147483647 : Int32)))), .val (.int ((p2 &&& (2147483647 : Int32)) % (9 : Int32))), .val (.int ((p3 &&& (2147483647 : Int32)) % (((p2 &&& (2147483647 : Int32)) % (9 : Int32)) + (1 : Int32)))), .unset, .unset, .unset, .unset, .unset, .unset, .unset] [(.int (own_max (p0 &&& (2147483647 : Int32)) (p1 &&& (2147483647 : Int32)))), (.int (own_min (p0 &&& (2147483647 : Int32)) (p1 &&& (2147483647 : Int32))))])) _
    refine XS.iload X2.here hx rfl (hb hby at_54) rfl ?_
    show Steps p.tables e below (T2.setTop (mkF m 56 #[.val (.int p0), .val (.int p1), .val (.int p2), .val (.int p3), .val (.int (p0 &&& (2147483647 : Int32))), .val (.int (p1 &&& (2147483647 : Int32))), .val (.int (own_min (p0 &&& (2147483647 : Int32)) (p1 &&& (2147483647 : Int32)))), .val (.int (own_max (p0 &&& (2147483647 : Int32)) (p1 &&& (2147483647 : Int32)))), .val (.int ((p2 &&& (2147483647 : Int32)) % (9 : Int32))), .val (.int ((p3 &&& (2147483647 : Int32)) % (((p2 &&& (2147483647 : Int32)) % (9 : Int32)) + (1 : Int32)))), .unset, .unset, .unset, .unset, .unset, .unset, .unset] [(.int ((p2 &&& (2147483647 : Int32)) % (9 : Int32))), (.int (own_max (p0 &&& (2147483647 : Int32)) (p1 &&& (2147483647 : Int32)))), (.int (own_min (p0 &&& (2147483647 : Int32)) (p1 &&& (2147483647 : Int32))))])) _
    refine st3 _ ?_
    show Steps p.tables e below (T3.setTop (mkF m 59 #[.val (.int p0), .val (.int p1), .val (.int p2), .val (.int p3), .val (.int (p0 &&& (2147483647 : Int32))), .val (.int (p1 &&& (2147483647 : Int32))), .val (.int (own_min (p0 &&& (2147483647 : Int32)) (p1 &&& (2147483647 : Int32)))), .val (.int (own_max (p0 &&& (2147483647 : Int32)) (p1 &&& (2147483647 : Int32)))), .val (.int ((p2 &&& (2147483647 : Int32)) % (9 : Int32))), .val (.int ((p3 &&& (2147483647 : Int32)) % (((p2 &&& (2147483647 : Int32)) % (9 : Int32)) + (1 : Int32)))), .unset, .unset, .unset, .unset, .unset, .unset, .unset] [(.ref r3)])) _
    refine XS.astore X3.here hx rfl (hb hby at_59) rfl rfl (l' := #[.val (.int p0), .val (.int p1), .val (.int p2), .val (.int p3), .val (.int (p0 &&& (2147483647 : Int32))), .val (.int (p1 &&& (2147483647 : Int32))), .val (.int (own_min (p0 &&& (2147483647 : Int32)) (p1 &&& (2147483647 : Int32)))), .val (.int (own_max (p0 &&& (2147483647 : Int32)) (p1 &&& (2147483647 : Int32)))), .val (.int ((p2 &&& (2147483647 : Int32)) % (9 : Int32))), .val (.int ((p3 &&& (2147483647 : Int32)) % (((p2 &&& (2147483647 : Int32)) % (9 : Int32)) + (1 : Int32)))), .val (.ref r3), .unset, .unset, .unset, .unset, .unset, .unset]) rfl ?_
    show Steps p.tables e below (T3.setTop (mkF m 61 #[.val (.int p0), .val (.int p1), .val (.int p2), .val (.int p3), .val (.int (p0 &&& (2147483647 : Int32))), .val (.int (p1 &&& (2147483647 : Int32))), .val (.int (own_min (p0 &&& (2147483647 : Int32)) (p1 &&& (2147483647 : Int32)))), .val (.int (own_max (p0 &&& (2147483647 : Int32)) (p1 &&& (2147483647 : Int32)))), .val (.int ((p2 &&& (2147483647 : Int32)) % (9 : Int32))), .val (.int ((p3 &&& (2147483647 : Int32)) % (((p2 &&& (2147483647 : Int32)) % (9 : Int32)) + (1 : Int32)))), .val (.ref r3), .unset, .unset, .unset, .unset, .unset, .unset] [])) _
    refine XS.aload X3.here hx rfl (hb hby at_61) rfl rfl ?_
    show Steps p.tables e below (T3.setTop (mkF m 63 #[.val (.int p0), .val (.int p1), .val (.int p2), .val (.int p3), .val (.int (p0 &&& (2147483647 : Int32))), .val (.int (p1 &&& (2147483647 : Int32))), .val (.int (own_min (p0 &&& (2147483647 : Int32)) (p1 &&& (2147483647 : Int32)))), .val (.int (own_max (p0 &&& (2147483647 : Int32)) (p1 &&& (2147483647 : Int32)))), .val (.int ((p2 &&& (2147483647 : Int32)) % (9 : Int32))), .val (.int ((p3 &&& (2147483647 : Int32)) % (((p2 &&& (2147483647 : Int32)) % (9 : Int32)) + (1 : Int32)))), .val (.ref r3), .unset, .unset, .unset, .unset, .unset, .unset] [(.ref r3)])) _
    refine X3.arraylength hx (by exact Arr4.1) (State.isArrayOf_alike hZ.alike Arr4.2.1) (g := (mkF m 63 #[.val (.int p0), .val (.int p1), .val (.int p2), .val (.int p3), .val (.int (p0 &&& (2147483647 : Int32))), .val (.int (p1 &&& (2147483647 : Int32))), .val (.int (own_min (p0 &&& (2147483647 : Int32)) (p1 &&& (2147483647 : Int32)))), .val (.int (own_max (p0 &&& (2147483647 : Int32)) (p1 &&& (2147483647 : Int32)))), .val (.int ((p2 &&& (2147483647 : Int32)) % (9 : Int32))), .val (.int ((p3 &&& (2147483647 : Int32)) % (((p2 &&& (2147483647 : Int32)) % (9 : Int32)) + (1 : Int32)))), .val (.ref r3), .unset, .unset, .unset, .unset, .unset, .unset] [(.ref r3)])) rfl rfl (hb hby at_63) _ ?_
    rw [len_of Sr4 Mr4]
    show Steps p.tables e below (T3.setTop (mkF m 64 #[.val (.int p0), .val (.int p1), .val (.int p2), .val (.int p3), .val (.int (p0 &&& (2147483647 : Int32))), .val (.int (p1 &&& (2147483647 : Int32))), .val (.int (own_min (p0 &&& (2147483647 : Int32)) (p1 &&& (2147483647 : Int32)))), .val (.int (own_max (p0 &&& (2147483647 : Int32)) (p1 &&& (2147483647 : Int32)))), .val (.int ((p2 &&& (2147483647 : Int32)) % (9 : Int32))), .val (.int ((p3 &&& (2147483647 : Int32)) % (((p2 &&& (2147483647 : Int32)) % (9 : Int32)) + (1 : Int32)))), .val (.ref r3), .unset, .unset, .unset, .unset, .unset, .unset] [(.int (((p2 &&& (2147483647 : Int32)) % (9 : Int32)) + (1 : Int32)))])) _
    refine XS.iload X3.here hx rfl (hb hby at_64) rfl ?_
    show Steps p.tables e below (T3.setTop (mkF m 66 #[.val (.int p0), .val (.int p1), .val (.int p2), .val (.int p3), .val (.int (p0 &&& (2147483647 : Int32))), .val (.int (p1 &&& (2147483647 : Int32))), .val (.int (own_min (p0 &&& (2147483647 : Int32)) (p1 &&& (2147483647 : Int32)))), .val (.int (own_max (p0 &&& (2147483647 : Int32)) (p1 &&& (2147483647 : Int32)))), .val (.int ((p2 &&& (2147483647 : Int32)) % (9 : Int32))), .val (.int ((p3 &&& (2147483647 : Int32)) % (((p2 &&& (2147483647 : Int32)) % (9 : Int32)) + (1 : Int32)))), .val (.ref r3), .unset, .unset, .unset, .unset, .unset, .unset] [(.int ((p2 &&& (2147483647 : Int32)) % (9 : Int32))), (.int (((p2 &&& (2147483647 : Int32)) % (9 : Int32)) + (1 : Int32)))])) _
    refine XS.iconst X3.here hx rfl (hb hby at_66) ?_
    show Steps p.tables e below (T3.setTop (mkF m 67 #[.val (.int p0), .val (.int p1), .val (.int p2), .val (.int p3), .val (.int (p0 &&& (2147483647 : Int32))), .val (.int (p1 &&& (2147483647 : Int32))), .val (.int (own_min (p0 &&& (2147483647 : Int32)) (p1 &&& (2147483647 : Int32)))), .val (.int (own_max (p0 &&& (2147483647 : Int32)) (p1 &&& (2147483647 : Int32)))), .val (.int ((p2 &&& (2147483647 : Int32)) % (9 : Int32))), .val (.int ((p3 &&& (2147483647 : Int32)) % (((p2 &&& (2147483647 : Int32)) % (9 : Int32)) + (1 : Int32)))), .val (.ref r3), .unset, .unset, .unset, .unset, .unset, .unset] [(.int (1 : Int32)), (.int ((p2 &&& (2147483647 : Int32)) % (9 : Int32))), (.int (((p2 &&& (2147483647 : Int32)) % (9 : Int32)) + (1 : Int32)))])) _
    refine XS.iadd X3.here hx rfl (hb hby at_67) rfl ?_
    show Steps p.tables e below (T3.setTop (mkF m 68 #[.val (.int p0), .val (.int p1), .val (.int p2), .val (.int p3), .val (.int (p0 &&& (2147483647 : Int32))), .val (.int (p1 &&& (2147483647 : Int32))), .val (.int (own_min (p0 &&& (2147483647 : Int32)) (p1 &&& (2147483647 : Int32)))), .val (.int (own_max (p0 &&& (2147483647 : Int32)) (p1 &&& (2147483647 : Int32)))), .val (.int ((p2 &&& (2147483647 : Int32)) % (9 : Int32))), .val (.int ((p3 &&& (2147483647 : Int32)) % (((p2 &&& (2147483647 : Int32)) % (9 : Int32)) + (1 : Int32)))), .val (.ref r3), .unset, .unset, .unset, .unset, .unset, .unset] [(.int (((p2 &&& (2147483647 : Int32)) % (9 : Int32)) + (1 : Int32))), (.int (((p2 &&& (2147483647 : Int32)) % (9 : Int32)) + (1 : Int32)))])) _
    refine XS.icmpYes X3.here hx rfl (pc0 := 68) (pc' := 73) rfl (hb hby at_68) rfl (teq rfl).1 (by decide) (by decide) ?_
    show Steps p.tables e below (T3.setTop (mkF m 73 #[.val (.int p0), .val (.int p1), .val (.int p2), .val (.int p3), .val (.int (p0 &&& (2147483647 : Int32))), .val (.int (p1 &&& (2147483647 : Int32))), .val (.int (own_min (p0 &&& (2147483647 : Int32)) (p1 &&& (2147483647 : Int32)))), .val (.int (own_max (p0 &&& (2147483647 : Int32)) (p1 &&& (2147483647 : Int32)))), .val (.int ((p2 &&& (2147483647 : Int32)) % (9 : Int32))), .val (.int ((p3 &&& (2147483647 : Int32)) % (((p2 &&& (2147483647 : Int32)) % (9 : Int32)) + (1 : Int32)))), .val (.ref r3), .unset, .unset, .unset, .unset, .unset, .unset] [])) _
    refine XS.aload X3.here hx rfl (hb hby at_73) rfl rfl ?_
    show Steps p.tables e below (T3.setTop (mkF m 75 #[.val (.int p0), .val (.int p1), .val (.int p2), .val (.int p3), .val (.int (p0 &&& (2147483647 : Int32))), .val (.int (p1 &&& (2147483647 : Int32))), .val (.int (own_min (p0 &&& (2147483647 : Int32)) (p1 &&& (2147483647 : Int32)))), .val (.int (own_max (p0 &&& (2147483647 : Int32)) (p1 &&& (2147483647 : Int32)))), .val (.int ((p2 &&& (2147483647 : Int32)) % (9 : Int32))), .val (.int ((p3 &&& (2147483647 : Int32)) % (((p2 &&& (2147483647 : Int32)) % (9 : Int32)) + (1 : Int32)))), .val (.ref r3), .unset, .unset, .unset, .unset, .unset, .unset] [(.ref r3)])) _
    refine XS.iconst X3.here hx rfl (hb hby at_75) ?_
    show Steps p.tables e below (T3.setTop (mkF m 76 #[.val (.int p0), .val (.int p1), .val (.int p2), .val (.int p3), .val (.int (p0 &&& (2147483647 : Int32))), .val (.int (p1 &&& (2147483647 : Int32))), .val (.int (own_min (p0 &&& (2147483647 : Int32)) (p1 &&& (2147483647 : Int32)))), .val (.int (own_max (p0 &&& (2147483647 : Int32)) (p1 &&& (2147483647 : Int32)))), .val (.int ((p2 &&& (2147483647 : Int32)) % (9 : Int32))), .val (.int ((p3 &&& (2147483647 : Int32)) % (((p2 &&& (2147483647 : Int32)) % (9 : Int32)) + (1 : Int32)))), .val (.ref r3), .unset, .unset, .unset, .unset, .unset, .unset] [(.int (0 : Int32)), (.ref r3)])) _
    refine X3.iaload hx (j := (0 : Int32)) (v := (.int (own_f (own_min (p0 &&& (2147483647 : Int32)) (p1 &&& (2147483647 : Int32))) (own_max (p0 &&& (2147483647 : Int32)) (p1 &&& (2147483647 : Int32))) ((p2 &&& (2147483647 : Int32)) % (9 : Int32)) (0 : Int32)))) (by exact Arr5.1) (State.isArrayOf_alike hZ.alike Arr5.2.1) Arr5.2.2 hinr5 hatr5 (g := (mkF m 76 #[.val (.int p0), .val (.int p1), .val (.int p2), .val (.int p3), .val (.int (p0 &&& (2147483647 : Int32))), .val (.int (p1 &&& (2147483647 : Int32))), .val (.int (own_min (p0 &&& (2147483647 : Int32)) (p1 &&& (2147483647 : Int32)))), .val (.int (own_max (p0 &&& (2147483647 : Int32)) (p1 &&& (2147483647 : Int32)))), .val (.int ((p2 &&& (2147483647 : Int32)) % (9 : Int32))), .val (.int ((p3 &&& (2147483647 : Int32)) % (((p2 &&& (2147483647 : Int32)) % (9 : Int32)) + (1 : Int32)))), .val (.ref r3), .unset, .unset, .unset, .unset, .unset, .unset] [(.int (0 : Int32)), (.ref r3)])) rfl rfl (hb hby at_76) _ ?_
    show Steps p.tables e below (T3.setTop (mkF m 77 #[.val (.int p0), .val (.int p1), .val (.int p2), .val (.int p3), .val (.int (p0 &&& (2147483647 : Int32))), .val (.int (p1 &&& (2147483647 : Int32))), .val (.int (own_min (p0 &&& (2147483647 : Int32)) (p1 &&& (2147483647 : Int32)))), .val (.int (own_max (p0 &&& (2147483647 : Int32)) (p1 &&& (2147483647 : Int32)))), .val (.int ((p2 &&& (2147483647 : Int32)) % (9 : Int32))), .val (.int ((p3 &&& (2147483647 : Int32)) % (((p2 &&& (2147483647 : Int32)) % (9 : Int32)) + (1 : Int32)))), .val (.ref r3), .unset, .unset, .unset, .unset, .unset, .unset] [(.int (own_f (own_min (p0 &&& (2147483647 : Int32)) (p1 &&& (2147483647 : Int32))) (own_max (p0 &&& (2147483647 : Int32)) (p1 &&& (2147483647 : Int32))) ((p2 &&& (2147483647 : Int32)) % (9 : Int32)) (0 : Int32)))])) _
    refine XS.iload X3.here hx rfl (hb hby at_77) rfl ?_
    show Steps p.tables e below (T3.setTop (mkF m 79 #[.val (.int p0), .val (.int p1), .val (.int p2), .val (.int p3), .val (.int (p0 &&& (2147483647 : Int32))), .val (.int (p1 &&& (2147483647 : Int32))), .val (.int (own_min (p0 &&& (2147483647 : Int32)) (p1 &&& (2147483647 : Int32)))), .val (.int (own_max (p0 &&& (2147483647 : Int32)) (p1 &&& (2147483647 : Int32)))), .val (.int ((p2 &&& (2147483647 : Int32)) % (9 : Int32))), .val (.int ((p3 &&& (2147483647 : Int32)) % (((p2 &&& (2147483647 : Int32)) % (9 : Int32)) + (1 : Int32)))), .val (.ref r3), .unset, .unset, .unset, .unset, .unset, .unset] [(.int (own_min (p0 &&& (2147483647 : Int32)) (p1 &&& (2147483647 : Int32)))), (.int (own_f (own_min (p0 &&& (2147483647 : Int32)) (p1 &&& (2147483647 : Int32))) (own_max (p0 &&& (2147483647 : Int32)) (p1 &&& (2147483647 : Int32))) ((p2 &&& (2147483647 : Int32)) % (9 : Int32)) (0 : Int32)))])) _
    refine XS.icmpYes X3.here hx rfl (pc0 := 79) (pc' := 84) rfl (hb hby at_79) rfl (teq rfl).1 (by decide) (by decide) ?_
    show Steps p.tables e below (T3.setTop (mkF m 84 #[.val (.int p0), .val (.int p1), .val (.int p2), .val (.int p3), .val (.int (p0 &&& (2147483647 : Int32))), .val (.int (p1 &&& (2147483647 : Int32))), .val (.int (own_min (p0 &&& (2147483647 : Int32)) (p1 &&& (2147483647 : Int32)))), .val (.int (own_max (p0 &&& (2147483647 : Int32)) (p1 &&& (2147483647 : Int32)))), .val (.int ((p2 &&& (2147483647 : Int32)) % (9 : Int32))), .val (.int ((p3 &&& (2147483647 : Int32)) % (((p2 &&& (2147483647 : Int32)) % (9 : Int32)) + (1 : Int32)))), .val (.ref r3), .unset, .unset, .unset, .unset, .unset, .unset] [])) _
    refine XS.iload X3.here hx rfl (hb hby at_84) rfl ?_
    show Steps p.tables e below (T3.setTop (mkF m 86 #[.val (.int p0), .val (.int p1), .val (.int p2), .val (.int p3), .val (.int (p0 &&& (2147483647 : Int32))), .val (.int (p1 &&& (2147483647 : Int32))), .val (.int (own_min (p0 &&& (2147483647 : Int32)) (p1 &&& (2147483647 : Int32)))), .val (.int (own_max (p0 &&& (2147483647 : Int32)) (p1 &&& (2147483647 : Int32)))), .val (.int ((p2 &&& (2147483647 : Int32)) % (9 : Int32))), .val (.int ((p3 &&& (2147483647 : Int32)) % (((p2 &&& (2147483647 : Int32)) % (9 : Int32)) + (1 : Int32)))), .val (.ref r3), .unset, .unset, .unset, .unset, .unset, .unset] [(.int ((p2 &&& (2147483647 : Int32)) % (9 : Int32)))])) _
    exact q)
  by_cases hc7 : ((p2 &&& (2147483647 : Int32)) % (9 : Int32)) = (0 : Int32)
  ·
    have k8 : own_To p e below T3 (mkF m 90 #[.val (.int p0), .val (.int p1), .val (.int p2), .val (.int p3), .val (.int (p0 &&& (2147483647 : Int32))), .val (.int (p1 &&& (2147483647 : Int32))), .val (.int (own_min (p0 &&& (2147483647 : Int32)) (p1 &&& (2147483647 : Int32)))), .val (.int (own_max (p0 &&& (2147483647 : Int32)) (p1 &&& (2147483647 : Int32)))), .val (.int ((p2 &&& (2147483647 : Int32)) % (9 : Int32))), .val (.int ((p3 &&& (2147483647 : Int32)) % (((p2 &&& (2147483647 : Int32)) % (9 : Int32)) + (1 : Int32)))), .val (.ref r3), .unset, .unset, .unset, .unset, .unset, .unset] [(.int (1 : Int32))]) s₁ (mkF m 0 #[.val (.int p0), .val (.int p1), .val (.int p2), .val (.int p3), .unset, .unset, .unset, .unset, .unset, .unset, .unset, .unset, .unset, .unset, .unset, .unset, .unset] []) := fun t q => k6 t (by
      refine XS.ifNo X3.here hx rfl (hb hby at_86) rfl ((if0 _ _).trans (teq hc7).2) ?_
      show Steps p.tables e below (T3.setTop (mkF m 89 #[.val (.int p0), .val (.int p1), .val (.int p2), .val (.int p3), .val (.int (p0 &&& (2147483647 : Int32))), .val (.int (p1 &&& (2147483647 : Int32))), .val (.int (own_min (p0 &&& (2147483647 : Int32)) (p1 &&& (2147483647 : Int32)))), .val (.int (own_max (p0 &&& (2147483647 : Int32)) (p1 &&& (2147483647 : Int32)))), .val (.int ((p2 &&& (2147483647 : Int32)) % (9 : Int32))), .val (.int ((p3 &&& (2147483647 : Int32)) % (((p2 &&& (2147483647 : Int32)) % (9 : Int32)) + (1 : Int32)))), .val (.ref r3), .unset, .unset, .unset, .unset, .unset, .unset] [])) _
      refine XS.iconst X3.here hx rfl (hb hby at_89) ?_
      show Steps p.tables e below (T3.setTop (mkF m 90 #[.val (.int p0), .val (.int p1), .val (.int p2), .val (.int p3), .val (.int (p0 &&& (2147483647 : Int32))), .val (.int (p1 &&& (2147483647 : Int32))), .val (.int (own_min (p0 &&& (2147483647 : Int32)) (p1 &&& (2147483647 : Int32)))), .val (.int (own_max (p0 &&& (2147483647 : Int32)) (p1 &&& (2147483647 : Int32)))), .val (.int ((p2 &&& (2147483647 : Int32)) % (9 : Int32))), .val (.int ((p3 &&& (2147483647 : Int32)) % (((p2 &&& (2147483647 : Int32)) % (9 : Int32)) + (1 : Int32)))), .val (.ref r3), .unset, .unset, .unset, .unset, .unset, .unset] [(.int (1 : Int32))])) _
      exact q)
    obtain ⟨fs, hr, hrun, hended, hW, hsame⟩ := X3.leave (v := some (.int (1 : Int32))) (fun h => by rw [Bd.returns] at h; cases h)
    refine ⟨_, _, k0 _ (k8 _ ?_), hrun, hended, _, _, rfl, ?_, ⟨_, rfl⟩, hW, hsame.mono (by decide) (by decide)⟩
    · show Steps p.tables e below (T3.setTop (mkF m 90 #[.val (.int p0), .val (.int p1), .val (.int p2), .val (.int p3), .val (.int (p0 &&& (2147483647 : Int32))), .val (.int (p1 &&& (2147483647 : Int32))), .val (.int (own_min (p0 &&& (2147483647 : Int32)) (p1 &&& (2147483647 : Int32)))), .val (.int (own_max (p0 &&& (2147483647 : Int32)) (p1 &&& (2147483647 : Int32)))), .val (.int ((p2 &&& (2147483647 : Int32)) % (9 : Int32))), .val (.int ((p3 &&& (2147483647 : Int32)) % (((p2 &&& (2147483647 : Int32)) % (9 : Int32)) + (1 : Int32)))), .val (.ref r3), .unset, .unset, .unset, .unset, .unset, .unset] [(.int (1 : Int32))])) _
      exact retN X3 hx (t := .boolean) Bd.returns (by simp) (hb hby at_90) hr
    · show Q0 Z p0 p1 p2 p3 h0 n0 _ T3.heap _
      exact ⟨rfl, N3⟩
  ·
    have hc1 : 1 ≤ (((p2 &&& (2147483647 : Int32)) % (9 : Int32))).toInt := by rw [← Int32.toInt_inj, show (0 : Int32).toInt = 0 from rfl] at hc7; omega
    obtain ⟨hcmp1, hcmp2⟩ := own_cmp (own_min (p0 &&& (2147483647 : Int32)) (p1 &&& (2147483647 : Int32))) (own_max (p0 &&& (2147483647 : Int32)) (p1 &&& (2147483647 : Int32))) ((p2 &&& (2147483647 : Int32)) % (9 : Int32)) ((p3 &&& (2147483647 : Int32)) % (((p2 &&& (2147483647 : Int32)) % (9 : Int32)) + (1 : Int32))) hl0 hlh hc1 hc8 hk0 hk8
    obtain ⟨clr9, Arr9, Sr9, Mr9, Hhr9⟩ := id V3
    have hinr9 : ¬ (((p2 &&& (2147483647 : Int32)) % (9 : Int32)) < 0 ∨ clr9.slots.size ≤ (((p2 &&& (2147483647 : Int32)) % (9 : Int32))).toNatClampNeg) := inb_of Sr9 ⟨by rw [Int32.lt_iff_toInt_lt, show (0 : Int32).toInt = 0 from rfl]; omega, by rw [Int32.lt_iff_toInt_lt, hz]; omega⟩
    have hatr9 : clr9.slots[(((p2 &&& (2147483647 : Int32)) % (9 : Int32))).toNatClampNeg]? = some (.int (own_f (own_min (p0 &&& (2147483647 : Int32)) (p1 &&& (2147483647 : Int32))) (own_max (p0 &&& (2147483647 : Int32)) (p1 &&& (2147483647 : Int32))) ((p2 &&& (2147483647 : Int32)) % (9 : Int32)) ((p2 &&& (2147483647 : Int32)) % (9 : Int32)))) := by rw [Hhr9 _ (Nat.lt_of_not_le fun y => hinr9 (Or.inr y)), hg3 _ hc0 (by omega)]
    obtain ⟨clr10, Arr10, Sr10, Mr10, Hhr10⟩ := id V3
    have hinr10 : ¬ (((p3 &&& (2147483647 : Int32)) % (((p2 &&& (2147483647 : Int32)) % (9 : Int32)) + (1 : Int32))) < 0 ∨ clr10.slots.size ≤ (((p3 &&& (2147483647 : Int32)) % (((p2 &&& (2147483647 : Int32)) % (9 : Int32)) + (1 : Int32)))).toNatClampNeg) := inb_of Sr10 ⟨by rw [Int32.lt_iff_toInt_lt, show (0 : Int32).toInt = 0 from rfl]; omega, by rw [Int32.lt_iff_toInt_lt, hz]; omega⟩
    have hatr10 : clr10.slots[(((p3 &&& (2147483647 : Int32)) % (((p2 &&& (2147483647 : Int32)) % (9 : Int32)) + (1 : Int32)))).toNatClampNeg]? = some (.int (own_f (own_min (p0 &&& (2147483647 : Int32)) (p1 &&& (2147483647 : Int32))) (own_max (p0 &&& (2147483647 : Int32)) (p1 &&& (2147483647 : Int32))) ((p2 &&& (2147483647 : Int32)) % (9 : Int32)) ((p3 &&& (2147483647 : Int32)) % (((p2 &&& (2147483647 : Int32)) % (9 : Int32)) + (1 : Int32))))) := by rw [Hhr10 _ (Nat.lt_of_not_le fun y => hinr10 (Or.inr y)), hg3 _ hk0 hk8]
    have k11 : own_To p e below T3 (mkF m 163 #[.val (.int p0), .val (.int p1), .val (.int p2), .val (.int p3), .val (.int (p0 &&& (2147483647 : Int32))), .val (.int (p1 &&& (2147483647 : Int32))), .val (.int (own_min (p0 &&& (2147483647 : Int32)) (p1 &&& (2147483647 : Int32)))), .val (.int (own_max (p0 &&& (2147483647 : Int32)) (p1 &&& (2147483647 : Int32)))), .val (.int ((p2 &&& (2147483647 : Int32)) % (9 : Int32))), .val (.int ((p3 &&& (2147483647 : Int32)) % (((p2 &&& (2147483647 : Int32)) % (9 : Int32)) + (1 : Int32)))), .val (.ref r3), .val (.long (((own_max (p0 &&& (2147483647 : Int32)) (p1 &&& (2147483647 : Int32))).toInt64) - ((own_min (p0 &&& (2147483647 : Int32)) (p1 &&& (2147483647 : Int32))).toInt64))), .second, .val (.long ((((own_max (p0 &&& (2147483647 : Int32)) (p1 &&& (2147483647 : Int32))).toInt64) - ((own_min (p0 &&& (2147483647 : Int32)) (p1 &&& (2147483647 : Int32))).toInt64)) * (((p3 &&& (2147483647 : Int32)) % (((p2 &&& (2147483647 : Int32)) % (9 : Int32)) + (1 : Int32))).toInt64))), .second, .val (.long (((own_f (own_min (p0 &&& (2147483647 : Int32)) (p1 &&& (2147483647 : Int32))) (own_max (p0 &&& (2147483647 : Int32)) (p1 &&& (2147483647 : Int32))) ((p2 &&& (2147483647 : Int32)) % (9 : Int32)) ((p3 &&& (2147483647 : Int32)) % (((p2 &&& (2147483647 : Int32)) % (9 : Int32)) + (1 : Int32)))).toInt64) - ((own_min (p0 &&& (2147483647 : Int32)) (p1 &&& (2147483647 : Int32))).toInt64))), .second] [(.int (1 : Int32))]) s₁ (mkF m 0 #[.val (.int p0), .val (.int p1), .val (.int p2), .val (.int p3), .unset, .unset, .unset, .unset, .unset, .unset, .unset, .unset, .unset, .unset, .unset, .unset, .unset] []) := fun t q => k6 t (by
      refine XS.ifYes X3.here hx rfl (pc0 := 86) (pc' := 91) rfl (hb hby at_86) rfl ((if0 _ _).trans (feq hc7).2) (by decide) (by decide) ?_
      show Steps p.tables e below (T3.setTop (mkF m 91 #[.val (.int p0), .val (.int p1), .val (.int p2), .val (.int p3), .val (.int (p0 &&& (2147483647 : Int32))), .val (.int (p1 &&& (2147483647 : Int32))), .val (.int (own_min (p0 &&& (2147483647 : Int32)) (p1 &&& (2147483647 : Int32)))), .val (.int (own_max (p0 &&& (2147483647 : Int32)) (p1 &&& (2147483647 : Int32)))), .val (.int ((p2 &&& (2147483647 : Int32)) % (9 : Int32))), .val (.int ((p3 &&& (2147483647 : Int32)) % (((p2 &&& (2147483647 : Int32)) % (9 : Int32)) + (1 : Int32)))), .val (.ref r3), .unset, .unset, .unset, .unset, .unset, .unset] [])) _
      refine XS.aload X3.here hx rfl (hb hby at_91) rfl rfl ?_
      show Steps p.tables e below (T3.setTop (mkF m 93 #[.val (.int p0), .val (.int p1), .val (.int p2), .val (.int p3), .val (.int (p0 &&& (2147483647 : Int32))), .val (.int (p1 &&& (2147483647 : Int32))), .val (.int (own_min (p0 &&& (2147483647 : Int32)) (p1 &&& (2147483647 : Int32)))), .val (.int (own_max (p0 &&& (2147483647 : Int32)) (p1 &&& (2147483647 : Int32)))), .val (.int ((p2 &&& (2147483647 : Int32)) % (9 : Int32))), .val (.int ((p3 &&& (2147483647 : Int32)) % (((p2 &&& (2147483647 : Int32)) % (9 : Int32)) + (1 : Int32)))), .val (.ref r3), .unset, .unset, .unset, .unset, .unset, .unset] [(.ref r3)])) _
      refine XS.iload X3.here hx rfl (hb hby at_93) rfl ?_
      show Steps p.tables e below (T3.setTop (mkF m 95 #[.val (.int p0), .val (.int p1), .val (.int p2), .val (.int p3), .val (.int (p0 &&& (2147483647 : Int32))), .val (.int (p1 &&& (2147483647 : Int32))), .val (.int (own_min (p0 &&& (2147483647 : Int32)) (p1 &&& (2147483647 : Int32)))), .val (.int (own_max (p0 &&& (2147483647 : Int32)) (p1 &&& (2147483647 : Int32)))), .val (.int ((p2 &&& (2147483647 : Int32)) % (9 : Int32))), .val (.int ((p3 &&& (2147483647 : Int32)) % (((p2 &&& (2147483647 : Int32)) % (9 : Int32)) + (1 : Int32)))), .val (.ref r3), .unset, .unset, .unset, .unset, .unset, .unset] [(.int ((p2 &&& (2147483647 : Int32)) % (9 : Int32))), (.ref r3)])) _
      refine X3.iaload hx (j := ((p2 &&& (2147483647 : Int32)) % (9 : Int32))) (v := (.int (own_f (own_min (p0 &&& (2147483647 : Int32)) (p1 &&& (2147483647 : Int32))) (own_max (p0 &&& (2147483647 : Int32)) (p1 &&& (2147483647 : Int32))) ((p2 &&& (2147483647 : Int32)) % (9 : Int32)) ((p2 &&& (2147483647 : Int32)) % (9 : Int32))))) (by exact Arr9.1) (State.isArrayOf_alike hZ.alike Arr9.2.1) Arr9.2.2 hinr9 hatr9 (g := (mkF m 95 #[.val (.int p0), .val (.int p1), .val (.int p2), .val (.int p3), .val (.int (p0 &&& (2147483647 : Int32))), .val (.int (p1 &&& (2147483647 : Int32))), .val (.int (own_min (p0 &&& (2147483647 : Int32)) (p1 &&& (2147483647 : Int32)))), .val (.int (own_max (p0 &&& (2147483647 : Int32)) (p1 &&& (2147483647 : Int32)))), .val (.int ((p2 &&& (2147483647 : Int32)) % (9 : Int32))), .val (.int ((p3 &&& (2147483647 : Int32)) % (((p2 &&& (2147483647 : Int32)) % (9 : Int32)) + (1 : Int32)))), .val (.ref r3), .unset, .unset, .unset, .unset, .unset, .unset] [(.int ((p2 &&& (2147483647 : Int32)) % (9 : Int32))), (.ref r3)])) rfl rfl (hb hby at_95) _ ?_
      show Steps p.tables e below (T3.setTop (mkF m 96 #[.val (.int p0), .val (.int p1), .val (.int p2), .val (.int p3), .val (.int (p0 &&& (2147483647 : Int32))), .val (.int (p1 &&& (2147483647 : Int32))), .val (.int (own_min (p0 &&& (2147483647 : Int32)) (p1 &&& (2147483647 : Int32)))), .val (.int (own_max (p0 &&& (2147483647 : Int32)) (p1 &&& (2147483647 : Int32)))), .val (.int ((p2 &&& (2147483647 : Int32)) % (9 : Int32))), .val (.int ((p3 &&& (2147483647 : Int32)) % (((p2 &&& (2147483647 : Int32)) % (9 : Int32)) + (1 : Int32)))), .val (.ref r3), .unset, .unset, .unset, .unset, .unset, .unset] [(.int (own_f (own_min (p0 &&& (2147483647 : Int32)) (p1 &&& (2147483647 : Int32))) (own_max (p0 &&& (2147483647 : Int32)) (p1 &&& (2147483647 : Int32))) ((p2 &&& (2147483647 : Int32)) % (9 : Int32)) ((p2 &&& (2147483647 : Int32)) % (9 : Int32))))])) _
      refine XS.iload X3.here hx rfl (hb hby at_96) rfl ?_
      show Steps p.tables e below (T3.setTop (mkF m 98 #[.val (.int p0), .val (.int p1), .val (.int p2), .val (.int p3), .val (.int (p0 &&& (2147483647 : Int32))), .val (.int (p1 &&& (2147483647 : Int32))), .val (.int (own_min (p0 &&& (2147483647 : Int32)) (p1 &&& (2147483647 : Int32)))), .val (.int (own_max (p0 &&& (2147483647 : Int32)) (p1 &&& (2147483647 : Int32)))), .val (.int ((p2 &&& (2147483647 : Int32)) % (9 : Int32))), .val (.int ((p3 &&& (2147483647 : Int32)) % (((p2 &&& (2147483647 : Int32)) % (9 : Int32)) + (1 : Int32)))), .val (.ref r3), .unset, .unset, .unset, .unset, .unset, .unset] [(.int (own_max (p0 &&& (2147483647 : Int32)) (p1 &&& (2147483647 : Int32)))), (.int (own_f (own_min (p0 &&& (2147483647 : Int32)) (p1 &&& (2147483647 : Int32))) (own_max (p0 &&& (2147483647 : Int32)) (p1 &&& (2147483647 : Int32))) ((p2 &&& (2147483647 : Int32)) % (9 : Int32)) ((p2 &&& (2147483647 : Int32)) % (9 : Int32))))])) _
      refine XS.icmpYes X3.here hx rfl (pc0 := 98) (pc' := 103) rfl (hb hby at_98) rfl (teq (own_top (own_min (p0 &&& (2147483647 : Int32)) (p1 &&& (2147483647 : Int32))) (own_max (p0 &&& (2147483647 : Int32)) (p1 &&& (2147483647 : Int32))) ((p2 &&& (2147483647 : Int32)) % (9 : Int32)) hl0 hlh hc1 hc8)).1 (by decide) (by decide) ?_
      show Steps p.tables e below (T3.setTop (mkF m 103 #[.val (.int p0), .val (.int p1), .val (.int p2), .val (.int p3), .val (.int (p0 &&& (2147483647 : Int32))), .val (.int (p1 &&& (2147483647 : Int32))), .val (.int (own_min (p0 &&& (2147483647 : Int32)) (p1 &&& (2147483647 : Int32)))), .val (.int (own_max (p0 &&& (2147483647 : Int32)) (p1 &&& (2147483647 : Int32)))), .val (.int ((p2 &&& (2147483647 : Int32)) % (9 : Int32))), .val (.int ((p3 &&& (2147483647 : Int32)) % (((p2 &&& (2147483647 : Int32)) % (9 : Int32)) + (1 : Int32)))), .val (.ref r3), .unset, .unset, .unset, .unset, .unset, .unset] [])) _
      refine XS.iload X3.here hx rfl (hb hby at_103) rfl ?_
      show Steps p.tables e below (T3.setTop (mkF m 105 #[.val (.int p0), .val (.int p1), .val (.int p2), .val (.int p3), .val (.int (p0 &&& (2147483647 : Int32))), .val (.int (p1 &&& (2147483647 : Int32))), .val (.int (own_min (p0 &&& (2147483647 : Int32)) (p1 &&& (2147483647 : Int32)))), .val (.int (own_max (p0 &&& (2147483647 : Int32)) (p1 &&& (2147483647 : Int32)))), .val (.int ((p2 &&& (2147483647 : Int32)) % (9 : Int32))), .val (.int ((p3 &&& (2147483647 : Int32)) % (((p2 &&& (2147483647 : Int32)) % (9 : Int32)) + (1 : Int32)))), .val (.ref r3), .unset, .unset, .unset, .unset, .unset, .unset] [(.int (own_max (p0 &&& (2147483647 : Int32)) (p1 &&& (2147483647 : Int32))))])) _
      refine XS.i2l X3.here hx rfl (hb hby at_105) rfl ?_
      show Steps p.tables e below (T3.setTop (mkF m 106 #[.val (.int p0), .val (.int p1), .val (.int p2), .val (.int p3), .val (.int (p0 &&& (2147483647 : Int32))), .val (.int (p1 &&& (2147483647 : Int32))), .val (.int (own_min (p0 &&& (2147483647 : Int32)) (p1 &&& (2147483647 : Int32)))), .val (.int (own_max (p0 &&& (2147483647 : Int32)) (p1 &&& (2147483647 : Int32)))), .val (.int ((p2 &&& (2147483647 : Int32)) % (9 : Int32))), .val (.int ((p3 &&& (2147483647 : Int32)) % (((p2 &&& (2147483647 : Int32)) % (9 : Int32)) + (1 : Int32)))), .val (.ref r3), .unset, .unset, .unset, .unset, .unset, .unset] [(.long ((own_max (p0 &&& (2147483647 : Int32)) (p1 &&& (2147483647 : Int32))).toInt64))])) _
      refine XS.iload X3.here hx rfl (hb hby at_106) rfl ?_
      show Steps p.tables e below (T3.setTop (mkF m 108 #[.val (.int p0), .val (.int p1), .val (.int p2), .val (.int p3), .val (.int (p0 &&& (2147483647 : Int32))), .val (.int (p1 &&& (2147483647 : Int32))), .val (.int (own_min (p0 &&& (2147483647 : Int32)) (p1 &&& (2147483647 : Int32)))), .val (.int (own_max (p0 &&& (2147483647 : Int32)) (p1 &&& (2147483647 : Int32)))), .val (.int ((p2 &&& (2147483647 : Int32)) % (9 : Int32))), .val (.int ((p3 &&& (2147483647 : Int32)) % (((p2 &&& (2147483647 : Int32)) % (9 : Int32)) + (1 : Int32)))), .val (.ref r3), .unset, .unset, .unset, .unset, .unset, .unset] [(.int (own_min (p0 &&& (2147483647 : Int32)) (p1 &&& (2147483647 : Int32)))), (.long ((own_max (p0 &&& (2147483647 : Int32)) (p1 &&& (2147483647 : Int32))).toInt64))])) _
      refine XS.i2l X3.here hx rfl (hb hby at_108) rfl ?_
      show Steps p.tables e below (T3.setTop (mkF m 109 #[.val (.int p0), .val (.int p1), .val (.int p2), .val (.int p3), .val (.int (p0 &&& (2147483647 : Int32))), .val (.int (p1 &&& (2147483647 : Int32))), .val (.int (own_min (p0 &&& (2147483647 : Int32)) (p1 &&& (2147483647 : Int32)))), .val (.int (own_max (p0 &&& (2147483647 : Int32)) (p1 &&& (2147483647 : Int32)))), .val (.int ((p2 &&& (2147483647 : Int32)) % (9 : Int32))), .val (.int ((p3 &&& (2147483647 : Int32)) % (((p2 &&& (2147483647 : Int32)) % (9 : Int32)) + (1 : Int32)))), .val (.ref r3), .unset, .unset, .unset, .unset, .unset, .unset] [(.long ((own_min (p0 &&& (2147483647 : Int32)) (p1 &&& (2147483647 : Int32))).toInt64)), (.long ((own_max (p0 &&& (2147483647 : Int32)) (p1 &&& (2147483647 : Int32))).toInt64))])) _
      refine XS.lsub X3.here hx rfl (hb hby at_109) rfl ?_
      show Steps p.tables e below (T3.setTop (mkF m 110 #[.val (.int p0), .val (.int p1), .val (.int p2), .val (.int p3), .val (.int (p0 &&& (2147483647 : Int32))), .val (.int (p1 &&& (2147483647 : Int32))), .val (.int (own_min (p0 &&& (2147483647 : Int32)) (p1 &&& (2147483647 : Int32)))), .val (.int (own_max (p0 &&& (2147483647 : Int32)) (p1 &&& (2147483647 : Int32)))), .val (.int ((p2 &&& (2147483647 : Int32)) % (9 : Int32))), .val (.int ((p3 &&& (2147483647 : Int32)) % (((p2 &&& (2147483647 : Int32)) % (9 : Int32)) + (1 : Int32)))), .val (.ref r3), .unset, .unset, .unset, .unset, .unset, .unset] [(.long (((own_max (p0 &&& (2147483647 : Int32)) (p1 &&& (2147483647 : Int32))).toInt64) - ((own_min (p0 &&& (2147483647 : Int32)) (p1 &&& (2147483647 : Int32))).toInt64)))])) _
      refine XS.lstore X3.here hx rfl (hb hby at_110) rfl (l' := #[.val (.int p0), .val (.int p1), .val (.int p2), .val (.int p3), .val (.int (p0 &&& (2147483647 : Int32))), .val (.int (p1 &&& (2147483647 : Int32))), .val (.int (own_min (p0 &&& (2147483647 : Int32)) (p1 &&& (2147483647 : Int32)))), .val (.int (own_max (p0 &&& (2147483647 : Int32)) (p1 &&& (2147483647 : Int32)))), .val (.int ((p2 &&& (2147483647 : Int32)) % (9 : Int32))), .val (.int ((p3 &&& (2147483647 : Int32)) % (((p2 &&& (2147483647 : Int32)) % (9 : Int32)) + (1 : Int32)))), .val (.ref r3), .val (.long (((own_max (p0 &&& (2147483647 : Int32)) (p1 &&& (2147483647 : Int32))).toInt64) - ((own_min (p0 &&& (2147483647 : Int32)) (p1 &&& (2147483647 : Int32))).toInt64))), .second, .unset, .unset, .unset, .unset]) rfl ?_
      show Steps p.tables e below (T3.setTop (mkF m 112 #[.val (.int p0), .val (.int p1), .val (.int p2), .val (.int p3), .val (.int (p0 &&& (2147483647 : Int32))), .val (.int (p1 &&& (2147483647 : Int32))), .val (.int (own_min (p0 &&& (2147483647 : Int32)) (p1 &&& (2147483647 : Int32)))), .val (.int (own_max (p0 &&& (2147483647 : Int32)) (p1 &&& (2147483647 : Int32)))), .val (.int ((p2 &&& (2147483647 : Int32)) % (9 : Int32))), .val (.int ((p3 &&& (2147483647 : Int32)) % (((p2 &&& (2147483647 : Int32)) % (9 : Int32)) + (1 : Int32)))), .val (.ref r3), .val (.long (((own_max (p0 &&& (2147483647 : Int32)) (p1 &&& (2147483647 : Int32))).toInt64) - ((own_min (p0 &&& (2147483647 : Int32)) (p1 &&& (2147483647 : Int32))).toInt64))), .second, .unset, .unset, .unset, .unset] [])) _
      refine XS.lload X3.here hx rfl (hb hby at_112) rfl ?_
      show Steps p.tables e below (T3.setTop (mkF m 114 #[.val (.int p0), .val (.int p1), .val (.int p2), .val (.int p3), .val (.int (p0 &&& (2147483647 : Int32))), .val (.int (p1 &&& (2147483647 : Int32))), .val (.int (own_min (p0 &&& (2147483647 : Int32)) (p1 &&& (2147483647 : Int32)))), .val (.int (own_max (p0 &&& (2147483647 : Int32)) (p1 &&& (2147483647 : Int32)))), .val (.int ((p2 &&& (2147483647 : Int32)) % (9 : Int32))), .val (.int ((p3 &&& (2147483647 : Int32)) % (((p2 &&& (2147483647 : Int32)) % (9 : Int32)) + (1 : Int32)))), .val (.ref r3), .val (.long (((own_max (p0 &&& (2147483647 : Int32)) (p1 &&& (2147483647 : Int32))).toInt64) - ((own_min (p0 &&& (2147483647 : Int32)) (p1 &&& (2147483647 : Int32))).toInt64))), .second, .unset, .unset, .unset, .unset] [(.long (((own_max (p0 &&& (2147483647 : Int32)) (p1 &&& (2147483647 : Int32))).toInt64) - ((own_min (p0 &&& (2147483647 : Int32)) (p1 &&& (2147483647 : Int32))).toInt64)))])) _
      refine XS.iload X3.here hx rfl (hb hby at_114) rfl ?_
      show Steps p.tables e below (T3.setTop (mkF m 116 #[.val (.int p0), .val (.int p1), .val (.int p2), .val (.int p3), .val (.int (p0 &&& (2147483647 : Int32))), .val (.int (p1 &&& (2147483647 : Int32))), .val (.int (own_min (p0 &&& (2147483647 : Int32)) (p1 &&& (2147483647 : Int32)))), .val (.int (own_max (p0 &&& (2147483647 : Int32)) (p1 &&& (2147483647 : Int32)))), .val (.int ((p2 &&& (2147483647 : Int32)) % (9 : Int32))), .val (.int ((p3 &&& (2147483647 : Int32)) % (((p2 &&& (2147483647 : Int32)) % (9 : Int32)) + (1 : Int32)))), .val (.ref r3), .val (.long (((own_max (p0 &&& (2147483647 : Int32)) (p1 &&& (2147483647 : Int32))).toInt64) - ((own_min (p0 &&& (2147483647 : Int32)) (p1 &&& (2147483647 : Int32))).toInt64))), .second, .unset, .unset, .unset, .unset] [(.int ((p3 &&& (2147483647 : Int32)) % (((p2 &&& (2147483647 : Int32)) % (9 : Int32)) + (1 : Int32)))), (.long (((own_max (p0 &&& (2147483647 : Int32)) (p1 &&& (2147483647 : Int32))).toInt64) - ((own_min (p0 &&& (2147483647 : Int32)) (p1 &&& (2147483647 : Int32))).toInt64)))])) _
      refine XS.i2l X3.here hx rfl (hb hby at_116) rfl ?_
      show Steps p.tables e below (T3.setTop (mkF m 117 #[.val (.int p0), .val (.int p1), .val (.int p2), .val (.int p3), .val (.int (p0 &&& (2147483647 : Int32))), .val (.int (p1 &&& (2147483647 : Int32))), .val (.int (own_min (p0 &&& (2147483647 : Int32)) (p1 &&& (2147483647 : Int32)))), .val (.int (own_max (p0 &&& (2147483647 : Int32)) (p1 &&& (2147483647 : Int32)))), .val (.int ((p2 &&& (2147483647 : Int32)) % (9 : Int32))), .val (.int ((p3 &&& (2147483647 : Int32)) % (((p2 &&& (2147483647 : Int32)) % (9 : Int32)) + (1 : Int32)))), .val (.ref r3), .val (.long (((own_max (p0 &&& (2147483647 : Int32)) (p1 &&& (2147483647 : Int32))).toInt64) - ((own_min (p0 &&& (2147483647 : Int32)) (p1 &&& (2147483647 : Int32))).toInt64))), .second, .unset, .unset, .unset, .unset] [(.long (((p3 &&& (2147483647 : Int32)) % (((p2 &&& (2147483647 : Int32)) % (9 : Int32)) + (1 : Int32))).toInt64)), (.long (((own_max (p0 &&& (2147483647 : Int32)) (p1 &&& (2147483647 : Int32))).toInt64) - ((own_min (p0 &&& (2147483647 : Int32)) (p1 &&& (2147483647 : Int32))).toInt64)))])) _
      refine XS.lmul X3.here hx rfl (hb hby at_117) rfl ?_
      show Steps p.tables e below (T3.setTop (mkF m 118 #[.val (.int p0), .val (.int p1), .val (.int p2), .val (.int p3), .val (.int (p0 &&& (2147483647 : Int32))), .val (.int (p1 &&& (2147483647 : Int32))), .val (.int (own_min (p0 &&& (2147483647 : Int32)) (p1 &&& (2147483647 : Int32)))), .val (.int (own_max (p0 &&& (2147483647 : Int32)) (p1 &&& (2147483647 : Int32)))), .val (.int ((p2 &&& (2147483647 : Int32)) % (9 : Int32))), .val (.int ((p3 &&& (2147483647 : Int32)) % (((p2 &&& (2147483647 : Int32)) % (9 : Int32)) + (1 : Int32)))), .val (.ref r3), .val (.long (((own_max (p0 &&& (2147483647 : Int32)) (p1 &&& (2147483647 : Int32))).toInt64) - ((own_min (p0 &&& (2147483647 : Int32)) (p1 &&& (2147483647 : Int32))).toInt64))), .second, .unset, .unset, .unset, .unset] [(.long ((((own_max (p0 &&& (2147483647 : Int32)) (p1 &&& (2147483647 : Int32))).toInt64) - ((own_min (p0 &&& (2147483647 : Int32)) (p1 &&& (2147483647 : Int32))).toInt64)) * (((p3 &&& (2147483647 : Int32)) % (((p2 &&& (2147483647 : Int32)) % (9 : Int32)) + (1 : Int32))).toInt64)))])) _
      refine XS.lstore X3.here hx rfl (hb hby at_118) rfl (l' := #[.val (.int p0), .val (.int p1), .val (.int p2), .val (.int p3), .val (.int (p0 &&& (2147483647 : Int32))), .val (.int (p1 &&& (2147483647 : Int32))), .val (.int (own_min (p0 &&& (2147483647 : Int32)) (p1 &&& (2147483647 : Int32)))), .val (.int (own_max (p0 &&& (2147483647 : Int32)) (p1 &&& (2147483647 : Int32)))), .val (.int ((p2 &&& (2147483647 : Int32)) % (9 : Int32))), .val (.int ((p3 &&& (2147483647 : Int32)) % (((p2 &&& (2147483647 : Int32)) % (9 : Int32)) + (1 : Int32)))), .val (.ref r3), .val (.long (((own_max (p0 &&& (2147483647 : Int32)) (p1 &&& (2147483647 : Int32))).toInt64) - ((own_min (p0 &&& (2147483647 : Int32)) (p1 &&& (2147483647 : Int32))).toInt64))), .second, .val (.long ((((own_max (p0 &&& (2147483647 : Int32)) (p1 &&& (2147483647 : Int32))).toInt64) - ((own_min (p0 &&& (2147483647 : Int32)) (p1 &&& (2147483647 : Int32))).toInt64)) * (((p3 &&& (2147483647 : Int32)) % (((p2 &&& (2147483647 : Int32)) % (9 : Int32)) + (1 : Int32))).toInt64))), .second, .unset, .unset]) rfl ?_
      show Steps p.tables e below (T3.setTop (mkF m 120 #[.val (.int p0), .val (.int p1), .val (.int p2), .val (.int p3), .val (.int (p0 &&& (2147483647 : Int32))), .val (.int (p1 &&& (2147483647 : Int32))), .val (.int (own_min (p0 &&& (2147483647 : Int32)) (p1 &&& (2147483647 : Int32)))), .val (.int (own_max (p0 &&& (2147483647 : Int32)) (p1 &&& (2147483647 : Int32)))), .val (.int ((p2 &&& (2147483647 : Int32)) % (9 : Int32))), .val (.int ((p3 &&& (2147483647 : Int32)) % (((p2 &&& (2147483647 : Int32)) % (9 : Int32)) + (1 : Int32)))), .val (.ref r3), .val (.long (((own_max (p0 &&& (2147483647 : Int32)) (p1 &&& (2147483647 : Int32))).toInt64) - ((own_min (p0 &&& (2147483647 : Int32)) (p1 &&& (2147483647 : Int32))).toInt64))), .second, .val (.long ((((own_max (p0 &&& (2147483647 : Int32)) (p1 &&& (2147483647 : Int32))).toInt64) - ((own_min (p0 &&& (2147483647 : Int32)) (p1 &&& (2147483647 : Int32))).toInt64)) * (((p3 &&& (2147483647 : Int32)) % (((p2 &&& (2147483647 : Int32)) % (9 : Int32)) + (1 : Int32))).toInt64))), .second, .unset, .unset] [])) _
      refine XS.aload X3.here hx rfl (hb hby at_120) rfl rfl ?_
      show Steps p.tables e below (T3.setTop (mkF m 122 #[.val (.int p0), .val (.int p1), .val (.int p2), .val (.int p3), .val (.int (p0 &&& (2147483647 : Int32))), .val (.int (p1 &&& (2147483647 : Int32))), .val (.int (own_min (p0 &&& (2147483647 : Int32)) (p1 &&& (2147483647 : Int32)))), .val (.int (own_max (p0 &&& (2147483647 : Int32)) (p1 &&& (2147483647 : Int32)))), .val (.int ((p2 &&& (2147483647 : Int32)) % (9 : Int32))), .val (.int ((p3 &&& (2147483647 : Int32)) % (((p2 &&& (2147483647 : Int32)) % (9 : Int32)) + (1 : Int32)))), .val (.ref r3), .val (.long (((own_max (p0 &&& (2147483647 : Int32)) (p1 &&& (2147483647 : Int32))).toInt64) - ((own_min (p0 &&& (2147483647 : Int32)) (p1 &&& (2147483647 : Int32))).toInt64))), .second, .val (.long ((((own_max (p0 &&& (2147483647 : Int32)) (p1 &&& (2147483647 : Int32))).toInt64) - ((own_min (p0 &&& (2147483647 : Int32)) (p1 &&& (2147483647 : Int32))).toInt64)) * (((p3 &&& (2147483647 : Int32)) % (((p2 &&& (2147483647 : Int32)) % (9 : Int32)) + (1 : Int32))).toInt64))), .second, .unset, .unset] [(.ref r3)])) _
      refine XS.iload X3.here hx rfl (hb hby at_122) rfl ?_
      show Steps p.tables e below (T3.setTop (mkF m 124 #[.val (.int p0), .val (.int p1), .val (.int p2), .val (.int p3), .val (.int (p0 &&& (2147483647 : Int32))), .val (.int (p1 &&& (2147483647 : Int32))), .val (.int (own_min (p0 &&& (2147483647 : Int32)) (p1 &&& (2147483647 : Int32)))), .val (.int (own_max (p0 &&& (2147483647 : Int32)) (p1 &&& (2147483647 : Int32)))), .val (.int ((p2 &&& (2147483647 : Int32)) % (9 : Int32))), .val (.int ((p3 &&& (2147483647 : Int32)) % (((p2 &&& (2147483647 : Int32)) % (9 : Int32)) + (1 : Int32)))), .val (.ref r3), .val (.long (((own_max (p0 &&& (2147483647 : Int32)) (p1 &&& (2147483647 : Int32))).toInt64) - ((own_min (p0 &&& (2147483647 : Int32)) (p1 &&& (2147483647 : Int32))).toInt64))), .second, .val (.long ((((own_max (p0 &&& (2147483647 : Int32)) (p1 &&& (2147483647 : Int32))).toInt64) - ((own_min (p0 &&& (2147483647 : Int32)) (p1 &&& (2147483647 : Int32))).toInt64)) * (((p3 &&& (2147483647 : Int32)) % (((p2 &&& (2147483647 : Int32)) % (9 : Int32)) + (1 : Int32))).toInt64))), .second, .unset, .unset] [(.int ((p3 &&& (2147483647 : Int32)) % (((p2 &&& (2147483647 : Int32)) % (9 : Int32)) + (1 : Int32)))), (.ref r3)])) _
      refine X3.iaload hx (j := ((p3 &&& (2147483647 : Int32)) % (((p2 &&& (2147483647 : Int32)) % (9 : Int32)) + (1 : Int32)))) (v := (.int (own_f (own_min (p0 &&& (2147483647 : Int32)) (p1 &&& (2147483647 : Int32))) (own_max (p0 &&& (2147483647 : Int32)) (p1 &&& (2147483647 : Int32))) ((p2 &&& (2147483647 : Int32)) % (9 : Int32)) ((p3 &&& (2147483647 : Int32)) % (((p2 &&& (2147483647 : Int32)) % (9 : Int32)) + (1 : Int32)))))) (by exact Arr10.1) (State.isArrayOf_alike hZ.alike Arr10.2.1) Arr10.2.2 hinr10 hatr10 (g := (mkF m 124 #[.val (.int p0), .val (.int p1), .val (.int p2), .val (.int p3), .val (.int (p0 &&& (2147483647 : Int32))), .val (.int (p1 &&& (2147483647 : Int32))), .val (.int (own_min (p0 &&& (2147483647 : Int32)) (p1 &&& (2147483647 : Int32)))), .val (.int (own_max (p0 &&& (2147483647 : Int32)) (p1 &&& (2147483647 : Int32)))), .val (.int ((p2 &&& (2147483647 : Int32)) % (9 : Int32))), .val (.int ((p3 &&& (2147483647 : Int32)) % (((p2 &&& (2147483647 : Int32)) % (9 : Int32)) + (1 : Int32)))), .val (.ref r3), .val (.long (((own_max (p0 &&& (2147483647 : Int32)) (p1 &&& (2147483647 : Int32))).toInt64) - ((own_min (p0 &&& (2147483647 : Int32)) (p1 &&& (2147483647 : Int32))).toInt64))), .second, .val (.long ((((own_max (p0 &&& (2147483647 : Int32)) (p1 &&& (2147483647 : Int32))).toInt64) - ((own_min (p0 &&& (2147483647 : Int32)) (p1 &&& (2147483647 : Int32))).toInt64)) * (((p3 &&& (2147483647 : Int32)) % (((p2 &&& (2147483647 : Int32)) % (9 : Int32)) + (1 : Int32))).toInt64))), .second, .unset, .unset] [(.int ((p3 &&& (2147483647 : Int32)) % (((p2 &&& (2147483647 : Int32)) % (9 : Int32)) + (1 : Int32)))), (.ref r3)])) rfl rfl (hb hby at_124) _ ?_
      show Steps p.tables e below (T3.setTop (mkF m 125 #[.val (.int p0), .val (.int p1), .val (.int p2), .val (.int p3), .val (.int (p0 &&& (2147483647 : Int32))), .val (.int (p1 &&& (2147483647 : Int32))), .val (.int (own_min (p0 &&& (2147483647 : Int32)) (p1 &&& (2147483647 : Int32)))), .val (.int (own_max (p0 &&& (2147483647 : Int32)) (p1 &&& (2147483647 : Int32)))), .val (.int ((p2 &&& (2147483647 : Int32)) % (9 : Int32))), .val (.int ((p3 &&& (2147483647 : Int32)) % (((p2 &&& (2147483647 : Int32)) % (9 : Int32)) + (1 : Int32)))), .val (.ref r3), .val (.long (((own_max (p0 &&& (2147483647 : Int32)) (p1 &&& (2147483647 : Int32))).toInt64) - ((own_min (p0 &&& (2147483647 : Int32)) (p1 &&& (2147483647 : Int32))).toInt64))), .second, .val (.long ((((own_max (p0 &&& (2147483647 : Int32)) (p1 &&& (2147483647 : Int32))).toInt64) - ((own_min (p0 &&& (2147483647 : Int32)) (p1 &&& (2147483647 : Int32))).toInt64)) * (((p3 &&& (2147483647 : Int32)) % (((p2 &&& (2147483647 : Int32)) % (9 : Int32)) + (1 : Int32))).toInt64))), .second, .unset, .unset] [(.int (own_f (own_min (p0 &&& (2147483647 : Int32)) (p1 &&& (2147483647 : Int32))) (own_max (p0 &&& (2147483647 : Int32)) (p1 &&& (2147483647 : Int32))) ((p2 &&& (2147483647 : Int32)) % (9 : Int32)) ((p3 &&& (2147483647 : Int32)) % (((p2 &&& (2147483647 : Int32)) % (9 : Int32)) + (1 : Int32)))))])) _
      refine XS.i2l X3.here hx rfl (hb hby at_125) rfl ?_
      show Steps p.tables e below (T3.setTop (mkF m 126 #[.val (.int p0), .val (.int p1), .val (.int p2), .val (.int p3), .val (.int (p0 &&& (2147483647 : Int32))), .val (.int (p1 &&& (2147483647 : Int32))), .val (.int (own_min (p0 &&& (2147483647 : Int32)) (p1 &&& (2147483647 : Int32)))), .val (.int (own_max (p0 &&& (2147483647 : Int32)) (p1 &&& (2147483647 : Int32)))), .val (.int ((p2 &&& (2147483647 : Int32)) % (9 : Int32))), .val (.int ((p3 &&& (2147483647 : Int32)) % (((p2 &&& (2147483647 : Int32)) % (9 : Int32)) + (1 : Int32)))), .val (.ref r3), .val (.long (((own_max (p0 &&& (2147483647 : Int32)) (p1 &&& (2147483647 : Int32))).toInt64) - ((own_min (p0 &&& (2147483647 : Int32)) (p1 &&& (2147483647 : Int32))).toInt64))), .second, .val (.long ((((own_max (p0 &&& (2147483647 : Int32)) (p1 &&& (2147483647 : Int32))).toInt64) - ((own_min (p0 &&& (2147483647 : Int32)) (p1 &&& (2147483647 : Int32))).toInt64)) * (((p3 &&& (2147483647 : Int32)) % (((p2 &&& (2147483647 : Int32)) % (9 : Int32)) + (1 : Int32))).toInt64))), .second, .unset, .unset] [(.long ((own_f (own_min (p0 &&& (2147483647 : Int32)) (p1 &&& (2147483647 : Int32))) (own_max (p0 &&& (2147483647 : Int32)) (p1 &&& (2147483647 : Int32))) ((p2 &&& (2147483647 : Int32)) % (9 : Int32)) ((p3 &&& (2147483647 : Int32)) % (((p2 &&& (2147483647 : Int32)) % (9 : Int32)) + (1 : Int32)))).toInt64))])) _
      refine XS.iload X3.here hx rfl (hb hby at_126) rfl ?_
      show Steps p.tables e below (T3.setTop (mkF m 128 #[.val (.int p0), .val (.int p1), .val (.int p2), .val (.int p3), .val (.int (p0 &&& (2147483647 : Int32))), .val (.int (p1 &&& (2147483647 : Int32))), .val (.int (own_min (p0 &&& (2147483647 : Int32)) (p1 &&& (2147483647 : Int32)))), .val (.int (own_max (p0 &&& (2147483647 : Int32)) (p1 &&& (2147483647 : Int32)))), .val (.int ((p2 &&& (2147483647 : Int32)) % (9 : Int32))), .val (.int ((p3 &&& (2147483647 : Int32)) % (((p2 &&& (2147483647 : Int32)) % (9 : Int32)) + (1 : Int32)))), .val (.ref r3), .val (.long (((own_max (p0 &&& (2147483647 : Int32)) (p1 &&& (2147483647 : Int32))).toInt64) - ((own_min (p0 &&& (2147483647 : Int32)) (p1 &&& (2147483647 : Int32))).toInt64))), .second, .val (.long ((((own_max (p0 &&& (2147483647 : Int32)) (p1 &&& (2147483647 : Int32))).toInt64) - ((own_min (p0 &&& (2147483647 : Int32)) (p1 &&& (2147483647 : Int32))).toInt64)) * (((p3 &&& (2147483647 : Int32)) % (((p2 &&& (2147483647 : Int32)) % (9 : Int32)) + (1 : Int32))).toInt64))), .second, .unset, .unset] [(.int (own_min (p0 &&& (2147483647 : Int32)) (p1 &&& (2147483647 : Int32)))), (.long ((own_f (own_min (p0 &&& (2147483647 : Int32)) (p1 &&& (2147483647 : Int32))) (own_max (p0 &&& (2147483647 : Int32)) (p1 &&& (2147483647 : Int32))) ((p2 &&& (2147483647 : Int32)) % (9 : Int32)) ((p3 &&& (2147483647 : Int32)) % (((p2 &&& (2147483647 : Int32)) % (9 : Int32)) + (1 : Int32)))).toInt64))])) _
      refine XS.i2l X3.here hx rfl (hb hby at_128) rfl ?_
      show Steps p.tables e below (T3.setTop (mkF m 129 #[.val (.int p0), .val (.int p1), .val (.int p2), .val (.int p3), .val (.int (p0 &&& (2147483647 : Int32))), .val (.int (p1 &&& (2147483647 : Int32))), .val (.int (own_min (p0 &&& (2147483647 : Int32)) (p1 &&& (2147483647 : Int32)))), .val (.int (own_max (p0 &&& (2147483647 : Int32)) (p1 &&& (2147483647 : Int32)))), .val (.int ((p2 &&& (2147483647 : Int32)) % (9 : Int32))), .val (.int ((p3 &&& (2147483647 : Int32)) % (((p2 &&& (2147483647 : Int32)) % (9 : Int32)) + (1 : Int32)))), .val (.ref r3), .val (.long (((own_max (p0 &&& (2147483647 : Int32)) (p1 &&& (2147483647 : Int32))).toInt64) - ((own_min (p0 &&& (2147483647 : Int32)) (p1 &&& (2147483647 : Int32))).toInt64))), .second, .val (.long ((((own_max (p0 &&& (2147483647 : Int32)) (p1 &&& (2147483647 : Int32))).toInt64) - ((own_min (p0 &&& (2147483647 : Int32)) (p1 &&& (2147483647 : Int32))).toInt64)) * (((p3 &&& (2147483647 : Int32)) % (((p2 &&& (2147483647 : Int32)) % (9 : Int32)) + (1 : Int32))).toInt64))), .second, .unset, .unset] [(.long ((own_min (p0 &&& (2147483647 : Int32)) (p1 &&& (2147483647 : Int32))).toInt64)), (.long ((own_f (own_min (p0 &&& (2147483647 : Int32)) (p1 &&& (2147483647 : Int32))) (own_max (p0 &&& (2147483647 : Int32)) (p1 &&& (2147483647 : Int32))) ((p2 &&& (2147483647 : Int32)) % (9 : Int32)) ((p3 &&& (2147483647 : Int32)) % (((p2 &&& (2147483647 : Int32)) % (9 : Int32)) + (1 : Int32)))).toInt64))])) _
      refine XS.lsub X3.here hx rfl (hb hby at_129) rfl ?_
      show Steps p.tables e below (T3.setTop (mkF m 130 #[.val (.int p0), .val (.int p1), .val (.int p2), .val (.int p3), .val (.int (p0 &&& (2147483647 : Int32))), .val (.int (p1 &&& (2147483647 : Int32))), .val (.int (own_min (p0 &&& (2147483647 : Int32)) (p1 &&& (2147483647 : Int32)))), .val (.int (own_max (p0 &&& (2147483647 : Int32)) (p1 &&& (2147483647 : Int32)))), .val (.int ((p2 &&& (2147483647 : Int32)) % (9 : Int32))), .val (.int ((p3 &&& (2147483647 : Int32)) % (((p2 &&& (2147483647 : Int32)) % (9 : Int32)) + (1 : Int32)))), .val (.ref r3), .val (.long (((own_max (p0 &&& (2147483647 : Int32)) (p1 &&& (2147483647 : Int32))).toInt64) - ((own_min (p0 &&& (2147483647 : Int32)) (p1 &&& (2147483647 : Int32))).toInt64))), .second, .val (.long ((((own_max (p0 &&& (2147483647 : Int32)) (p1 &&& (2147483647 : Int32))).toInt64) - ((own_min (p0 &&& (2147483647 : Int32)) (p1 &&& (2147483647 : Int32))).toInt64)) * (((p3 &&& (2147483647 : Int32)) % (((p2 &&& (2147483647 : Int32)) % (9 : Int32)) + (1 : Int32))).toInt64))), .second, .unset, .unset] [(.long (((own_f (own_min (p0 &&& (2147483647 : Int32)) (p1 &&& (2147483647 : Int32))) (own_max (p0 &&& (2147483647 : Int32)) (p1 &&& (2147483647 : Int32))) ((p2 &&& (2147483647 : Int32)) % (9 : Int32)) ((p3 &&& (2147483647 : Int32)) % (((p2 &&& (2147483647 : Int32)) % (9 : Int32)) + (1 : Int32)))).toInt64) - ((own_min (p0 &&& (2147483647 : Int32)) (p1 &&& (2147483647 : Int32))).toInt64)))])) _
      refine XS.lstore X3.here hx rfl (hb hby at_130) rfl (l' := #[.val (.int p0), .val (.int p1), .val (.int p2), .val (.int p3), .val (.int (p0 &&& (2147483647 : Int32))), .val (.int (p1 &&& (2147483647 : Int32))), .val (.int (own_min (p0 &&& (2147483647 : Int32)) (p1 &&& (2147483647 : Int32)))), .val (.int (own_max (p0 &&& (2147483647 : Int32)) (p1 &&& (2147483647 : Int32)))), .val (.int ((p2 &&& (2147483647 : Int32)) % (9 : Int32))), .val (.int ((p3 &&& (2147483647 : Int32)) % (((p2 &&& (2147483647 : Int32)) % (9 : Int32)) + (1 : Int32)))), .val (.ref r3), .val (.long (((own_max (p0 &&& (2147483647 : Int32)) (p1 &&& (2147483647 : Int32))).toInt64) - ((own_min (p0 &&& (2147483647 : Int32)) (p1 &&& (2147483647 : Int32))).toInt64))), .second, .val (.long ((((own_max (p0 &&& (2147483647 : Int32)) (p1 &&& (2147483647 : Int32))).toInt64) - ((own_min (p0 &&& (2147483647 : Int32)) (p1 &&& (2147483647 : Int32))).toInt64)) * (((p3 &&& (2147483647 : Int32)) % (((p2 &&& (2147483647 : Int32)) % (9 : Int32)) + (1 : Int32))).toInt64))), .second, .val (.long (((own_f (own_min (p0 &&& (2147483647 : Int32)) (p1 &&& (2147483647 : Int32))) (own_max (p0 &&& (2147483647 : Int32)) (p1 &&& (2147483647 : Int32))) ((p2 &&& (2147483647 : Int32)) % (9 : Int32)) ((p3 &&& (2147483647 : Int32)) % (((p2 &&& (2147483647 : Int32)) % (9 : Int32)) + (1 : Int32)))).toInt64) - ((own_min (p0 &&& (2147483647 : Int32)) (p1 &&& (2147483647 : Int32))).toInt64))), .second]) rfl ?_
      show Steps p.tables e below (T3.setTop (mkF m 132 #[.val (.int p0), .val (.int p1), .val (.int p2), .val (.int p3), .val (.int (p0 &&& (2147483647 : Int32))), .val (.int (p1 &&& (2147483647 : Int32))), .val (.int (own_min (p0 &&& (2147483647 : Int32)) (p1 &&& (2147483647 : Int32)))), .val (.int (own_max (p0 &&& (2147483647 : Int32)) (p1 &&& (2147483647 : Int32)))), .val (.int ((p2 &&& (2147483647 : Int32)) % (9 : Int32))), .val (.int ((p3 &&& (2147483647 : Int32)) % (((p2 &&& (2147483647 : Int32)) % (9 : Int32)) + (1 : Int32)))), .val (.ref r3), .val (.long (((own_max (p0 &&& (2147483647 : Int32)) (p1 &&& (2147483647 : Int32))).toInt64) - ((own_min (p0 &&& (2147483647 : Int32)) (p1 &&& (2147483647 : Int32))).toInt64))), .second, .val (.long ((((own_max (p0 &&& (2147483647 : Int32)) (p1 &&& (2147483647 : Int32))).toInt64) - ((own_min (p0 &&& (2147483647 : Int32)) (p1 &&& (2147483647 : Int32))).toInt64)) * (((p3 &&& (2147483647 : Int32)) % (((p2 &&& (2147483647 : Int32)) % (9 : Int32)) + (1 : Int32))).toInt64))), .second, .val (.long (((own_f (own_min (p0 &&& (2147483647 : Int32)) (p1 &&& (2147483647 : Int32))) (own_max (p0 &&& (2147483647 : Int32)) (p1 &&& (2147483647 : Int32))) ((p2 &&& (2147483647 : Int32)) % (9 : Int32)) ((p3 &&& (2147483647 : Int32)) % (((p2 &&& (2147483647 : Int32)) % (9 : Int32)) + (1 : Int32)))).toInt64) - ((own_min (p0 &&& (2147483647 : Int32)) (p1 &&& (2147483647 : Int32))).toInt64))), .second] [])) _
      refine XS.lload X3.here hx rfl (hb hby at_132) rfl ?_
      show Steps p.tables e below (T3.setTop (mkF m 134 #[.val (.int p0), .val (.int p1), .val (.int p2), .val (.int p3), .val (.int (p0 &&& (2147483647 : Int32))), .val (.int (p1 &&& (2147483647 : Int32))), .val (.int (own_min (p0 &&& (2147483647 : Int32)) (p1 &&& (2147483647 : Int32)))), .val (.int (own_max (p0 &&& (2147483647 : Int32)) (p1 &&& (2147483647 : Int32)))), .val (.int ((p2 &&& (2147483647 : Int32)) % (9 : Int32))), .val (.int ((p3 &&& (2147483647 : Int32)) % (((p2 &&& (2147483647 : Int32)) % (9 : Int32)) + (1 : Int32)))), .val (.ref r3), .val (.long (((own_max (p0 &&& (2147483647 : Int32)) (p1 &&& (2147483647 : Int32))).toInt64) - ((own_min (p0 &&& (2147483647 : Int32)) (p1 &&& (2147483647 : Int32))).toInt64))), .second, .val (.long ((((own_max (p0 &&& (2147483647 : Int32)) (p1 &&& (2147483647 : Int32))).toInt64) - ((own_min (p0 &&& (2147483647 : Int32)) (p1 &&& (2147483647 : Int32))).toInt64)) * (((p3 &&& (2147483647 : Int32)) % (((p2 &&& (2147483647 : Int32)) % (9 : Int32)) + (1 : Int32))).toInt64))), .second, .val (.long (((own_f (own_min (p0 &&& (2147483647 : Int32)) (p1 &&& (2147483647 : Int32))) (own_max (p0 &&& (2147483647 : Int32)) (p1 &&& (2147483647 : Int32))) ((p2 &&& (2147483647 : Int32)) % (9 : Int32)) ((p3 &&& (2147483647 : Int32)) % (((p2 &&& (2147483647 : Int32)) % (9 : Int32)) + (1 : Int32)))).toInt64) - ((own_min (p0 &&& (2147483647 : Int32)) (p1 &&& (2147483647 : Int32))).toInt64))), .second] [(.long (((own_f (own_min (p0 &&& (2147483647 : Int32)) (p1 &&& (2147483647 : Int32))) (own_max (p0 &&& (2147483647 : Int32)) (p1 &&& (2147483647 : Int32))) ((p2 &&& (2147483647 : Int32)) % (9 : Int32)) ((p3 &&& (2147483647 : Int32)) % (((p2 &&& (2147483647 : Int32)) % (9 : Int32)) + (1 : Int32)))).toInt64) - ((own_min (p0 &&& (2147483647 : Int32)) (p1 &&& (2147483647 : Int32))).toInt64)))])) _
      refine XS.iload X3.here hx rfl (hb hby at_134) rfl ?_
      show Steps p.tables e below (T3.setTop (mkF m 136 #[.val (.int p0), .val (.int p1), .val (.int p2), .val (.int p3), .val (.int (p0 &&& (2147483647 : Int32))), .val (.int (p1 &&& (2147483647 : Int32))), .val (.int (own_min (p0 &&& (2147483647 : Int32)) (p1 &&& (2147483647 : Int32)))), .val (.int (own_max (p0 &&& (2147483647 : Int32)) (p1 &&& (2147483647 : Int32)))), .val (.int ((p2 &&& (2147483647 : Int32)) % (9 : Int32))), .val (.int ((p3 &&& (2147483647 : Int32)) % (((p2 &&& (2147483647 : Int32)) % (9 : Int32)) + (1 : Int32)))), .val (.ref r3), .val (.long (((own_max (p0 &&& (2147483647 : Int32)) (p1 &&& (2147483647 : Int32))).toInt64) - ((own_min (p0 &&& (2147483647 : Int32)) (p1 &&& (2147483647 : Int32))).toInt64))), .second, .val (.long ((((own_max (p0 &&& (2147483647 : Int32)) (p1 &&& (2147483647 : Int32))).toInt64) - ((own_min (p0 &&& (2147483647 : Int32)) (p1 &&& (2147483647 : Int32))).toInt64)) * (((p3 &&& (2147483647 : Int32)) % (((p2 &&& (2147483647 : Int32)) % (9 : Int32)) + (1 : Int32))).toInt64))), .second, .val (.long (((own_f (own_min (p0 &&& (2147483647 : Int32)) (p1 &&& (2147483647 : Int32))) (own_max (p0 &&& (2147483647 : Int32)) (p1 &&& (2147483647 : Int32))) ((p2 &&& (2147483647 : Int32)) % (9 : Int32)) ((p3 &&& (2147483647 : Int32)) % (((p2 &&& (2147483647 : Int32)) % (9 : Int32)) + (1 : Int32)))).toInt64) - ((own_min (p0 &&& (2147483647 : Int32)) (p1 &&& (2147483647 : Int32))).toInt64))), .second] [(.int ((p2 &&& (2147483647 : Int32)) % (9 : Int32))), (.long (((own_f (own_min (p0 &&& (2147483647 : Int32)) (p1 &&& (2147483647 : Int32))) (own_max (p0 &&& (2147483647 : Int32)) (p1 &&& (2147483647 : Int32))) ((p2 &&& (2147483647 : Int32)) % (9 : Int32)) ((p3 &&& (2147483647 : Int32)) % (((p2 &&& (2147483647 : Int32)) % (9 : Int32)) + (1 : Int32)))).toInt64) - ((own_min (p0 &&& (2147483647 : Int32)) (p1 &&& (2147483647 : Int32))).toInt64)))])) _
      refine XS.i2l X3.here hx rfl (hb hby at_136) rfl ?_
      show Steps p.tables e below (T3.setTop (mkF m 137 #[.val (.int p0), .val (.int p1), .val (.int p2), .val (.int p3), .val (.int (p0 &&& (2147483647 : Int32))), .val (.int (p1 &&& (2147483647 : Int32))), .val (.int (own_min (p0 &&& (2147483647 : Int32)) (p1 &&& (2147483647 : Int32)))), .val (.int (own_max (p0 &&& (2147483647 : Int32)) (p1 &&& (2147483647 : Int32)))), .val (.int ((p2 &&& (2147483647 : Int32)) % (9 : Int32))), .val (.int ((p3 &&& (2147483647 : Int32)) % (((p2 &&& (2147483647 : Int32)) % (9 : Int32)) + (1 : Int32)))), .val (.ref r3), .val (.long (((own_max (p0 &&& (2147483647 : Int32)) (p1 &&& (2147483647 : Int32))).toInt64) - ((own_min (p0 &&& (2147483647 : Int32)) (p1 &&& (2147483647 : Int32))).toInt64))), .second, .val (.long ((((own_max (p0 &&& (2147483647 : Int32)) (p1 &&& (2147483647 : Int32))).toInt64) - ((own_min (p0 &&& (2147483647 : Int32)) (p1 &&& (2147483647 : Int32))).toInt64)) * (((p3 &&& (2147483647 : Int32)) % (((p2 &&& (2147483647 : Int32)) % (9 : Int32)) + (1 : Int32))).toInt64))), .second, .val (.long (((own_f (own_min (p0 &&& (2147483647 : Int32)) (p1 &&& (2147483647 : Int32))) (own_max (p0 &&& (2147483647 : Int32)) (p1 &&& (2147483647 : Int32))) ((p2 &&& (2147483647 : Int32)) % (9 : Int32)) ((p3 &&& (2147483647 : Int32)) % (((p2 &&& (2147483647 : Int32)) % (9 : Int32)) + (1 : Int32)))).toInt64) - ((own_min (p0 &&& (2147483647 : Int32)) (p1 &&& (2147483647 : Int32))).toInt64))), .second] [(.long (((p2 &&& (2147483647 : Int32)) % (9 : Int32)).toInt64)), (.long (((own_f (own_min (p0 &&& (2147483647 : Int32)) (p1 &&& (2147483647 : Int32))) (own_max (p0 &&& (2147483647 : Int32)) (p1 &&& (2147483647 : Int32))) ((p2 &&& (2147483647 : Int32)) % (9 : Int32)) ((p3 &&& (2147483647 : Int32)) % (((p2 &&& (2147483647 : Int32)) % (9 : Int32)) + (1 : Int32)))).toInt64) - ((own_min (p0 &&& (2147483647 : Int32)) (p1 &&& (2147483647 : Int32))).toInt64)))])) _
      refine XS.lmul X3.here hx rfl (hb hby at_137) rfl ?_
      show Steps p.tables e below (T3.setTop (mkF m 138 #[.val (.int p0), .val (.int p1), .val (.int p2), .val (.int p3), .val (.int (p0 &&& (2147483647 : Int32))), .val (.int (p1 &&& (2147483647 : Int32))), .val (.int (own_min (p0 &&& (2147483647 : Int32)) (p1 &&& (2147483647 : Int32)))), .val (.int (own_max (p0 &&& (2147483647 : Int32)) (p1 &&& (2147483647 : Int32)))), .val (.int ((p2 &&& (2147483647 : Int32)) % (9 : Int32))), .val (.int ((p3 &&& (2147483647 : Int32)) % (((p2 &&& (2147483647 : Int32)) % (9 : Int32)) + (1 : Int32)))), .val (.ref r3), .val (.long (((own_max (p0 &&& (2147483647 : Int32)) (p1 &&& (2147483647 : Int32))).toInt64) - ((own_min (p0 &&& (2147483647 : Int32)) (p1 &&& (2147483647 : Int32))).toInt64))), .second, .val (.long ((((own_max (p0 &&& (2147483647 : Int32)) (p1 &&& (2147483647 : Int32))).toInt64) - ((own_min (p0 &&& (2147483647 : Int32)) (p1 &&& (2147483647 : Int32))).toInt64)) * (((p3 &&& (2147483647 : Int32)) % (((p2 &&& (2147483647 : Int32)) % (9 : Int32)) + (1 : Int32))).toInt64))), .second, .val (.long (((own_f (own_min (p0 &&& (2147483647 : Int32)) (p1 &&& (2147483647 : Int32))) (own_max (p0 &&& (2147483647 : Int32)) (p1 &&& (2147483647 : Int32))) ((p2 &&& (2147483647 : Int32)) % (9 : Int32)) ((p3 &&& (2147483647 : Int32)) % (((p2 &&& (2147483647 : Int32)) % (9 : Int32)) + (1 : Int32)))).toInt64) - ((own_min (p0 &&& (2147483647 : Int32)) (p1 &&& (2147483647 : Int32))).toInt64))), .second] [(.long ((((own_f (own_min (p0 &&& (2147483647 : Int32)) (p1 &&& (2147483647 : Int32))) (own_max (p0 &&& (2147483647 : Int32)) (p1 &&& (2147483647 : Int32))) ((p2 &&& (2147483647 : Int32)) % (9 : Int32)) ((p3 &&& (2147483647 : Int32)) % (((p2 &&& (2147483647 : Int32)) % (9 : Int32)) + (1 : Int32)))).toInt64) - ((own_min (p0 &&& (2147483647 : Int32)) (p1 &&& (2147483647 : Int32))).toInt64)) * (((p2 &&& (2147483647 : Int32)) % (9 : Int32)).toInt64)))])) _
      refine XS.lload X3.here hx rfl (hb hby at_138) rfl ?_
      show Steps p.tables e below (T3.setTop (mkF m 140 #[.val (.int p0), .val (.int p1), .val (.int p2), .val (.int p3), .val (.int (p0 &&& (2147483647 : Int32))), .val (.int (p1 &&& (2147483647 : Int32))), .val (.int (own_min (p0 &&& (2147483647 : Int32)) (p1 &&& (2147483647 : Int32)))), .val (.int (own_max (p0 &&& (2147483647 : Int32)) (p1 &&& (2147483647 : Int32)))), .val (.int ((p2 &&& (2147483647 : Int32)) % (9 : Int32))), .val (.int ((p3 &&& (2147483647 : Int32)) % (((p2 &&& (2147483647 : Int32)) % (9 : Int32)) + (1 : Int32)))), .val (.ref r3), .val (.long (((own_max (p0 &&& (2147483647 : Int32)) (p1 &&& (2147483647 : Int32))).toInt64) - ((own_min (p0 &&& (2147483647 : Int32)) (p1 &&& (2147483647 : Int32))).toInt64))), .second, .val (.long ((((own_max (p0 &&& (2147483647 : Int32)) (p1 &&& (2147483647 : Int32))).toInt64) - ((own_min (p0 &&& (2147483647 : Int32)) (p1 &&& (2147483647 : Int32))).toInt64)) * (((p3 &&& (2147483647 : Int32)) % (((p2 &&& (2147483647 : Int32)) % (9 : Int32)) + (1 : Int32))).toInt64))), .second, .val (.long (((own_f (own_min (p0 &&& (2147483647 : Int32)) (p1 &&& (2147483647 : Int32))) (own_max (p0 &&& (2147483647 : Int32)) (p1 &&& (2147483647 : Int32))) ((p2 &&& (2147483647 : Int32)) % (9 : Int32)) ((p3 &&& (2147483647 : Int32)) % (((p2 &&& (2147483647 : Int32)) % (9 : Int32)) + (1 : Int32)))).toInt64) - ((own_min (p0 &&& (2147483647 : Int32)) (p1 &&& (2147483647 : Int32))).toInt64))), .second] [(.long ((((own_max (p0 &&& (2147483647 : Int32)) (p1 &&& (2147483647 : Int32))).toInt64) - ((own_min (p0 &&& (2147483647 : Int32)) (p1 &&& (2147483647 : Int32))).toInt64)) * (((p3 &&& (2147483647 : Int32)) % (((p2 &&& (2147483647 : Int32)) % (9 : Int32)) + (1 : Int32))).toInt64))), (.long ((((own_f (own_min (p0 &&& (2147483647 : Int32)) (p1 &&& (2147483647 : Int32))) (own_max (p0 &&& (2147483647 : Int32)) (p1 &&& (2147483647 : Int32))) ((p2 &&& (2147483647 : Int32)) % (9 : Int32)) ((p3 &&& (2147483647 : Int32)) % (((p2 &&& (2147483647 : Int32)) % (9 : Int32)) + (1 : Int32)))).toInt64) - ((own_min (p0 &&& (2147483647 : Int32)) (p1 &&& (2147483647 : Int32))).toInt64)) * (((p2 &&& (2147483647 : Int32)) % (9 : Int32)).toInt64)))])) _
      refine XS.lcmp X3.here hx rfl (hb hby at_140) rfl ?_
      show Steps p.tables e below (T3.setTop (mkF m 141 #[.val (.int p0), .val (.int p1), .val (.int p2), .val (.int p3), .val (.int (p0 &&& (2147483647 : Int32))), .val (.int (p1 &&& (2147483647 : Int32))), .val (.int (own_min (p0 &&& (2147483647 : Int32)) (p1 &&& (2147483647 : Int32)))), .val (.int (own_max (p0 &&& (2147483647 : Int32)) (p1 &&& (2147483647 : Int32)))), .val (.int ((p2 &&& (2147483647 : Int32)) % (9 : Int32))), .val (.int ((p3 &&& (2147483647 : Int32)) % (((p2 &&& (2147483647 : Int32)) % (9 : Int32)) + (1 : Int32)))), .val (.ref r3), .val (.long (((own_max (p0 &&& (2147483647 : Int32)) (p1 &&& (2147483647 : Int32))).toInt64) - ((own_min (p0 &&& (2147483647 : Int32)) (p1 &&& (2147483647 : Int32))).toInt64))), .second, .val (.long ((((own_max (p0 &&& (2147483647 : Int32)) (p1 &&& (2147483647 : Int32))).toInt64) - ((own_min (p0 &&& (2147483647 : Int32)) (p1 &&& (2147483647 : Int32))).toInt64)) * (((p3 &&& (2147483647 : Int32)) % (((p2 &&& (2147483647 : Int32)) % (9 : Int32)) + (1 : Int32))).toInt64))), .second, .val (.long (((own_f (own_min (p0 &&& (2147483647 : Int32)) (p1 &&& (2147483647 : Int32))) (own_max (p0 &&& (2147483647 : Int32)) (p1 &&& (2147483647 : Int32))) ((p2 &&& (2147483647 : Int32)) % (9 : Int32)) ((p3 &&& (2147483647 : Int32)) % (((p2 &&& (2147483647 : Int32)) % (9 : Int32)) + (1 : Int32)))).toInt64) - ((own_min (p0 &&& (2147483647 : Int32)) (p1 &&& (2147483647 : Int32))).toInt64))), .second] [(.int (lcmpW ((((own_f (own_min (p0 &&& (2147483647 : Int32)) (p1 &&& (2147483647 : Int32))) (own_max (p0 &&& (2147483647 : Int32)) (p1 &&& (2147483647 : Int32))) ((p2 &&& (2147483647 : Int32)) % (9 : Int32)) ((p3 &&& (2147483647 : Int32)) % (((p2 &&& (2147483647 : Int32)) % (9 : Int32)) + (1 : Int32)))).toInt64) - ((own_min (p0 &&& (2147483647 : Int32)) (p1 &&& (2147483647 : Int32))).toInt64)) * (((p2 &&& (2147483647 : Int32)) % (9 : Int32)).toInt64)) ((((own_max (p0 &&& (2147483647 : Int32)) (p1 &&& (2147483647 : Int32))).toInt64) - ((own_min (p0 &&& (2147483647 : Int32)) (p1 &&& (2147483647 : Int32))).toInt64)) * (((p3 &&& (2147483647 : Int32)) % (((p2 &&& (2147483647 : Int32)) % (9 : Int32)) + (1 : Int32))).toInt64))))])) _
      refine XS.ifNo X3.here hx rfl (hb hby at_141) rfl ((if0 _ _).trans (flt (mt (lw_gt ((((own_f (own_min (p0 &&& (2147483647 : Int32)) (p1 &&& (2147483647 : Int32))) (own_max (p0 &&& (2147483647 : Int32)) (p1 &&& (2147483647 : Int32))) ((p2 &&& (2147483647 : Int32)) % (9 : Int32)) ((p3 &&& (2147483647 : Int32)) % (((p2 &&& (2147483647 : Int32)) % (9 : Int32)) + (1 : Int32)))).toInt64) - ((own_min (p0 &&& (2147483647 : Int32)) (p1 &&& (2147483647 : Int32))).toInt64)) * (((p2 &&& (2147483647 : Int32)) % (9 : Int32)).toInt64)) ((((own_max (p0 &&& (2147483647 : Int32)) (p1 &&& (2147483647 : Int32))).toInt64) - ((own_min (p0 &&& (2147483647 : Int32)) (p1 &&& (2147483647 : Int32))).toInt64)) * (((p3 &&& (2147483647 : Int32)) % (((p2 &&& (2147483647 : Int32)) % (9 : Int32)) + (1 : Int32))).toInt64))).mp hcmp1)).2.2.1) ?_
      show Steps p.tables e below (T3.setTop (mkF m 144 #[.val (.int p0), .val (.int p1), .val (.int p2), .val (.int p3), .val (.int (p0 &&& (2147483647 : Int32))), .val (.int (p1 &&& (2147483647 : Int32))), .val (.int (own_min (p0 &&& (2147483647 : Int32)) (p1 &&& (2147483647 : Int32)))), .val (.int (own_max (p0 &&& (2147483647 : Int32)) (p1 &&& (2147483647 : Int32)))), .val (.int ((p2 &&& (2147483647 : Int32)) % (9 : Int32))), .val (.int ((p3 &&& (2147483647 : Int32)) % (((p2 &&& (2147483647 : Int32)) % (9 : Int32)) + (1 : Int32)))), .val (.ref r3), .val (.long (((own_max (p0 &&& (2147483647 : Int32)) (p1 &&& (2147483647 : Int32))).toInt64) - ((own_min (p0 &&& (2147483647 : Int32)) (p1 &&& (2147483647 : Int32))).toInt64))), .second, .val (.long ((((own_max (p0 &&& (2147483647 : Int32)) (p1 &&& (2147483647 : Int32))).toInt64) - ((own_min (p0 &&& (2147483647 : Int32)) (p1 &&& (2147483647 : Int32))).toInt64)) * (((p3 &&& (2147483647 : Int32)) % (((p2 &&& (2147483647 : Int32)) % (9 : Int32)) + (1 : Int32))).toInt64))), .second, .val (.long (((own_f (own_min (p0 &&& (2147483647 : Int32)) (p1 &&& (2147483647 : Int32))) (own_max (p0 &&& (2147483647 : Int32)) (p1 &&& (2147483647 : Int32))) ((p2 &&& (2147483647 : Int32)) % (9 : Int32)) ((p3 &&& (2147483647 : Int32)) % (((p2 &&& (2147483647 : Int32)) % (9 : Int32)) + (1 : Int32)))).toInt64) - ((own_min (p0 &&& (2147483647 : Int32)) (p1 &&& (2147483647 : Int32))).toInt64))), .second] [])) _
      refine XS.lload X3.here hx rfl (hb hby at_144) rfl ?_
      show Steps p.tables e below (T3.setTop (mkF m 146 #[.val (.int p0), .val (.int p1), .val (.int p2), .val (.int p3), .val (.int (p0 &&& (2147483647 : Int32))), .val (.int (p1 &&& (2147483647 : Int32))), .val (.int (own_min (p0 &&& (2147483647 : Int32)) (p1 &&& (2147483647 : Int32)))), .val (.int (own_max (p0 &&& (2147483647 : Int32)) (p1 &&& (2147483647 : Int32)))), .val (.int ((p2 &&& (2147483647 : Int32)) % (9 : Int32))), .val (.int ((p3 &&& (2147483647 : Int32)) % (((p2 &&& (2147483647 : Int32)) % (9 : Int32)) + (1 : Int32)))), .val (.ref r3), .val (.long (((own_max (p0 &&& (2147483647 : Int32)) (p1 &&& (2147483647 : Int32))).toInt64) - ((own_min (p0 &&& (2147483647 : Int32)) (p1 &&& (2147483647 : Int32))).toInt64))), .second, .val (.long ((((own_max (p0 &&& (2147483647 : Int32)) (p1 &&& (2147483647 : Int32))).toInt64) - ((own_min (p0 &&& (2147483647 : Int32)) (p1 &&& (2147483647 : Int32))).toInt64)) * (((p3 &&& (2147483647 : Int32)) % (((p2 &&& (2147483647 : Int32)) % (9 : Int32)) + (1 : Int32))).toInt64))), .second, .val (.long (((own_f (own_min (p0 &&& (2147483647 : Int32)) (p1 &&& (2147483647 : Int32))) (own_max (p0 &&& (2147483647 : Int32)) (p1 &&& (2147483647 : Int32))) ((p2 &&& (2147483647 : Int32)) % (9 : Int32)) ((p3 &&& (2147483647 : Int32)) % (((p2 &&& (2147483647 : Int32)) % (9 : Int32)) + (1 : Int32)))).toInt64) - ((own_min (p0 &&& (2147483647 : Int32)) (p1 &&& (2147483647 : Int32))).toInt64))), .second] [(.long ((((own_max (p0 &&& (2147483647 : Int32)) (p1 &&& (2147483647 : Int32))).toInt64) - ((own_min (p0 &&& (2147483647 : Int32)) (p1 &&& (2147483647 : Int32))).toInt64)) * (((p3 &&& (2147483647 : Int32)) % (((p2 &&& (2147483647 : Int32)) % (9 : Int32)) + (1 : Int32))).toInt64)))])) _
      refine XS.lload X3.here hx rfl (hb hby at_146) rfl ?_
      show Steps p.tables e below (T3.setTop (mkF m 148 #[.val (.int p0), .val (.int p1), .val (.int p2), .val (.int p3), .val (.int (p0 &&& (2147483647 : Int32))), .val (.int (p1 &&& (2147483647 : Int32))), .val (.int (own_min (p0 &&& (2147483647 : Int32)) (p1 &&& (2147483647 : Int32)))), .val (.int (own_max (p0 &&& (2147483647 : Int32)) (p1 &&& (2147483647 : Int32)))), .val (.int ((p2 &&& (2147483647 : Int32)) % (9 : Int32))), .val (.int ((p3 &&& (2147483647 : Int32)) % (((p2 &&& (2147483647 : Int32)) % (9 : Int32)) + (1 : Int32)))), .val (.ref r3), .val (.long (((own_max (p0 &&& (2147483647 : Int32)) (p1 &&& (2147483647 : Int32))).toInt64) - ((own_min (p0 &&& (2147483647 : Int32)) (p1 &&& (2147483647 : Int32))).toInt64))), .second, .val (.long ((((own_max (p0 &&& (2147483647 : Int32)) (p1 &&& (2147483647 : Int32))).toInt64) - ((own_min (p0 &&& (2147483647 : Int32)) (p1 &&& (2147483647 : Int32))).toInt64)) * (((p3 &&& (2147483647 : Int32)) % (((p2 &&& (2147483647 : Int32)) % (9 : Int32)) + (1 : Int32))).toInt64))), .second, .val (.long (((own_f (own_min (p0 &&& (2147483647 : Int32)) (p1 &&& (2147483647 : Int32))) (own_max (p0 &&& (2147483647 : Int32)) (p1 &&& (2147483647 : Int32))) ((p2 &&& (2147483647 : Int32)) % (9 : Int32)) ((p3 &&& (2147483647 : Int32)) % (((p2 &&& (2147483647 : Int32)) % (9 : Int32)) + (1 : Int32)))).toInt64) - ((own_min (p0 &&& (2147483647 : Int32)) (p1 &&& (2147483647 : Int32))).toInt64))), .second] [(.long (((own_f (own_min (p0 &&& (2147483647 : Int32)) (p1 &&& (2147483647 : Int32))) (own_max (p0 &&& (2147483647 : Int32)) (p1 &&& (2147483647 : Int32))) ((p2 &&& (2147483647 : Int32)) % (9 : Int32)) ((p3 &&& (2147483647 : Int32)) % (((p2 &&& (2147483647 : Int32)) % (9 : Int32)) + (1 : Int32)))).toInt64) - ((own_min (p0 &&& (2147483647 : Int32)) (p1 &&& (2147483647 : Int32))).toInt64))), (.long ((((own_max (p0 &&& (2147483647 : Int32)) (p1 &&& (2147483647 : Int32))).toInt64) - ((own_min (p0 &&& (2147483647 : Int32)) (p1 &&& (2147483647 : Int32))).toInt64)) * (((p3 &&& (2147483647 : Int32)) % (((p2 &&& (2147483647 : Int32)) % (9 : Int32)) + (1 : Int32))).toInt64)))])) _
      refine XS.lconst X3.here hx rfl (hb hby at_148) ?_
      show Steps p.tables e below (T3.setTop (mkF m 149 #[.val (.int p0), .val (.int p1), .val (.int p2), .val (.int p3), .val (.int (p0 &&& (2147483647 : Int32))), .val (.int (p1 &&& (2147483647 : Int32))), .val (.int (own_min (p0 &&& (2147483647 : Int32)) (p1 &&& (2147483647 : Int32)))), .val (.int (own_max (p0 &&& (2147483647 : Int32)) (p1 &&& (2147483647 : Int32)))), .val (.int ((p2 &&& (2147483647 : Int32)) % (9 : Int32))), .val (.int ((p3 &&& (2147483647 : Int32)) % (((p2 &&& (2147483647 : Int32)) % (9 : Int32)) + (1 : Int32)))), .val (.ref r3), .val (.long (((own_max (p0 &&& (2147483647 : Int32)) (p1 &&& (2147483647 : Int32))).toInt64) - ((own_min (p0 &&& (2147483647 : Int32)) (p1 &&& (2147483647 : Int32))).toInt64))), .second, .val (.long ((((own_max (p0 &&& (2147483647 : Int32)) (p1 &&& (2147483647 : Int32))).toInt64) - ((own_min (p0 &&& (2147483647 : Int32)) (p1 &&& (2147483647 : Int32))).toInt64)) * (((p3 &&& (2147483647 : Int32)) % (((p2 &&& (2147483647 : Int32)) % (9 : Int32)) + (1 : Int32))).toInt64))), .second, .val (.long (((own_f (own_min (p0 &&& (2147483647 : Int32)) (p1 &&& (2147483647 : Int32))) (own_max (p0 &&& (2147483647 : Int32)) (p1 &&& (2147483647 : Int32))) ((p2 &&& (2147483647 : Int32)) % (9 : Int32)) ((p3 &&& (2147483647 : Int32)) % (((p2 &&& (2147483647 : Int32)) % (9 : Int32)) + (1 : Int32)))).toInt64) - ((own_min (p0 &&& (2147483647 : Int32)) (p1 &&& (2147483647 : Int32))).toInt64))), .second] [(.long (1 : Int64)), (.long (((own_f (own_min (p0 &&& (2147483647 : Int32)) (p1 &&& (2147483647 : Int32))) (own_max (p0 &&& (2147483647 : Int32)) (p1 &&& (2147483647 : Int32))) ((p2 &&& (2147483647 : Int32)) % (9 : Int32)) ((p3 &&& (2147483647 : Int32)) % (((p2 &&& (2147483647 : Int32)) % (9 : Int32)) + (1 : Int32)))).toInt64) - ((own_min (p0 &&& (2147483647 : Int32)) (p1 &&& (2147483647 : Int32))).toInt64))), (.long ((((own_max (p0 &&& (2147483647 : Int32)) (p1 &&& (2147483647 : Int32))).toInt64) - ((own_min (p0 &&& (2147483647 : Int32)) (p1 &&& (2147483647 : Int32))).toInt64)) * (((p3 &&& (2147483647 : Int32)) % (((p2 &&& (2147483647 : Int32)) % (9 : Int32)) + (1 : Int32))).toInt64)))])) _
      refine XS.ladd X3.here hx rfl (hb hby at_149) rfl ?_
      show Steps p.tables e below (T3.setTop (mkF m 150 #[.val (.int p0), .val (.int p1), .val (.int p2), .val (.int p3), .val (.int (p0 &&& (2147483647 : Int32))), .val (.int (p1 &&& (2147483647 : Int32))), .val (.int (own_min (p0 &&& (2147483647 : Int32)) (p1 &&& (2147483647 : Int32)))), .val (.int (own_max (p0 &&& (2147483647 : Int32)) (p1 &&& (2147483647 : Int32)))), .val (.int ((p2 &&& (2147483647 : Int32)) % (9 : Int32))), .val (.int ((p3 &&& (2147483647 : Int32)) % (((p2 &&& (2147483647 : Int32)) % (9 : Int32)) + (1 : Int32)))), .val (.ref r3), .val (.long (((own_max (p0 &&& (2147483647 : Int32)) (p1 &&& (2147483647 : Int32))).toInt64) - ((own_min (p0 &&& (2147483647 : Int32)) (p1 &&& (2147483647 : Int32))).toInt64))), .second, .val (.long ((((own_max (p0 &&& (2147483647 : Int32)) (p1 &&& (2147483647 : Int32))).toInt64) - ((own_min (p0 &&& (2147483647 : Int32)) (p1 &&& (2147483647 : Int32))).toInt64)) * (((p3 &&& (2147483647 : Int32)) % (((p2 &&& (2147483647 : Int32)) % (9 : Int32)) + (1 : Int32))).toInt64))), .second, .val (.long (((own_f (own_min (p0 &&& (2147483647 : Int32)) (p1 &&& (2147483647 : Int32))) (own_max (p0 &&& (2147483647 : Int32)) (p1 &&& (2147483647 : Int32))) ((p2 &&& (2147483647 : Int32)) % (9 : Int32)) ((p3 &&& (2147483647 : Int32)) % (((p2 &&& (2147483647 : Int32)) % (9 : Int32)) + (1 : Int32)))).toInt64) - ((own_min (p0 &&& (2147483647 : Int32)) (p1 &&& (2147483647 : Int32))).toInt64))), .second] [(.long ((((own_f (own_min (p0 &&& (2147483647 : Int32)) (p1 &&& (2147483647 : Int32))) (own_max (p0 &&& (2147483647 : Int32)) (p1 &&& (2147483647 : Int32))) ((p2 &&& (2147483647 : Int32)) % (9 : Int32)) ((p3 &&& (2147483647 : Int32)) % (((p2 &&& (2147483647 : Int32)) % (9 : Int32)) + (1 : Int32)))).toInt64) - ((own_min (p0 &&& (2147483647 : Int32)) (p1 &&& (2147483647 : Int32))).toInt64)) + (1 : Int64))), (.long ((((own_max (p0 &&& (2147483647 : Int32)) (p1 &&& (2147483647 : Int32))).toInt64) - ((own_min (p0 &&& (2147483647 : Int32)) (p1 &&& (2147483647 : Int32))).toInt64)) * (((p3 &&& (2147483647 : Int32)) % (((p2 &&& (2147483647 : Int32)) % (9 : Int32)) + (1 : Int32))).toInt64)))])) _
      refine XS.iload X3.here hx rfl (hb hby at_150) rfl ?_
      show Steps p.tables e below (T3.setTop (mkF m 152 #[.val (.int p0), .val (.int p1), .val (.int p2), .val (.int p3), .val (.int (p0 &&& (2147483647 : Int32))), .val (.int (p1 &&& (2147483647 : Int32))), .val (.int (own_min (p0 &&& (2147483647 : Int32)) (p1 &&& (2147483647 : Int32)))), .val (.int (own_max (p0 &&& (2147483647 : Int32)) (p1 &&& (2147483647 : Int32)))), .val (.int ((p2 &&& (2147483647 : Int32)) % (9 : Int32))), .val (.int ((p3 &&& (2147483647 : Int32)) % (((p2 &&& (2147483647 : Int32)) % (9 : Int32)) + (1 : Int32)))), .val (.ref r3), .val (.long (((own_max (p0 &&& (2147483647 : Int32)) (p1 &&& (2147483647 : Int32))).toInt64) - ((own_min (p0 &&& (2147483647 : Int32)) (p1 &&& (2147483647 : Int32))).toInt64))), .second, .val (.long ((((own_max (p0 &&& (2147483647 : Int32)) (p1 &&& (2147483647 : Int32))).toInt64) - ((own_min (p0 &&& (2147483647 : Int32)) (p1 &&& (2147483647 : Int32))).toInt64)) * (((p3 &&& (2147483647 : Int32)) % (((p2 &&& (2147483647 : Int32)) % (9 : Int32)) + (1 : Int32))).toInt64))), .second, .val (.long (((own_f (own_min (p0 &&& (2147483647 : Int32)) (p1 &&& (2147483647 : Int32))) (own_max (p0 &&& (2147483647 : Int32)) (p1 &&& (2147483647 : Int32))) ((p2 &&& (2147483647 : Int32)) % (9 : Int32)) ((p3 &&& (2147483647 : Int32)) % (((p2 &&& (2147483647 : Int32)) % (9 : Int32)) + (1 : Int32)))).toInt64) - ((own_min (p0 &&& (2147483647 : Int32)) (p1 &&& (2147483647 : Int32))).toInt64))), .second] [(.int ((p2 &&& (2147483647 : Int32)) % (9 : Int32))), (.long ((((own_f (own_min (p0 &&& (2147483647 : Int32)) (p1 &&& (2147483647 : Int32))) (own_max (p0 &&& (2147483647 : Int32)) (p1 &&& (2147483647 : Int32))) ((p2 &&& (2147483647 : Int32)) % (9 : Int32)) ((p3 &&& (2147483647 : Int32)) % (((p2 &&& (2147483647 : Int32)) % (9 : Int32)) + (1 : Int32)))).toInt64) - ((own_min (p0 &&& (2147483647 : Int32)) (p1 &&& (2147483647 : Int32))).toInt64)) + (1 : Int64))), (.long ((((own_max (p0 &&& (2147483647 : Int32)) (p1 &&& (2147483647 : Int32))).toInt64) - ((own_min (p0 &&& (2147483647 : Int32)) (p1 &&& (2147483647 : Int32))).toInt64)) * (((p3 &&& (2147483647 : Int32)) % (((p2 &&& (2147483647 : Int32)) % (9 : Int32)) + (1 : Int32))).toInt64)))])) _
      refine XS.i2l X3.here hx rfl (hb hby at_152) rfl ?_
      show Steps p.tables e below (T3.setTop (mkF m 153 #[.val (.int p0), .val (.int p1), .val (.int p2), .val (.int p3), .val (.int (p0 &&& (2147483647 : Int32))), .val (.int (p1 &&& (2147483647 : Int32))), .val (.int (own_min (p0 &&& (2147483647 : Int32)) (p1 &&& (2147483647 : Int32)))), .val (.int (own_max (p0 &&& (2147483647 : Int32)) (p1 &&& (2147483647 : Int32)))), .val (.int ((p2 &&& (2147483647 : Int32)) % (9 : Int32))), .val (.int ((p3 &&& (2147483647 : Int32)) % (((p2 &&& (2147483647 : Int32)) % (9 : Int32)) + (1 : Int32)))), .val (.ref r3), .val (.long (((own_max (p0 &&& (2147483647 : Int32)) (p1 &&& (2147483647 : Int32))).toInt64) - ((own_min (p0 &&& (2147483647 : Int32)) (p1 &&& (2147483647 : Int32))).toInt64))), .second, .val (.long ((((own_max (p0 &&& (2147483647 : Int32)) (p1 &&& (2147483647 : Int32))).toInt64) - ((own_min (p0 &&& (2147483647 : Int32)) (p1 &&& (2147483647 : Int32))).toInt64)) * (((p3 &&& (2147483647 : Int32)) % (((p2 &&& (2147483647 : Int32)) % (9 : Int32)) + (1 : Int32))).toInt64))), .second, .val (.long (((own_f (own_min (p0 &&& (2147483647 : Int32)) (p1 &&& (2147483647 : Int32))) (own_max (p0 &&& (2147483647 : Int32)) (p1 &&& (2147483647 : Int32))) ((p2 &&& (2147483647 : Int32)) % (9 : Int32)) ((p3 &&& (2147483647 : Int32)) % (((p2 &&& (2147483647 : Int32)) % (9 : Int32)) + (1 : Int32)))).toInt64) - ((own_min (p0 &&& (2147483647 : Int32)) (p1 &&& (2147483647 : Int32))).toInt64))), .second] [(.long (((p2 &&& (2147483647 : Int32)) % (9 : Int32)).toInt64)), (.long ((((own_f (own_min (p0 &&& (2147483647 : Int32)) (p1 &&& (2147483647 : Int32))) (own_max (p0 &&& (2147483647 : Int32)) (p1 &&& (2147483647 : Int32))) ((p2 &&& (2147483647 : Int32)) % (9 : Int32)) ((p3 &&& (2147483647 : Int32)) % (((p2 &&& (2147483647 : Int32)) % (9 : Int32)) + (1 : Int32)))).toInt64) - ((own_min (p0 &&& (2147483647 : Int32)) (p1 &&& (2147483647 : Int32))).toInt64)) + (1 : Int64))), (.long ((((own_max (p0 &&& (2147483647 : Int32)) (p1 &&& (2147483647 : Int32))).toInt64) - ((own_min (p0 &&& (2147483647 : Int32)) (p1 &&& (2147483647 : Int32))).toInt64)) * (((p3 &&& (2147483647 : Int32)) % (((p2 &&& (2147483647 : Int32)) % (9 : Int32)) + (1 : Int32))).toInt64)))])) _
      refine XS.lmul X3.here hx rfl (hb hby at_153) rfl ?_
      show Steps p.tables e below (T3.setTop (mkF m 154 #[.val (.int p0), .val (.int p1), .val (.int p2), .val (.int p3), .val (.int (p0 &&& (2147483647 : Int32))), .val (.int (p1 &&& (2147483647 : Int32))), .val (.int (own_min (p0 &&& (2147483647 : Int32)) (p1 &&& (2147483647 : Int32)))), .val (.int (own_max (p0 &&& (2147483647 : Int32)) (p1 &&& (2147483647 : Int32)))), .val (.int ((p2 &&& (2147483647 : Int32)) % (9 : Int32))), .val (.int ((p3 &&& (2147483647 : Int32)) % (((p2 &&& (2147483647 : Int32)) % (9 : Int32)) + (1 : Int32)))), .val (.ref r3), .val (.long (((own_max (p0 &&& (2147483647 : Int32)) (p1 &&& (2147483647 : Int32))).toInt64) - ((own_min (p0 &&& (2147483647 : Int32)) (p1 &&& (2147483647 : Int32))).toInt64))), .second, .val (.long ((((own_max (p0 &&& (2147483647 : Int32)) (p1 &&& (2147483647 : Int32))).toInt64) - ((own_min (p0 &&& (2147483647 : Int32)) (p1 &&& (2147483647 : Int32))).toInt64)) * (((p3 &&& (2147483647 : Int32)) % (((p2 &&& (2147483647 : Int32)) % (9 : Int32)) + (1 : Int32))).toInt64))), .second, .val (.long (((own_f (own_min (p0 &&& (2147483647 : Int32)) (p1 &&& (2147483647 : Int32))) (own_max (p0 &&& (2147483647 : Int32)) (p1 &&& (2147483647 : Int32))) ((p2 &&& (2147483647 : Int32)) % (9 : Int32)) ((p3 &&& (2147483647 : Int32)) % (((p2 &&& (2147483647 : Int32)) % (9 : Int32)) + (1 : Int32)))).toInt64) - ((own_min (p0 &&& (2147483647 : Int32)) (p1 &&& (2147483647 : Int32))).toInt64))), .second] [(.long (((((own_f (own_min (p0 &&& (2147483647 : Int32)) (p1 &&& (2147483647 : Int32))) (own_max (p0 &&& (2147483647 : Int32)) (p1 &&& (2147483647 : Int32))) ((p2 &&& (2147483647 : Int32)) % (9 : Int32)) ((p3 &&& (2147483647 : Int32)) % (((p2 &&& (2147483647 : Int32)) % (9 : Int32)) + (1 : Int32)))).toInt64) - ((own_min (p0 &&& (2147483647 : Int32)) (p1 &&& (2147483647 : Int32))).toInt64)) + (1 : Int64)) * (((p2 &&& (2147483647 : Int32)) % (9 : Int32)).toInt64))), (.long ((((own_max (p0 &&& (2147483647 : Int32)) (p1 &&& (2147483647 : Int32))).toInt64) - ((own_min (p0 &&& (2147483647 : Int32)) (p1 &&& (2147483647 : Int32))).toInt64)) * (((p3 &&& (2147483647 : Int32)) % (((p2 &&& (2147483647 : Int32)) % (9 : Int32)) + (1 : Int32))).toInt64)))])) _
      refine XS.lcmp X3.here hx rfl (hb hby at_154) rfl ?_
      show Steps p.tables e below (T3.setTop (mkF m 155 #[.val (.int p0), .val (.int p1), .val (.int p2), .val (.int p3), .val (.int (p0 &&& (2147483647 : Int32))), .val (.int (p1 &&& (2147483647 : Int32))), .val (.int (own_min (p0 &&& (2147483647 : Int32)) (p1 &&& (2147483647 : Int32)))), .val (.int (own_max (p0 &&& (2147483647 : Int32)) (p1 &&& (2147483647 : Int32)))), .val (.int ((p2 &&& (2147483647 : Int32)) % (9 : Int32))), .val (.int ((p3 &&& (2147483647 : Int32)) % (((p2 &&& (2147483647 : Int32)) % (9 : Int32)) + (1 : Int32)))), .val (.ref r3), .val (.long (((own_max (p0 &&& (2147483647 : Int32)) (p1 &&& (2147483647 : Int32))).toInt64) - ((own_min (p0 &&& (2147483647 : Int32)) (p1 &&& (2147483647 : Int32))).toInt64))), .second, .val (.long ((((own_max (p0 &&& (2147483647 : Int32)) (p1 &&& (2147483647 : Int32))).toInt64) - ((own_min (p0 &&& (2147483647 : Int32)) (p1 &&& (2147483647 : Int32))).toInt64)) * (((p3 &&& (2147483647 : Int32)) % (((p2 &&& (2147483647 : Int32)) % (9 : Int32)) + (1 : Int32))).toInt64))), .second, .val (.long (((own_f (own_min (p0 &&& (2147483647 : Int32)) (p1 &&& (2147483647 : Int32))) (own_max (p0 &&& (2147483647 : Int32)) (p1 &&& (2147483647 : Int32))) ((p2 &&& (2147483647 : Int32)) % (9 : Int32)) ((p3 &&& (2147483647 : Int32)) % (((p2 &&& (2147483647 : Int32)) % (9 : Int32)) + (1 : Int32)))).toInt64) - ((own_min (p0 &&& (2147483647 : Int32)) (p1 &&& (2147483647 : Int32))).toInt64))), .second] [(.int (lcmpW ((((own_max (p0 &&& (2147483647 : Int32)) (p1 &&& (2147483647 : Int32))).toInt64) - ((own_min (p0 &&& (2147483647 : Int32)) (p1 &&& (2147483647 : Int32))).toInt64)) * (((p3 &&& (2147483647 : Int32)) % (((p2 &&& (2147483647 : Int32)) % (9 : Int32)) + (1 : Int32))).toInt64)) (((((own_f (own_min (p0 &&& (2147483647 : Int32)) (p1 &&& (2147483647 : Int32))) (own_max (p0 &&& (2147483647 : Int32)) (p1 &&& (2147483647 : Int32))) ((p2 &&& (2147483647 : Int32)) % (9 : Int32)) ((p3 &&& (2147483647 : Int32)) % (((p2 &&& (2147483647 : Int32)) % (9 : Int32)) + (1 : Int32)))).toInt64) - ((own_min (p0 &&& (2147483647 : Int32)) (p1 &&& (2147483647 : Int32))).toInt64)) + (1 : Int64)) * (((p2 &&& (2147483647 : Int32)) % (9 : Int32)).toInt64))))])) _
      refine XS.ifNo X3.here hx rfl (hb hby at_155) rfl ((if0 _ _).trans (tlt ((lw_lt ((((own_max (p0 &&& (2147483647 : Int32)) (p1 &&& (2147483647 : Int32))).toInt64) - ((own_min (p0 &&& (2147483647 : Int32)) (p1 &&& (2147483647 : Int32))).toInt64)) * (((p3 &&& (2147483647 : Int32)) % (((p2 &&& (2147483647 : Int32)) % (9 : Int32)) + (1 : Int32))).toInt64)) (((((own_f (own_min (p0 &&& (2147483647 : Int32)) (p1 &&& (2147483647 : Int32))) (own_max (p0 &&& (2147483647 : Int32)) (p1 &&& (2147483647 : Int32))) ((p2 &&& (2147483647 : Int32)) % (9 : Int32)) ((p3 &&& (2147483647 : Int32)) % (((p2 &&& (2147483647 : Int32)) % (9 : Int32)) + (1 : Int32)))).toInt64) - ((own_min (p0 &&& (2147483647 : Int32)) (p1 &&& (2147483647 : Int32))).toInt64)) + (1 : Int64)) * (((p2 &&& (2147483647 : Int32)) % (9 : Int32)).toInt64))).mpr hcmp2)).2.1) ?_
      show Steps p.tables e below (T3.setTop (mkF m 158 #[.val (.int p0), .val (.int p1), .val (.int p2), .val (.int p3), .val (.int (p0 &&& (2147483647 : Int32))), .val (.int (p1 &&& (2147483647 : Int32))), .val (.int (own_min (p0 &&& (2147483647 : Int32)) (p1 &&& (2147483647 : Int32)))), .val (.int (own_max (p0 &&& (2147483647 : Int32)) (p1 &&& (2147483647 : Int32)))), .val (.int ((p2 &&& (2147483647 : Int32)) % (9 : Int32))), .val (.int ((p3 &&& (2147483647 : Int32)) % (((p2 &&& (2147483647 : Int32)) % (9 : Int32)) + (1 : Int32)))), .val (.ref r3), .val (.long (((own_max (p0 &&& (2147483647 : Int32)) (p1 &&& (2147483647 : Int32))).toInt64) - ((own_min (p0 &&& (2147483647 : Int32)) (p1 &&& (2147483647 : Int32))).toInt64))), .second, .val (.long ((((own_max (p0 &&& (2147483647 : Int32)) (p1 &&& (2147483647 : Int32))).toInt64) - ((own_min (p0 &&& (2147483647 : Int32)) (p1 &&& (2147483647 : Int32))).toInt64)) * (((p3 &&& (2147483647 : Int32)) % (((p2 &&& (2147483647 : Int32)) % (9 : Int32)) + (1 : Int32))).toInt64))), .second, .val (.long (((own_f (own_min (p0 &&& (2147483647 : Int32)) (p1 &&& (2147483647 : Int32))) (own_max (p0 &&& (2147483647 : Int32)) (p1 &&& (2147483647 : Int32))) ((p2 &&& (2147483647 : Int32)) % (9 : Int32)) ((p3 &&& (2147483647 : Int32)) % (((p2 &&& (2147483647 : Int32)) % (9 : Int32)) + (1 : Int32)))).toInt64) - ((own_min (p0 &&& (2147483647 : Int32)) (p1 &&& (2147483647 : Int32))).toInt64))), .second] [])) _
      refine XS.iconst X3.here hx rfl (hb hby at_158) ?_
      show Steps p.tables e below (T3.setTop (mkF m 159 #[.val (.int p0), .val (.int p1), .val (.int p2), .val (.int p3), .val (.int (p0 &&& (2147483647 : Int32))), .val (.int (p1 &&& (2147483647 : Int32))), .val (.int (own_min (p0 &&& (2147483647 : Int32)) (p1 &&& (2147483647 : Int32)))), .val (.int (own_max (p0 &&& (2147483647 : Int32)) (p1 &&& (2147483647 : Int32)))), .val (.int ((p2 &&& (2147483647 : Int32)) % (9 : Int32))), .val (.int ((p3 &&& (2147483647 : Int32)) % (((p2 &&& (2147483647 : Int32)) % (9 : Int32)) + (1 : Int32)))), .val (.ref r3), .val (.long (((own_max (p0 &&& (2147483647 : Int32)) (p1 &&& (2147483647 : Int32))).toInt64) - ((own_min (p0 &&& (2147483647 : Int32)) (p1 &&& (2147483647 : Int32))).toInt64))), .second, .val (.long ((((own_max (p0 &&& (2147483647 : Int32)) (p1 &&& (2147483647 : Int32))).toInt64) - ((own_min (p0 &&& (2147483647 : Int32)) (p1 &&& (2147483647 : Int32))).toInt64)) * (((p3 &&& (2147483647 : Int32)) % (((p2 &&& (2147483647 : Int32)) % (9 : Int32)) + (1 : Int32))).toInt64))), .second, .val (.long (((own_f (own_min (p0 &&& (2147483647 : Int32)) (p1 &&& (2147483647 : Int32))) (own_max (p0 &&& (2147483647 : Int32)) (p1 &&& (2147483647 : Int32))) ((p2 &&& (2147483647 : Int32)) % (9 : Int32)) ((p3 &&& (2147483647 : Int32)) % (((p2 &&& (2147483647 : Int32)) % (9 : Int32)) + (1 : Int32)))).toInt64) - ((own_min (p0 &&& (2147483647 : Int32)) (p1 &&& (2147483647 : Int32))).toInt64))), .second] [(.int (1 : Int32))])) _
      refine XS.goto X3.here hx rfl (pc0 := 159) (pc' := 163) rfl (hb hby at_159) (by decide) (by decide) ?_
      show Steps p.tables e below (T3.setTop (mkF m 163 #[.val (.int p0), .val (.int p1), .val (.int p2), .val (.int p3), .val (.int (p0 &&& (2147483647 : Int32))), .val (.int (p1 &&& (2147483647 : Int32))), .val (.int (own_min (p0 &&& (2147483647 : Int32)) (p1 &&& (2147483647 : Int32)))), .val (.int (own_max (p0 &&& (2147483647 : Int32)) (p1 &&& (2147483647 : Int32)))), .val (.int ((p2 &&& (2147483647 : Int32)) % (9 : Int32))), .val (.int ((p3 &&& (2147483647 : Int32)) % (((p2 &&& (2147483647 : Int32)) % (9 : Int32)) + (1 : Int32)))), .val (.ref r3), .val (.long (((own_max (p0 &&& (2147483647 : Int32)) (p1 &&& (2147483647 : Int32))).toInt64) - ((own_min (p0 &&& (2147483647 : Int32)) (p1 &&& (2147483647 : Int32))).toInt64))), .second, .val (.long ((((own_max (p0 &&& (2147483647 : Int32)) (p1 &&& (2147483647 : Int32))).toInt64) - ((own_min (p0 &&& (2147483647 : Int32)) (p1 &&& (2147483647 : Int32))).toInt64)) * (((p3 &&& (2147483647 : Int32)) % (((p2 &&& (2147483647 : Int32)) % (9 : Int32)) + (1 : Int32))).toInt64))), .second, .val (.long (((own_f (own_min (p0 &&& (2147483647 : Int32)) (p1 &&& (2147483647 : Int32))) (own_max (p0 &&& (2147483647 : Int32)) (p1 &&& (2147483647 : Int32))) ((p2 &&& (2147483647 : Int32)) % (9 : Int32)) ((p3 &&& (2147483647 : Int32)) % (((p2 &&& (2147483647 : Int32)) % (9 : Int32)) + (1 : Int32)))).toInt64) - ((own_min (p0 &&& (2147483647 : Int32)) (p1 &&& (2147483647 : Int32))).toInt64))), .second] [(.int (1 : Int32))])) _
      exact q)
    obtain ⟨fs, hr, hrun, hended, hW, hsame⟩ := X3.leave (v := some (.int (1 : Int32))) (fun h => by rw [Bd.returns] at h; cases h)
    refine ⟨_, _, k0 _ (k11 _ ?_), hrun, hended, _, _, rfl, ?_, ⟨_, rfl⟩, hW, hsame.mono (by decide) (by decide)⟩
    · show Steps p.tables e below (T3.setTop (mkF m 163 #[.val (.int p0), .val (.int p1), .val (.int p2), .val (.int p3), .val (.int (p0 &&& (2147483647 : Int32))), .val (.int (p1 &&& (2147483647 : Int32))), .val (.int (own_min (p0 &&& (2147483647 : Int32)) (p1 &&& (2147483647 : Int32)))), .val (.int (own_max (p0 &&& (2147483647 : Int32)) (p1 &&& (2147483647 : Int32)))), .val (.int ((p2 &&& (2147483647 : Int32)) % (9 : Int32))), .val (.int ((p3 &&& (2147483647 : Int32)) % (((p2 &&& (2147483647 : Int32)) % (9 : Int32)) + (1 : Int32)))), .val (.ref r3), .val (.long (((own_max (p0 &&& (2147483647 : Int32)) (p1 &&& (2147483647 : Int32))).toInt64) - ((own_min (p0 &&& (2147483647 : Int32)) (p1 &&& (2147483647 : Int32))).toInt64))), .second, .val (.long ((((own_max (p0 &&& (2147483647 : Int32)) (p1 &&& (2147483647 : Int32))).toInt64) - ((own_min (p0 &&& (2147483647 : Int32)) (p1 &&& (2147483647 : Int32))).toInt64)) * (((p3 &&& (2147483647 : Int32)) % (((p2 &&& (2147483647 : Int32)) % (9 : Int32)) + (1 : Int32))).toInt64))), .second, .val (.long (((own_f (own_min (p0 &&& (2147483647 : Int32)) (p1 &&& (2147483647 : Int32))) (own_max (p0 &&& (2147483647 : Int32)) (p1 &&& (2147483647 : Int32))) ((p2 &&& (2147483647 : Int32)) % (9 : Int32)) ((p3 &&& (2147483647 : Int32)) % (((p2 &&& (2147483647 : Int32)) % (9 : Int32)) + (1 : Int32)))).toInt64) - ((own_min (p0 &&& (2147483647 : Int32)) (p1 &&& (2147483647 : Int32))).toInt64))), .second] [(.int (1 : Int32))])) _
      exact retN X3 hx (t := .boolean) Bd.returns (by simp) (hb hby at_163) hr
    · show Q0 Z p0 p1 p2 p3 h0 n0 _ T3.heap _
      exact ⟨rfl, N3⟩
set_option maxRecDepth 65536 in
set_option maxHeartbeats 40000000 in
theorem comes_1 {Post : Tables → Env → Array Value → State → Outcome → State → Prop} (hpost : ∀ tb e args s v u, (limb_1_1.after args s (.returned v) u = true ∧ limb_1_2.after args s (.returned v) u = true ∧ True) → FrameEnd s (.returned v) u (Jvm.fieldLocs frame_1_writes args s ++ Jvm.arrayLocs frame_1_arrays args s ++ Jvm.staticLocs frame_1_statics s) 16 128 → Post tb e args s (.returned v) u) :
    ArmFor flags0 classFile x code maxLocals ret World_1 tables_1 room_1 Calls_1 rest_1 Pre_1 Post := by
  intro l hfl _ _ p e ha hc hk s m args below hf hA hF happ hP
  obtain ⟨hcalls, hrest, hpre⟩ := hP
  obtain ⟨-, -, -, hnamed, -, -, -, hat⟩ := (Spec.applies_iff hf).mp happ
  obtain ⟨hg, hn⟩ := and_e (Cond.before_iff.mp (show (Jvm.Cond.and given_1 narrow_1).before args s = true from hpre))
  obtain ⟨hgc, hg0⟩ := and_e hg
  obtain ⟨ga0, hg1⟩ := and_e hg0
  obtain ⟨ga1, hg2⟩ := and_e hg1
  obtain ⟨ga2, hg3⟩ := and_e hg2
  obtain ⟨w0, w1, w2, w3, rfl⟩ : ∃ w0 w1 w2 w3 : Value, args = #[w0, w1, w2, w3] := by
    have hs : args.size = 4 := by simpa [Cond.value, given_1] using hgc
    obtain ⟨L⟩ := args
    match L, hs with
    | [w0, w1, w2, w3], _ => exact ⟨w0, w1, w2, w3, rfl⟩
  have hw := fun d (hd : d ∈ tables_1) => atoms_spec (ws := Jvm.Cond.code x code maxLocals ret :: tables_1) hat d (List.mem_cons_of_mem _ hd)
  have hfit : Fit s := fun {y c} hc i hi => by
    obtain ⟨ha, rfl⟩ := Array.getElem?_eq_some_iff.mp hc
    have q := List.all_eq_true.mp ((Array.all_eq_true_iff_forall_mem.mp hF) _ (Array.getElem_mem ha)) i (List.mem_range.mpr hi)
    simpa [Array.getElem?_eq_getElem hi] using q
  obtain ⟨i0, ei0⟩ := is_v ga0
  obtain rfl : w0 = (.int i0) := Option.some.inj ei0
  obtain ⟨i1, ei1⟩ := is_v ga1
  obtain rfl : w1 = (.int i1) := Option.some.inj ei1
  obtain ⟨i2, ei2⟩ := is_v ga2
  obtain rfl : w2 = (.int i2) := Option.some.inj ei2
  obtain ⟨i3, ei3⟩ := is_v hg3
  obtain rfl : w3 = (.int i3) := Option.some.inj ei3
  obtain ⟨n, o, h1, h2, h3, _, L, rfl, ⟨rfl, N⟩, hq⟩ := rm0 l s _ hw tables_1 i0 i1 i2 i3 s.heap s.heap.size (Nat.le_refl _) p e ha hc hk s m _ below hf ((Spec.applies_iff_loose hf).mp happ).1 ⟨rfl, State.Warmed39.refl s, rfl⟩ trivial
  refine ⟨n, _, h1, h2, h3, hpost _ _ _ _ _ _ ⟨Cond.after_iff.mpr rfl, Cond.after_iff.mpr (eq_i res_at (Term.int_eval (1)) rfl), trivial⟩ ⟨hq.1, hq.2.1, (hq.2.2.sift fun y hy => Or.inr (N y hy)).mono (by decide) (by decide)⟩⟩
theorem main_1_1 : Claimed_1_1 := comes_1 fun _ _ _ _ _ _ h hF => ⟨h.1, hF⟩
theorem main_1_2 : Claimed_1_2 := comes_1 fun _ _ _ _ _ _ h hF => ⟨h.2.1, hF⟩
end Jvm.Pilot.@@N@@
namespace Jvm.Pilot.@@N@@
open Jvm Jvm.ClassFile Sem Op Lib Jvm.Free Jvm.Stand Jvm.Pilot.@@N@@.Jvm.D
/-! MADE BY PROGRAM (witnessworld.py) out of the Statement's table words and the real class files: 10 classes; the members and pool entries that the words name. The judged class is class 1, her method 1. -/
namespace start1
open Jvm.ClassFile
def u (s : String) : CpInfo := .utf8 (stringToUtf16 s)
/-- a pool by its gaps: so many unusable entries, then the entry; so many at the end -/
def gap : Nat → List CpInfo → List CpInfo
  | 0, r => r
  | n + 1, r => .unusable :: gap n r
def poolList (es : List (Nat × CpInfo)) (last : Nat) : List CpInfo := es.foldr (fun e r => gap e.1 (e.2 :: r)) (gap last [])
def pool (es : List (Nat × CpInfo)) (last : Nat) : Array CpInfo := ⟨poolList es last⟩
def fileOf (pool : Array CpInfo) (this : Nat) (attrs : Array Attribute := #[]) (ms : Array MethodInfo := #[]) (fl : Nat := 33) (sup : Nat := 0) (ifs : Array Nat := #[]) (fds : Array FieldInfo := #[]) : ClassFile where
  minorVersion := 0
  majorVersion := 65
  constantPool := pool
  accessFlags := fl
  thisClass := this
  superClass := sup
  interfaces := ifs
  fields := fds
  methods := ms
  attributes := attrs
def plain (name : String) (sup : Option ClassId) : Class where
  name := name
  kind := .ordinary
  loader := none
  accessFlags := 33
  super := sup
  interfaces := #[]
  cf := none
  fields := #[]
  methods := #[]
  instanceTypes := #[]
  staticTypes := #[]
  resolved := #[]
  callSites := []
  init := .initialized
  statics := none
  mirror := none

def pool0 : Array CpInfo := pool [(5, u "<init>"), (0, u "()V"), (1, .class_ 10), (1, u "java/lang/Object")] 113

def k0m0 : Method := { name := "<init>", desc := "()V", sig := { parameters := [], returnType := none }, accessFlags := 1, code := none }
/-- java/lang/Object -/
def k0 : Class := { plain "java/lang/Object" none with
  accessFlags := 33
  interfaces := #[]
  cf := some (fileOf pool0 8 #[] #[{ accessFlags := 1, nameIndex := 5, descriptorIndex := 6, attributes := #[] }] 33 0 #[] #[])
  fields := #[]
  methods := #[k0m0]
  instanceTypes := #[]
  staticTypes := #[]
  resolved := Array.replicate 124 none
  statics := none }

def pool1 : Array CpInfo := pool [(2, .class_ 4), (1, u "java/lang/Object"), (0, u "<init>"), (0, u "()V"), (0, .integer 2147483647), (0, .methodref 9 10), (0, .class_ 11), (0, .nameAndType 12 13), (0, u "java/lang/Math"), (0, u "min"), (0, u "(II)I"), (0, .methodref 9 15), (0, .nameAndType 16 13), (0, u "max"), (0, .methodref 18 19), (0, .class_ 20), (0, .nameAndType 21 22), (0, u "com/example/vetted_traces/vettedtraces/engine/Parts"), (0, u "bounds"), (0, u "(III)[I"), (0, .class_ 24), (0, u "com/example/vetted_traces/vettedtraces/engine/PartsBoundsPinLaw"), (2, u "law"), (0, u "(IIII)Z")] 5

def k1m0 : Method := { name := "<init>", desc := "()V", sig := { parameters := [], returnType := none }, accessFlags := 2, code := none }
def k1c1 : Code := { maxStack := 6, maxLocals := 17, code := code, exceptionTable := #[], attributes := #[] }
def k1m1 : Method := { name := "law", desc := "(IIII)Z", sig := { parameters := [.int, .int, .int, .int], returnType := some .boolean }, accessFlags := 9, code := some k1c1 }
/-- com/example/vetted_traces/vettedtraces/engine/PartsBoundsPinLaw -/
def k1 : Class := { plain "com/example/vetted_traces/vettedtraces/engine/PartsBoundsPinLaw" (some 0) with
  accessFlags := 49
  interfaces := #[]
  cf := some (fileOf pool1 23 #[] #[{ accessFlags := 2, nameIndex := 5, descriptorIndex := 6, attributes := #[] }, { accessFlags := 9, nameIndex := 27, descriptorIndex := 28, attributes := #[] }] 49 2 #[] #[])
  fields := #[]
  methods := #[k1m0, k1m1]
  instanceTypes := #[]
  staticTypes := #[]
  resolved := Array.replicate 34 none
  statics := none }

def pool2 : Array CpInfo := pool [(1, .class_ 2), (0, u "java/lang/Math"), (1, .class_ 6), (1, u "java/lang/Object"), (0, u "<init>"), (0, u "()V"), (89, .class_ 100), (1, u "java/lang/Math$RandomNumberGeneratorHolder"), (71, u "negativeZeroFloatBits"), (0, u "J"), (2, u "negativeZeroDoubleBits"), (21, u "max"), (2, u "min"), (43, u "$assertionsDisabled"), (0, u "Z"), (88, u "(II)I"), (2, u "twoToTheDoubleScaleDown"), (0, u "D"), (4, u "twoToTheDoubleScaleUp"), (9, u "E"), (3, u "PI"), (2, u "TAU"), (2, u "DEGREES_TO_RADIANS"), (0, u "RADIANS_TO_DEGREES")] 94

def k2m0 : Method := { name := "<init>", desc := "()V", sig := { parameters := [], returnType := none }, accessFlags := 2, code := none }
def k2c1 : Code := { maxStack := 2, maxLocals := 2, code := jdk_29_method_65_code, exceptionTable := #[], attributes := #[] }
def k2m1 : Method := { name := "max", desc := "(II)I", sig := { parameters := [.int, .int], returnType := some .int }, accessFlags := 9, code := some k2c1 }
def k2c2 : Code := { maxStack := 2, maxLocals := 2, code := jdk_29_method_69_code, exceptionTable := #[], attributes := #[] }
def k2m2 : Method := { name := "min", desc := "(II)I", sig := { parameters := [.int, .int], returnType := some .int }, accessFlags := 9, code := some k2c2 }
/-- java/lang/Math -/
def k2 : Class := { plain "java/lang/Math" (some 0) with
  accessFlags := 49
  interfaces := #[]
  cf := some (fileOf pool2 1 #[.nestMembers #[98]] #[{ accessFlags := 2, nameIndex := 7, descriptorIndex := 8, attributes := #[] }, { accessFlags := 9, nameIndex := 198, descriptorIndex := 335, attributes := #[] }, { accessFlags := 9, nameIndex := 201, descriptorIndex := 335, attributes := #[] }] 49 4 #[] #[{ accessFlags := 25, nameIndex := 354, descriptorIndex := 339, attributes := #[] }, { accessFlags := 25, nameIndex := 358, descriptorIndex := 339, attributes := #[] }, { accessFlags := 25, nameIndex := 361, descriptorIndex := 339, attributes := #[] }, { accessFlags := 26, nameIndex := 364, descriptorIndex := 339, attributes := #[] }, { accessFlags := 26, nameIndex := 365, descriptorIndex := 339, attributes := #[] }, { accessFlags := 26, nameIndex := 172, descriptorIndex := 173, attributes := #[] }, { accessFlags := 26, nameIndex := 176, descriptorIndex := 173, attributes := #[] }, { accessFlags := 8, nameIndex := 344, descriptorIndex := 339, attributes := #[] }, { accessFlags := 8, nameIndex := 338, descriptorIndex := 339, attributes := #[] }, { accessFlags := 4120, nameIndex := 245, descriptorIndex := 246, attributes := #[] }])
  fields := #[{ name := "E", type := .double, accessFlags := 25, slot := 0, constantValue := 0 }, { name := "PI", type := .double, accessFlags := 25, slot := 1, constantValue := 0 }, { name := "TAU", type := .double, accessFlags := 25, slot := 2, constantValue := 0 }, { name := "DEGREES_TO_RADIANS", type := .double, accessFlags := 26, slot := 3, constantValue := 0 }, { name := "RADIANS_TO_DEGREES", type := .double, accessFlags := 26, slot := 4, constantValue := 0 }, { name := "negativeZeroFloatBits", type := .long, accessFlags := 26, slot := 5, constantValue := 0 }, { name := "negativeZeroDoubleBits", type := .long, accessFlags := 26, slot := 6, constantValue := 0 }, { name := "twoToTheDoubleScaleUp", type := .double, accessFlags := 8, slot := 7, constantValue := 0 }, { name := "twoToTheDoubleScaleDown", type := .double, accessFlags := 8, slot := 8, constantValue := 0 }, { name := "$assertionsDisabled", type := .boolean, accessFlags := 4120, slot := 9, constantValue := 0 }]
  methods := #[k2m0, k2m1, k2m2]
  instanceTypes := #[]
  staticTypes := #[.double, .double, .double, .double, .double, .long, .long, .double, .double, .boolean]
  resolved := Array.replicate 460 none
  statics := none }

def pool3 : Array CpInfo := pool [(2, .class_ 4), (1, u "java/lang/Object"), (0, u "<init>"), (0, u "()V"), (0, .class_ 8), (0, u "com/example/vetted_traces/vettedtraces/engine/Parts"), (9, u "MOST"), (0, u "I"), (6, u "bounds"), (0, u "(III)[I")] 4

def k3m0 : Method := { name := "<init>", desc := "()V", sig := { parameters := [], returnType := none }, accessFlags := 2, code := none }
def k3c1 : Code := { maxStack := 7, maxLocals := 5, code := prog_24_method_3_code, exceptionTable := #[], attributes := #[] }
def k3m1 : Method := { name := "bounds", desc := "(III)[I", sig := { parameters := [.int, .int, .int], returnType := some (.array .int) }, accessFlags := 8, code := some k3c1 }
/-- com/example/vetted_traces/vettedtraces/engine/Parts -/
def k3 : Class := { plain "com/example/vetted_traces/vettedtraces/engine/Parts" (some 0) with
  accessFlags := 32
  interfaces := #[]
  cf := some (fileOf pool3 7 #[] #[{ accessFlags := 2, nameIndex := 5, descriptorIndex := 6, attributes := #[] }, { accessFlags := 8, nameIndex := 26, descriptorIndex := 27, attributes := #[] }] 32 2 #[] #[{ accessFlags := 24, nameIndex := 18, descriptorIndex := 19, attributes := #[] }])
  fields := #[{ name := "MOST", type := .int, accessFlags := 24, slot := 0, constantValue := 0 }]
  methods := #[k3m0, k3m1]
  instanceTypes := #[]
  staticTypes := #[.int]
  resolved := Array.replicate 32 none
  statics := none }

def pool4 : Array CpInfo := pool [(1, u "java/lang/Cloneable"), (0, .class_ 1), (0, u "java/lang/Object"), (0, .class_ 3)] 3

/-- java/lang/Cloneable -/
def k4 : Class := { plain "java/lang/Cloneable" (some 0) with
  accessFlags := 1537
  interfaces := #[]
  cf := some (fileOf pool4 2 #[] #[] 1537 4 #[] #[])
  fields := #[]
  methods := #[]
  instanceTypes := #[]
  staticTypes := #[]
  resolved := Array.replicate 8 none
  statics := none }

def pool5 : Array CpInfo := pool [(1, u "java/io/Serializable"), (0, .class_ 1), (0, u "java/lang/Object"), (0, .class_ 3)] 3

/-- java/io/Serializable -/
def k5 : Class := { plain "java/io/Serializable" (some 0) with
  accessFlags := 1537
  interfaces := #[]
  cf := some (fileOf pool5 2 #[] #[] 1537 4 #[] #[])
  fields := #[]
  methods := #[]
  instanceTypes := #[]
  staticTypes := #[]
  resolved := Array.replicate 8 none
  statics := none }

/-- the primitive byte -/
def k6 : Class := { plain "byte" none with kind := .primitive 'B', accessFlags := 0x411 }
/-- [B -/
def k7 : Class := { plain "[B" (some 0) with kind := .array 6 .byte, interfaces := #[4, 5], accessFlags := 1041 }

/-- the primitive int -/
def k8 : Class := { plain "int" none with kind := .primitive 'I', accessFlags := 0x411 }
/-- [I -/
def k9 : Class := { plain "[I" (some 0) with kind := .array 8 .int, interfaces := #[4, 5], accessFlags := 1041 }

def heap : Heap := #[]
def classes : Array Class := #[k0, k1, k2, k3, k4, k5, k6, k7, k8, k9]
def interned : List (Array UInt16 × Addr) := []
def slotsUsed : Nat := 0
def theMethod : MethodId := ⟨1, 1⟩
def args0 : Array Value := #[.int 3, .int 77, .int 5, .int 2]
def aboutOver (below : List Frame) : State where
  vm := { classes := classes, interned := interned.toArray }
  heap := heap
  slotsUsed := slotsUsed
  threads := #[{ frames := .invoking theMethod args0 :: below }]
def below0 : List Frame := [.native { method := ⟨0, 0⟩, args := #[] }]
def about1 : State := aboutOver below0
def p0 : Program := .bare "" "" ""
def e0 : Env := launch0.env 0 0 0
theorem w_frames : about1.frames = Frame.invoking theMethod args0 :: below0 := rfl
set_option maxRecDepth 65536 in
theorem w_args : argsFit about1.vm theMethod args0 = true := by decide +kernel
set_option maxRecDepth 65536 in
theorem w_heap : heapFits about1 = true := by decide +kernel
set_option maxRecDepth 65536 in
theorem w_runnable : about1.curStatus? = some .runnable := by decide +kernel
set_option maxRecDepth 65536 in
theorem w_alone : about1.alone = true := by decide +kernel
set_option maxRecDepth 65536 in
theorem w_named : about1.methodNamed? x = some theMethod := by decide +kernel
set_option maxRecDepth 65536 in
theorem w_hears : about1.hears theMethod below0 = true := by decide +kernel
set_option maxRecDepth 65536 in
theorem w_ripe : about1.ripe theMethod args0 below0 = true := by decide +kernel
theorem w_running : about1.status = .running := rfl
set_option maxRecDepth 65536 in
theorem w_room : about1.hasRoom e0.platform room_1 = true :=
  launch0.hasRoom_least _ room_1 (by decide +kernel) (by decide +kernel) (by decide +kernel) (by decide +kernel) (by decide +kernel) (by decide +kernel)
theorem allAtoms_all (ts : List Jvm.Cond) (a : Array Jvm.Value) (st : Jvm.State) : (allAtoms ts).before a st = ts.all (fun c => c.before a st) := by
  induction ts with
  | nil => rfl
  | cons c t ih =>
    show (Jvm.Cond.and c (allAtoms t)).before a st = _
    rw [Jvm.Cond.before_and, ih, List.all_cons]
def words1 : List Jvm.Cond := Jvm.Cond.code x code maxLocals ret :: tables_1
/-- a 'code' word, met by the world's own term for the bytes: nothing is compared byte by byte -/
theorem code_word {y : MethodName} {bytes : ByteArray} {mx : Nat} {rt : Option FieldType} {a : Array Value} {s : State} {m : MethodId} {meth : Method} {c : Code} (h1 : s.methodNamed? y = some m) (h2 : s.vm.method? m = some meth) (h3 : meth.code = some c) (h4 : c.code = bytes)
    (h5 : (c.maxLocals == mx && c.exceptionTable.isEmpty && decide (c.maxStack ≤ mostOperands) && decide (meth.sig.returnType = rt) && !meth.locks && decide (parseMethodDescriptor y.desc = some meth.sig)) = true) : (Jvm.Cond.code y bytes mx rt).before a s = true := by
  simp only [Bool.and_eq_true, beq_iff_eq, Bool.not_eq_true', decide_eq_true_eq] at h5
  obtain ⟨⟨⟨⟨⟨g1, g2⟩, g3⟩, g4⟩, g5⟩, g6⟩ := h5
  simp [Cond.before, Cond.holds, Cond.value, h1, h2, h3, h4, g1, g2, g3, g4, g5, g6]
def isCode : Jvm.Cond → Bool
  | .code _ _ _ _ => true
  | _ => false
theorem all_split {L : List Jvm.Cond} {P : Jvm.Cond → Bool} (h1 : L.all (fun c => isCode c || P c) = true) (h2 : ∀ c ∈ L.filter isCode, P c = true) : L.all P = true := by
  refine List.all_eq_true.mpr fun c hc => ?_
  have h := List.all_eq_true.mp h1 c hc
  rcases Bool.eq_false_or_eq_true (isCode c) with hi | hi
  · exact h2 c (List.mem_filter.mpr ⟨hc, hi⟩)
  · simpa [hi] using h
set_option maxRecDepth 65536 in
theorem w_c0 : (Jvm.Cond.code x code maxLocals ret).before args0 about1 = true := code_word (m := ⟨1, 1⟩) (meth := k1m1) (c := k1c1) (by decide +kernel) rfl rfl rfl (by decide +kernel)
set_option maxRecDepth 65536 in
theorem w_c1 : (Jvm.Cond.code ({ cls := "java/lang/Math", name := "min", desc := "(II)I" } : Jvm.MethodName) jdk_29_method_69_code (2 : Nat) (Option.some Jvm.ClassFile.FieldType.int)).before args0 about1 = true := code_word (m := ⟨2, 2⟩) (meth := k2m2) (c := k2c2) (by decide +kernel) rfl rfl rfl (by decide +kernel)
set_option maxRecDepth 65536 in
theorem w_c2 : (Jvm.Cond.code ({ cls := "java/lang/Math", name := "max", desc := "(II)I" } : Jvm.MethodName) jdk_29_method_65_code (2 : Nat) (Option.some Jvm.ClassFile.FieldType.int)).before args0 about1 = true := code_word (m := ⟨2, 1⟩) (meth := k2m1) (c := k2c1) (by decide +kernel) rfl rfl rfl (by decide +kernel)
set_option maxRecDepth 65536 in
theorem w_c3 : (Jvm.Cond.code ({ cls := "com/example/vetted_traces/vettedtraces/engine/Parts", name := "bounds", desc := "(III)[I" } : Jvm.MethodName) prog_24_method_3_code (5 : Nat) (Option.some (Jvm.ClassFile.FieldType.array Jvm.ClassFile.FieldType.int))).before args0 about1 = true := code_word (m := ⟨3, 1⟩) (meth := k3m1) (c := k3c1) (by decide +kernel) rfl rfl rfl (by decide +kernel)
def codes1 : List Jvm.Cond := [Jvm.Cond.code x code maxLocals ret, Jvm.Cond.code ({ cls := "java/lang/Math", name := "min", desc := "(II)I" } : Jvm.MethodName) jdk_29_method_69_code (2 : Nat) (Option.some Jvm.ClassFile.FieldType.int), Jvm.Cond.code ({ cls := "java/lang/Math", name := "max", desc := "(II)I" } : Jvm.MethodName) jdk_29_method_65_code (2 : Nat) (Option.some Jvm.ClassFile.FieldType.int), Jvm.Cond.code ({ cls := "com/example/vetted_traces/vettedtraces/engine/Parts", name := "bounds", desc := "(III)[I" } : Jvm.MethodName) prog_24_method_3_code (5 : Nat) (Option.some (Jvm.ClassFile.FieldType.array Jvm.ClassFile.FieldType.int))]
set_option maxRecDepth 65536 in
theorem codes_eq : words1.filter isCode = codes1 := rfl
theorem w_codes : ∀ c ∈ words1.filter isCode, c.before args0 about1 = true := by
  rw [codes_eq]
  intro c hc
  simp only [codes1, List.mem_cons, List.not_mem_nil, or_false] at hc
  rcases hc with rfl | rfl | rfl | rfl
  · exact w_c0
  · exact w_c1
  · exact w_c2
  · exact w_c3
set_option maxRecDepth 65536 in
theorem w_t1 : words1.all (fun c => isCode c || c.before args0 about1) = true := by decide +kernel
theorem w_tables : (allAtoms (Jvm.Cond.code x code maxLocals ret :: tables_1)).before args0 about1 = true := by
  rw [allAtoms_all]
  show words1.all (fun c => c.before args0 about1) = true
  refine all_split ?_ w_codes
  rw [w_t1]
set_option maxRecDepth 65536 in
theorem w_case : (Jvm.Cond.and given_1 narrow_1).before args0 about1 = true := by decide +kernel
theorem w_applies : (headSpec (Jvm.Cond.code x code maxLocals ret :: tables_1) room_1).applies x e0.platform about1 = true :=
  (Spec.applies_iff w_frames).mpr ⟨w_running, w_runnable, w_alone, w_named, w_hears, w_ripe, w_room, w_tables⟩
theorem atStart : AtStart classFile x code maxLocals ret World_1 tables_1 room_1 Calls_1 rest_1 Pre_1 launch0 p0 e0 about1 theMethod args0 below0 :=
  ⟨lists_1, trivial, launch0.admits_env _ _ _, launch0.least_env, fairChoices_fair.cas, fairChoices_fair.clock, w_frames, w_args, w_heap, w_applies, trivial, trivial, w_case⟩
end start1
theorem witness_1 : WitnessClaimed_1 := ⟨start1.p0, start1.e0, start1.about1, start1.theMethod, start1.args0, start1.below0, start1.atStart⟩
end Jvm.Pilot.@@N@@
