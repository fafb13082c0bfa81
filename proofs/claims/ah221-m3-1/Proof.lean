import JvmDerived
import JvmDerived.Pilot.@@N@@Statement
import JvmDerived.Pilot.@@N@@Code
set_option linter.unusedVariables false
set_option linter.unusedSimpArgs false

namespace Jvm.Pilot.@@N@@
open Jvm Jvm.ClassFile Sem Op Lib Jvm.Free Jvm.Stand Jvm.LawKit Jvm.RoadKit Bundle Jvm.Pilot.@@N@@.Jvm.D
/-- from every end that the second place reaches the first does -/
abbrev own_To (p : Program) (e : Env) (below : List Frame) (T' : State) (f' : JFrame) (T : State) (f : JFrame) : Prop := ∀ t, Steps p.tables e below (T'.setTop f') t → Steps p.tables e below (T.setTop f) t
theorem own_nar (x : Int32) : x.toInt8.toInt32.toInt8.toInt32 = x.toInt8.toInt32 := by simp
theorem own_n4 (x : Int32) : (x &&& (3 : Int32)) + (1 : Int32) = (1 : Int32) ∨ (x &&& (3 : Int32)) + (1 : Int32) = (2 : Int32) ∨ (x &&& (3 : Int32)) + (1 : Int32) = (3 : Int32) ∨ (x &&& (3 : Int32)) + (1 : Int32) = (4 : Int32) := by
  have h := c_mask x 3 2 (by decide) (by decide)
  have h2 := c_iadd (x &&& 3) 1
  have r := rng32 ((x &&& 3) + 1)
  rw [show (1 : Int32).toInt = 1 from rfl] at h2
  simp only [← Int32.toInt_inj, Int32.reduceToInt]
  omega
theorem own_last (z : Int32) (h : (0 : Int32) < z) : ¬ (z - (1 : Int32)) < 0 ∧ (z - (1 : Int32)) < z := by
  rw [Int32.lt_iff_toInt_lt, show (0 : Int32).toInt = 0 from rfl] at h
  have h2 := c_isub z 1
  have r := rng32 (z - 1)
  have r2 := rng32 z
  rw [show (1 : Int32).toInt = 1 from rfl] at h2
  rw [Int32.lt_iff_toInt_lt, Int32.lt_iff_toInt_lt, show (0 : Int32).toInt = 0 from rfl]
  omega
theorem own_d1_0 : decode prog_4_method_14_code 0 = .ok (.aload_n 0, 1) := by decide +kernel
theorem own_d1_1 : decode prog_4_method_14_code 1 = .ok (.invokevirtual 103, 3) := by decide +kernel
theorem own_d1_4 : decode prog_4_method_14_code 4 = .ok (.checkcast 104, 3) := by decide +kernel
theorem own_d1_7 : decode prog_4_method_14_code 7 = .ok (.astore_n 1, 1) := by decide +kernel
theorem own_d1_8 : decode prog_4_method_14_code 8 = .ok (.aload_n 1, 1) := by decide +kernel
theorem own_d1_9 : decode prog_4_method_14_code 9 = .ok (.aload_n 1, 1) := by decide +kernel
theorem own_d1_10 : decode prog_4_method_14_code 10 = .ok (.arraylength, 1) := by decide +kernel
theorem own_d1_11 : decode prog_4_method_14_code 11 = .ok (.iconst 1, 1) := by decide +kernel
theorem own_d1_12 : decode prog_4_method_14_code 12 = .ok (.isub, 1) := by decide +kernel
theorem own_d1_13 : decode prog_4_method_14_code 13 = .ok (.iconst 1, 1) := by decide +kernel
theorem own_d1_14 : decode prog_4_method_14_code 14 = .ok (.bastore, 1) := by decide +kernel
theorem own_d1_15 : decode prog_4_method_14_code 15 = .ok (.aload_n 1, 1) := by decide +kernel
theorem own_d1_16 : decode prog_4_method_14_code 16 = .ok (.areturn, 1) := by decide +kernel
theorem own_pn1 : plainName "com/example/feeddb/feeddb/core/Keys" = true := by first | (simp [plainName, overriddenIn]; done) | decide +kernel
theorem own_ef1 (m : MethodId) (x0 : Addr) : entryFrame m #[(.ref x0)] 2 = mkF m 0 #[.val (.ref x0), .unset] [] := by first | (simp [entryFrame, mkF, argsToLocals, Value.category]; done) | rfl
def Q1 (Z : State) (a0_ : Addr) (kc : ClassId) (z0 : Int32) (vs : List Value) (h0 : Heap) (n0 : Nat) (v : Option Value) (h : Heap) (L : List Loc) : Prop := ∃ b : Addr, v = some (.ref b) ∧ Fr n0 L ∧ Keep h0 h [] ∧ b ≠ a0_ ∧ n0 ≤ b ∧ Arv Z h b kc .byte z0 (vs.set (z0 - (1 : Int32)).toNatClampNeg (.int (nar .byte (1 : Int32)))) (.int (0 : Int32))
set_option maxRecDepth 65536 in
set_option maxHeartbeats 40000000 in
theorem rm1 (l : Launch) (Z : State) (a0 : Array Value) (hw : ∀ d ∈ tables_1, d.before a0 Z = true) (ws : List Jvm.Cond) (a0_ : Addr) (kc : ClassId) (z0 : Int32) (vs : List Value) (h0 : Heap) (n0 : Nat) (Z0 : n0 ≤ h0.size) (V0 : Arv Z h0 a0_ kc .byte z0 vs (.int (0 : Int32))) (E0 : Exa Z h0 a0_ "[B") (hz : (0 : Int32) < z0) (hz4 : z0.toNatClampNeg ≤ 4) (hlast : (z0 - (1 : Int32)).toNatClampNeg < vs.length) :
    MetFree l (⟨"com/example/feeddb/feeddb/core/Keys", "pastNamePrefix", "([B)[B"⟩ : MethodName) (head1 (Jvm.Cond.code (⟨"com/example/feeddb/feeddb/core/Keys", "pastNamePrefix", "([B)[B"⟩ : MethodName) prog_4_method_14_code 2 (some (.array .byte)) :: ws) ({ frames := 1, cells := 1, slots := 4, locals := 14 } : Room)) (fun a U => a = #[(.ref a0_)] ∧ Z.Warmed39 U.vm ∧ U.heap = h0) (fun _ _ _ _ _ => True) (fun _ U o U' => ∃ v L, o = .returned v ∧ Q1 Z a0_ kc z0 vs h0 n0 v U'.heap L ∧ FrameEnd U o U' L ({ frames := 1, cells := 1, slots := 4, locals := 14 } : Room).cells ({ frames := 1, cells := 1, slots := 4, locals := 14 } : Room).slots) := by
  refine MetFree.of_bodySF (plainFor_of_name own_pn1) hisR ?_
  intro p e s m args below meth c s₁ Bd hml0 hP hK
  obtain ⟨rfl, hZ, hh⟩ := hP
  have hx := Bd.exec
  have hby := Bd.bytes
  have hml : c.maxLocals = 2 := hml0
  have hown : s.vm.findClass "com/example/feeddb/feeddb/core/Keys" = some m.cls := findClass_of_methodNamed Bd.named
  have hnm := (name_of_methodNamed Bd.named Bd.method).1
  have X0 : Stand p l e ({ frames := 1, cells := 1, slots := 4, locals := 14 } : Room) s m #[(.ref a0_)] below meth c s₁ [] 0 0 := Stand.of_body Bd
  have e0 : s₁.heap = h0 := by rw [← hh, Bd.state]; rfl
  have N0 := Fr.nil n0
  have k0 : own_To p e below s₁ (mkF m 0 #[.val (.ref a0_), .unset] []) s₁ (entryFrame m #[(.ref a0_)] 2) := fun t k => castTop (own_ef1 m a0_) k
  have ki : own_To p e below s₁ (mkF m 0 #[.val (.ref a0_), .unset] []) s₁ (mkF m 0 #[.val (.ref a0_), .unset] []) := fun t q => q
  obtain ⟨T1, h1, X1, e1, E1, V1, A1, st1⟩ := cloneH X0 hx hZ hown (hw _ (List.mem_of_getElem? (i := 5) rfl)) (hw _ (List.mem_of_getElem? (i := 6) rfl)) (hw _ (List.mem_of_getElem? (i := 10) rfl)) (hw _ (List.mem_of_getElem? (i := 8) rfl)) (hw _ (List.mem_of_getElem? (i := 9) rfl)) (hw _ (List.mem_of_getElem? (i := 11) rfl)) e0 (Arv.arh V0) E0 (g := (mkF m 1 #[.val (.ref a0_), .unset] [(.ref a0_)])) rfl (by rw [hml]; rfl) rfl (hb hby own_d1_1) (by decide) (W := 0) (cap := 4) (by show 2 * 0 + _ ≤ _; exact Nat.le_of_eq rfl) (by decide) hz4 (by decide) (by decide)
  obtain ⟨b1, g1⟩ : ∃ z, z = h0.size := ⟨_, rfl⟩
  rw [← g1] at V1 A1 st1
  have ge_b1 : n0 ≤ b1 := Nat.le_trans Z0 (Nat.le_of_eq g1.symm)
  have K2 : Keep h0 h0 [] := (Keep.refl h0 [])
  have sz_b1 : h0.size ≤ b1 := Nat.le_trans K2.1 (Nat.le_of_eq g1.symm)
  have ne_a0__b1 : a0_ ≠ b1 := Nat.ne_of_lt (Nat.lt_of_lt_of_le V0.lt (Nat.le_of_eq g1.symm))
  have W1 : Arv Z h1 b1 kc .byte z0 vs (.int (0 : Int32)) := V1
  obtain ⟨T3, X3, e3, st3⟩ := castY X1 hx hZ hown (hw _ (List.mem_of_getElem? (i := 12) rfl)) e1 (Ins.self A1) (g := (mkF m 4 #[.val (.ref a0_), .unset] [(.ref b1)])) rfl rfl (hb hby own_d1_4)
  obtain ⟨clr4, Arr4, qr4, Sr4, Mr4, Hhr4, Gr4⟩ := id W1
  obtain ⟨clr5, Arr5, qr5, Sr5, Mr5, Hhr5, Gr5⟩ := id W1
  have hinr5 : ¬ ((z0 - (1 : Int32)) < 0 ∨ clr5.slots.size ≤ ((z0 - (1 : Int32))).toNatClampNeg) := inb_of Sr5 (own_last z0 hz)
  obtain ⟨T6, h6, X6, e6, W6, st6⟩ := stB X3 hx hZ e3 Arr5 (j := (z0 - (1 : Int32))) hinr5 (g := (mkF m 14 #[.val (.ref a0_), .val (.ref b1)] [(.int (1 : Int32)), (.int (z0 - (1 : Int32))), (.ref b1)])) rfl rfl (hb hby own_d1_14)
  have N6 := Fr.snoc X6 N0 ge_b1
  have V6 := Arv.set Arr5 qr5 Sr5 Mr5 Hhr5 Gr5 (fits_nar_byte _) W6 _ rfl hlast
  have F7 := (A1.wr W6)
  have K8 : Keep h0 h6 [] := ((K2.ext E1).wr W6 (Or.inr sz_b1))
  have k9 : own_To p e below T6 (mkF m 16 #[.val (.ref a0_), .val (.ref b1)] [(.ref b1)]) s₁ (mkF m 0 #[.val (.ref a0_), .unset] []) := fun t q => ki t (by
    refine XS.aloadN X0.here hx rfl (hb hby own_d1_0) rfl rfl ?_
    show Steps p.tables e below (s₁.setTop (mkF m 1 #[.val (.ref a0_), .unset] [(.ref a0_)])) _
    refine st1 _ ?_
    show Steps p.tables e below (T1.setTop (mkF m 4 #[.val (.ref a0_), .unset] [(.ref b1)])) _
    refine st3 _ ?_
    show Steps p.tables e below (T3.setTop (mkF m 7 #[.val (.ref a0_), .unset] [(.ref b1)])) _
    refine XS.astoreN X3.here hx rfl (hb hby own_d1_7) rfl rfl (l' := #[.val (.ref a0_), .val (.ref b1)]) rfl ?_
    show Steps p.tables e below (T3.setTop (mkF m 8 #[.val (.ref a0_), .val (.ref b1)] [])) _
    refine XS.aloadN X3.here hx rfl (hb hby own_d1_8) rfl rfl ?_
    show Steps p.tables e below (T3.setTop (mkF m 9 #[.val (.ref a0_), .val (.ref b1)] [(.ref b1)])) _
    refine XS.aloadN X3.here hx rfl (hb hby own_d1_9) rfl rfl ?_
    show Steps p.tables e below (T3.setTop (mkF m 10 #[.val (.ref a0_), .val (.ref b1)] [(.ref b1), (.ref b1)])) _
    refine X3.arraylength hx (by rw [e3]; exact Arr4.1) (State.isArrayOf_alike hZ.alike Arr4.2.1) (g := (mkF m 10 #[.val (.ref a0_), .val (.ref b1)] [(.ref b1), (.ref b1)])) rfl rfl (hb hby own_d1_10) _ ?_
    rw [len_of Sr4 Mr4]
    show Steps p.tables e below (T3.setTop (mkF m 11 #[.val (.ref a0_), .val (.ref b1)] [(.int z0), (.ref b1)])) _
    refine XS.iconst X3.here hx rfl (hb hby own_d1_11) ?_
    show Steps p.tables e below (T3.setTop (mkF m 12 #[.val (.ref a0_), .val (.ref b1)] [(.int (1 : Int32)), (.int z0), (.ref b1)])) _
    refine XS.isub X3.here hx rfl (hb hby own_d1_12) rfl ?_
    show Steps p.tables e below (T3.setTop (mkF m 13 #[.val (.ref a0_), .val (.ref b1)] [(.int (z0 - (1 : Int32))), (.ref b1)])) _
    refine XS.iconst X3.here hx rfl (hb hby own_d1_13) ?_
    show Steps p.tables e below (T3.setTop (mkF m 14 #[.val (.ref a0_), .val (.ref b1)] [(.int (1 : Int32)), (.int (z0 - (1 : Int32))), (.ref b1)])) _
    refine st6 _ ?_
    show Steps p.tables e below (T6.setTop (mkF m 15 #[.val (.ref a0_), .val (.ref b1)] [])) _
    refine XS.aloadN X6.here hx rfl (hb hby own_d1_15) rfl rfl ?_
    show Steps p.tables e below (T6.setTop (mkF m 16 #[.val (.ref a0_), .val (.ref b1)] [(.ref b1)])) _
    exact q)
  obtain ⟨fs, hr, hrun, hended, hW, hsame⟩ := X6.leave (v := some (.ref b1)) (fun h => by rw [Bd.returns] at h; cases h)
  refine ⟨_, _, k0 _ (k9 _ ?_), hrun, hended, _, _, rfl, ?_, ⟨_, rfl⟩, hW, hsame.mono (by decide) (by decide)⟩
  · show Steps p.tables e below (T6.setTop (mkF m 16 #[.val (.ref a0_), .val (.ref b1)] [(.ref b1)])) _
    exact retOut X6 hx Bd.returns rfl (Or.inr (Or.inr (Or.inr (Or.inr ⟨rfl, rfl, rfl⟩)))) (hb hby own_d1_16) hr
  · show Q1 Z a0_ kc z0 vs h0 n0 _ T6.heap _
    rw [e6]
    exact ⟨b1, rfl, N6, K8, (Ne.symm ne_a0__b1), ge_b1, V6⟩
theorem own_d2_0 : decode method_3_code 0 = .ok (.aload_n 0, 1) := by decide +kernel
theorem own_d2_1 : decode method_3_code 1 = .ok (.iload_n 1, 1) := by decide +kernel
theorem own_d2_2 : decode method_3_code 2 = .ok (.iconst 1, 1) := by decide +kernel
theorem own_d2_3 : decode method_3_code 3 = .ok (.isub, 1) := by decide +kernel
theorem own_d2_4 : decode method_3_code 4 = .ok (.baload, 1) := by decide +kernel
theorem own_d2_5 : decode method_3_code 5 = .ok (.iload 5, 2) := by decide +kernel
theorem own_d2_7 : decode method_3_code 7 = .ok (.if_icmp .eq 5, 3) := by decide +kernel
theorem own_d2_12 : decode method_3_code 12 = .ok (.iload_n 1, 1) := by decide +kernel
theorem own_d2_13 : decode method_3_code 13 = .ok (.iconst 1, 1) := by decide +kernel
theorem own_d2_14 : decode method_3_code 14 = .ok (.if_icmp .le 12, 3) := by decide +kernel
theorem own_d2_26 : decode method_3_code 26 = .ok (.iload_n 1, 1) := by decide +kernel
theorem own_d2_27 : decode method_3_code 27 = .ok (.iconst 2, 1) := by decide +kernel
theorem own_d2_28 : decode method_3_code 28 = .ok (.if_icmp .le 12, 3) := by decide +kernel
theorem own_d2_40 : decode method_3_code 40 = .ok (.iload_n 1, 1) := by decide +kernel
theorem own_d2_41 : decode method_3_code 41 = .ok (.iconst 3, 1) := by decide +kernel
theorem own_d2_42 : decode method_3_code 42 = .ok (.if_icmp .le 13, 3) := by decide +kernel
theorem own_d2_55 : decode method_3_code 55 = .ok (.iconst 1, 1) := by decide +kernel
theorem own_d2_56 : decode method_3_code 56 = .ok (.ireturn, 1) := by decide +kernel
theorem own_pn2 : plainName "com/example/feeddb/feeddb/core/KeysPastNamePrefixPinLaw" = true := by first | (simp [plainName, overriddenIn]; done) | decide +kernel
theorem own_efsame1 (m : MethodId) (x0 : Addr) (x2 : Int32) (x3 : Int32) (x4 : Int32) (x5 : Int32) : entryFrame m #[(.ref x0), (.int (1 : Int32)), (.int x2), (.int x3), (.int x4), (.int x5)] 6 = mkF m 0 #[.val (.ref x0), .val (.int (1 : Int32)), .val (.int x2), .val (.int x3), .val (.int x4), .val (.int x5)] [] := by first | (simp [entryFrame, mkF, argsToLocals, Value.category]; done) | rfl
def Qsame1 (Z : State) (a0_ : Addr) (p2 : Int32) (p3 : Int32) (p4 : Int32) (p5 : Int32) (kc : ClassId) (h0 : Heap) (n0 : Nat) (v : Option Value) (h : Heap) (L : List Loc) : Prop := v = some (.int (1 : Int32)) ∧ Fr n0 L ∧ h = h0
set_option maxRecDepth 65536 in
set_option maxHeartbeats 40000000 in
theorem rmsame1 (l : Launch) (Z : State) (a0 : Array Value) (hw : ∀ d ∈ tables_1, d.before a0 Z = true) (ws : List Jvm.Cond) (a0_ : Addr) (p2 : Int32) (p3 : Int32) (p4 : Int32) (p5 : Int32) (kc : ClassId) (h0 : Heap) (n0 : Nat) (Z0 : n0 ≤ h0.size) (V0 : Arv Z h0 a0_ kc .byte (1 : Int32) [(.int p5)] (.int (0 : Int32))) :
    MetFree l (⟨"com/example/feeddb/feeddb/core/KeysPastNamePrefixPinLaw", "same", "([BIBBBB)Z"⟩ : MethodName) (head1 (Jvm.Cond.code (⟨"com/example/feeddb/feeddb/core/KeysPastNamePrefixPinLaw", "same", "([BIBBBB)Z"⟩ : MethodName) method_3_code 6 (some .boolean) :: ws) ({ frames := 0, cells := 0, slots := 0, locals := 0 } : Room)) (fun a U => a = #[(.ref a0_), (.int (1 : Int32)), (.int p2), (.int p3), (.int p4), (.int p5)] ∧ Z.Warmed39 U.vm ∧ U.heap = h0) (fun _ _ _ _ _ => True) (fun _ U o U' => ∃ v L, o = .returned v ∧ Qsame1 Z a0_ p2 p3 p4 p5 kc h0 n0 v U'.heap L ∧ FrameEnd U o U' L ({ frames := 0, cells := 0, slots := 0, locals := 0 } : Room).cells ({ frames := 0, cells := 0, slots := 0, locals := 0 } : Room).slots) := by
  refine MetFree.of_bodySF (plainFor_of_name own_pn2) hisR ?_
  intro p e s m args below meth c s₁ Bd hml0 hP hK
  obtain ⟨rfl, hZ, hh⟩ := hP
  have hx := Bd.exec
  have hby := Bd.bytes
  have hml : c.maxLocals = 6 := hml0
  have hown : s.vm.findClass "com/example/feeddb/feeddb/core/KeysPastNamePrefixPinLaw" = some m.cls := findClass_of_methodNamed Bd.named
  have hnm := (name_of_methodNamed Bd.named Bd.method).1
  have X0 : Stand p l e ({ frames := 0, cells := 0, slots := 0, locals := 0 } : Room) s m #[(.ref a0_), (.int (1 : Int32)), (.int p2), (.int p3), (.int p4), (.int p5)] below meth c s₁ [] 0 0 := Stand.of_body Bd
  have e0 : s₁.heap = h0 := by rw [← hh, Bd.state]; rfl
  have N0 := Fr.nil n0
  have k0 : own_To p e below s₁ (mkF m 0 #[.val (.ref a0_), .val (.int (1 : Int32)), .val (.int p2), .val (.int p3), .val (.int p4), .val (.int p5)] []) s₁ (entryFrame m #[(.ref a0_), (.int (1 : Int32)), (.int p2), (.int p3), (.int p4), (.int p5)] 6) := fun t k => castTop (own_efsame1 m a0_ p2 p3 p4 p5) k
  have ki : own_To p e below s₁ (mkF m 0 #[.val (.ref a0_), .val (.int (1 : Int32)), .val (.int p2), .val (.int p3), .val (.int p4), .val (.int p5)] []) s₁ (mkF m 0 #[.val (.ref a0_), .val (.int (1 : Int32)), .val (.int p2), .val (.int p3), .val (.int p4), .val (.int p5)] []) := fun t q => q
  obtain ⟨clr1, Arr1, qr1, Sr1, Mr1, Hhr1, Gr1⟩ := id V0
  have hinr1 : ¬ (((1 : Int32) - (1 : Int32)) < 0 ∨ clr1.slots.size ≤ (((1 : Int32) - (1 : Int32))).toNatClampNeg) := inb_of Sr1 ⟨by decide, by decide⟩
  have hatr1 : clr1.slots[(((1 : Int32) - (1 : Int32))).toNatClampNeg]? = some (.int p5) := Has.at Hhr1 hinr1 rfl
  have k2 : own_To p e below s₁ (mkF m 56 #[.val (.ref a0_), .val (.int (1 : Int32)), .val (.int p2), .val (.int p3), .val (.int p4), .val (.int p5)] [(.int (1 : Int32))]) s₁ (mkF m 0 #[.val (.ref a0_), .val (.int (1 : Int32)), .val (.int p2), .val (.int p3), .val (.int p4), .val (.int p5)] []) := fun t q => ki t (by
    refine XS.aloadN X0.here hx rfl (hb hby own_d2_0) rfl rfl ?_
    show Steps p.tables e below (s₁.setTop (mkF m 1 #[.val (.ref a0_), .val (.int (1 : Int32)), .val (.int p2), .val (.int p3), .val (.int p4), .val (.int p5)] [(.ref a0_)])) _
    refine XS.iloadN X0.here hx rfl (hb hby own_d2_1) rfl ?_
    show Steps p.tables e below (s₁.setTop (mkF m 2 #[.val (.ref a0_), .val (.int (1 : Int32)), .val (.int p2), .val (.int p3), .val (.int p4), .val (.int p5)] [(.int (1 : Int32)), (.ref a0_)])) _
    refine XS.iconst X0.here hx rfl (hb hby own_d2_2) ?_
    show Steps p.tables e below (s₁.setTop (mkF m 3 #[.val (.ref a0_), .val (.int (1 : Int32)), .val (.int p2), .val (.int p3), .val (.int p4), .val (.int p5)] [(.int (1 : Int32)), (.int (1 : Int32)), (.ref a0_)])) _
    refine XS.isub X0.here hx rfl (hb hby own_d2_3) rfl ?_
    show Steps p.tables e below (s₁.setTop (mkF m 4 #[.val (.ref a0_), .val (.int (1 : Int32)), .val (.int p2), .val (.int p3), .val (.int p4), .val (.int p5)] [(.int ((1 : Int32) - (1 : Int32))), (.ref a0_)])) _
    refine X0.baloadBytes hx (j := ((1 : Int32) - (1 : Int32))) (v := (.int p5)) (by rw [e0]; exact Arr1.1) (State.isArrayOf_alike hZ.alike Arr1.2.1) Arr1.2.2 hinr1 hatr1 (g := (mkF m 4 #[.val (.ref a0_), .val (.int (1 : Int32)), .val (.int p2), .val (.int p3), .val (.int p4), .val (.int p5)] [(.int ((1 : Int32) - (1 : Int32))), (.ref a0_)])) rfl rfl (hb hby own_d2_4) _ ?_
    show Steps p.tables e below (s₁.setTop (mkF m 5 #[.val (.ref a0_), .val (.int (1 : Int32)), .val (.int p2), .val (.int p3), .val (.int p4), .val (.int p5)] [(.int p5)])) _
    refine XS.iload X0.here hx rfl (hb hby own_d2_5) rfl ?_
    show Steps p.tables e below (s₁.setTop (mkF m 7 #[.val (.ref a0_), .val (.int (1 : Int32)), .val (.int p2), .val (.int p3), .val (.int p4), .val (.int p5)] [(.int p5), (.int p5)])) _
    refine XS.icmpYes X0.here hx rfl (pc0 := 7) (pc' := 12) rfl (hb hby own_d2_7) rfl (teq rfl).1 (by decide) (by decide) ?_
    show Steps p.tables e below (s₁.setTop (mkF m 12 #[.val (.ref a0_), .val (.int (1 : Int32)), .val (.int p2), .val (.int p3), .val (.int p4), .val (.int p5)] [])) _
    refine XS.iloadN X0.here hx rfl (hb hby own_d2_12) rfl ?_
    show Steps p.tables e below (s₁.setTop (mkF m 13 #[.val (.ref a0_), .val (.int (1 : Int32)), .val (.int p2), .val (.int p3), .val (.int p4), .val (.int p5)] [(.int (1 : Int32))])) _
    refine XS.iconst X0.here hx rfl (hb hby own_d2_13) ?_
    show Steps p.tables e below (s₁.setTop (mkF m 14 #[.val (.ref a0_), .val (.int (1 : Int32)), .val (.int p2), .val (.int p3), .val (.int p4), .val (.int p5)] [(.int (1 : Int32)), (.int (1 : Int32))])) _
    refine XS.icmpYes X0.here hx rfl (pc0 := 14) (pc' := 26) rfl (hb hby own_d2_14) rfl (flt (by decide)).2.2.2 (by decide) (by decide) ?_
    show Steps p.tables e below (s₁.setTop (mkF m 26 #[.val (.ref a0_), .val (.int (1 : Int32)), .val (.int p2), .val (.int p3), .val (.int p4), .val (.int p5)] [])) _
    refine XS.iloadN X0.here hx rfl (hb hby own_d2_26) rfl ?_
    show Steps p.tables e below (s₁.setTop (mkF m 27 #[.val (.ref a0_), .val (.int (1 : Int32)), .val (.int p2), .val (.int p3), .val (.int p4), .val (.int p5)] [(.int (1 : Int32))])) _
    refine XS.iconst X0.here hx rfl (hb hby own_d2_27) ?_
    show Steps p.tables e below (s₁.setTop (mkF m 28 #[.val (.ref a0_), .val (.int (1 : Int32)), .val (.int p2), .val (.int p3), .val (.int p4), .val (.int p5)] [(.int (2 : Int32)), (.int (1 : Int32))])) _
    refine XS.icmpYes X0.here hx rfl (pc0 := 28) (pc' := 40) rfl (hb hby own_d2_28) rfl (flt (by decide)).2.2.2 (by decide) (by decide) ?_
    show Steps p.tables e below (s₁.setTop (mkF m 40 #[.val (.ref a0_), .val (.int (1 : Int32)), .val (.int p2), .val (.int p3), .val (.int p4), .val (.int p5)] [])) _
    refine XS.iloadN X0.here hx rfl (hb hby own_d2_40) rfl ?_
    show Steps p.tables e below (s₁.setTop (mkF m 41 #[.val (.ref a0_), .val (.int (1 : Int32)), .val (.int p2), .val (.int p3), .val (.int p4), .val (.int p5)] [(.int (1 : Int32))])) _
    refine XS.iconst X0.here hx rfl (hb hby own_d2_41) ?_
    show Steps p.tables e below (s₁.setTop (mkF m 42 #[.val (.ref a0_), .val (.int (1 : Int32)), .val (.int p2), .val (.int p3), .val (.int p4), .val (.int p5)] [(.int (3 : Int32)), (.int (1 : Int32))])) _
    refine XS.icmpYes X0.here hx rfl (pc0 := 42) (pc' := 55) rfl (hb hby own_d2_42) rfl (flt (by decide)).2.2.2 (by decide) (by decide) ?_
    show Steps p.tables e below (s₁.setTop (mkF m 55 #[.val (.ref a0_), .val (.int (1 : Int32)), .val (.int p2), .val (.int p3), .val (.int p4), .val (.int p5)] [])) _
    refine XS.iconst X0.here hx rfl (hb hby own_d2_55) ?_
    show Steps p.tables e below (s₁.setTop (mkF m 56 #[.val (.ref a0_), .val (.int (1 : Int32)), .val (.int p2), .val (.int p3), .val (.int p4), .val (.int p5)] [(.int (1 : Int32))])) _
    exact q)
  obtain ⟨fs, hr, hrun, hended, hW, hsame⟩ := X0.leave (v := some (.int (1 : Int32))) (fun h => by rw [Bd.returns] at h; cases h)
  refine ⟨_, _, k0 _ (k2 _ ?_), hrun, hended, _, _, rfl, ?_, ⟨_, rfl⟩, hW, hsame.mono (by decide) (by decide)⟩
  · show Steps p.tables e below (s₁.setTop (mkF m 56 #[.val (.ref a0_), .val (.int (1 : Int32)), .val (.int p2), .val (.int p3), .val (.int p4), .val (.int p5)] [(.int (1 : Int32))])) _
    exact retN X0 hx (t := .boolean) Bd.returns (by simp) (hb hby own_d2_56) hr
  · show Qsame1 Z a0_ p2 p3 p4 p5 kc h0 n0 _ s₁.heap _
    rw [e0]
    exact ⟨rfl, N0, rfl⟩
theorem own_d2_17 : decode method_3_code 17 = .ok (.aload_n 0, 1) := by decide +kernel
theorem own_d2_18 : decode method_3_code 18 = .ok (.iconst 0, 1) := by decide +kernel
theorem own_d2_19 : decode method_3_code 19 = .ok (.baload, 1) := by decide +kernel
theorem own_d2_20 : decode method_3_code 20 = .ok (.iload_n 2, 1) := by decide +kernel
theorem own_d2_21 : decode method_3_code 21 = .ok (.if_icmp .eq 5, 3) := by decide +kernel
theorem own_efsame2 (m : MethodId) (x0 : Addr) (x2 : Int32) (x3 : Int32) (x4 : Int32) (x5 : Int32) : entryFrame m #[(.ref x0), (.int (2 : Int32)), (.int x2), (.int x3), (.int x4), (.int x5)] 6 = mkF m 0 #[.val (.ref x0), .val (.int (2 : Int32)), .val (.int x2), .val (.int x3), .val (.int x4), .val (.int x5)] [] := by first | (simp [entryFrame, mkF, argsToLocals, Value.category]; done) | rfl
def Qsame2 (Z : State) (a0_ : Addr) (p2 : Int32) (p3 : Int32) (p4 : Int32) (p5 : Int32) (kc : ClassId) (h0 : Heap) (n0 : Nat) (v : Option Value) (h : Heap) (L : List Loc) : Prop := v = some (.int (1 : Int32)) ∧ Fr n0 L ∧ h = h0
set_option maxRecDepth 65536 in
set_option maxHeartbeats 40000000 in
theorem rmsame2 (l : Launch) (Z : State) (a0 : Array Value) (hw : ∀ d ∈ tables_1, d.before a0 Z = true) (ws : List Jvm.Cond) (a0_ : Addr) (p2 : Int32) (p3 : Int32) (p4 : Int32) (p5 : Int32) (kc : ClassId) (h0 : Heap) (n0 : Nat) (Z0 : n0 ≤ h0.size) (V0 : Arv Z h0 a0_ kc .byte (2 : Int32) [(.int p2), (.int p5)] (.int (0 : Int32))) :
    MetFree l (⟨"com/example/feeddb/feeddb/core/KeysPastNamePrefixPinLaw", "same", "([BIBBBB)Z"⟩ : MethodName) (head1 (Jvm.Cond.code (⟨"com/example/feeddb/feeddb/core/KeysPastNamePrefixPinLaw", "same", "([BIBBBB)Z"⟩ : MethodName) method_3_code 6 (some .boolean) :: ws) ({ frames := 0, cells := 0, slots := 0, locals := 0 } : Room)) (fun a U => a = #[(.ref a0_), (.int (2 : Int32)), (.int p2), (.int p3), (.int p4), (.int p5)] ∧ Z.Warmed39 U.vm ∧ U.heap = h0) (fun _ _ _ _ _ => True) (fun _ U o U' => ∃ v L, o = .returned v ∧ Qsame2 Z a0_ p2 p3 p4 p5 kc h0 n0 v U'.heap L ∧ FrameEnd U o U' L ({ frames := 0, cells := 0, slots := 0, locals := 0 } : Room).cells ({ frames := 0, cells := 0, slots := 0, locals := 0 } : Room).slots) := by
  refine MetFree.of_bodySF (plainFor_of_name own_pn2) hisR ?_
  intro p e s m args below meth c s₁ Bd hml0 hP hK
  obtain ⟨rfl, hZ, hh⟩ := hP
  have hx := Bd.exec
  have hby := Bd.bytes
  have hml : c.maxLocals = 6 := hml0
  have hown : s.vm.findClass "com/example/feeddb/feeddb/core/KeysPastNamePrefixPinLaw" = some m.cls := findClass_of_methodNamed Bd.named
  have hnm := (name_of_methodNamed Bd.named Bd.method).1
  have X0 : Stand p l e ({ frames := 0, cells := 0, slots := 0, locals := 0 } : Room) s m #[(.ref a0_), (.int (2 : Int32)), (.int p2), (.int p3), (.int p4), (.int p5)] below meth c s₁ [] 0 0 := Stand.of_body Bd
  have e0 : s₁.heap = h0 := by rw [← hh, Bd.state]; rfl
  have N0 := Fr.nil n0
  have k0 : own_To p e below s₁ (mkF m 0 #[.val (.ref a0_), .val (.int (2 : Int32)), .val (.int p2), .val (.int p3), .val (.int p4), .val (.int p5)] []) s₁ (entryFrame m #[(.ref a0_), (.int (2 : Int32)), (.int p2), (.int p3), (.int p4), (.int p5)] 6) := fun t k => castTop (own_efsame2 m a0_ p2 p3 p4 p5) k
  have ki : own_To p e below s₁ (mkF m 0 #[.val (.ref a0_), .val (.int (2 : Int32)), .val (.int p2), .val (.int p3), .val (.int p4), .val (.int p5)] []) s₁ (mkF m 0 #[.val (.ref a0_), .val (.int (2 : Int32)), .val (.int p2), .val (.int p3), .val (.int p4), .val (.int p5)] []) := fun t q => q
  obtain ⟨clr1, Arr1, qr1, Sr1, Mr1, Hhr1, Gr1⟩ := id V0
  have hinr1 : ¬ (((2 : Int32) - (1 : Int32)) < 0 ∨ clr1.slots.size ≤ (((2 : Int32) - (1 : Int32))).toNatClampNeg) := inb_of Sr1 ⟨by decide, by decide⟩
  have hatr1 : clr1.slots[(((2 : Int32) - (1 : Int32))).toNatClampNeg]? = some (.int p5) := Has.at Hhr1 hinr1 rfl
  obtain ⟨clr2, Arr2, qr2, Sr2, Mr2, Hhr2, Gr2⟩ := id V0
  have hinr2 : ¬ ((0 : Int32) < 0 ∨ clr2.slots.size ≤ ((0 : Int32)).toNatClampNeg) := inb_of Sr2 ⟨by decide, by decide⟩
  have hatr2 : clr2.slots[((0 : Int32)).toNatClampNeg]? = some (.int p2) := Has.at Hhr2 hinr2 rfl
  have k3 : own_To p e below s₁ (mkF m 56 #[.val (.ref a0_), .val (.int (2 : Int32)), .val (.int p2), .val (.int p3), .val (.int p4), .val (.int p5)] [(.int (1 : Int32))]) s₁ (mkF m 0 #[.val (.ref a0_), .val (.int (2 : Int32)), .val (.int p2), .val (.int p3), .val (.int p4), .val (.int p5)] []) := fun t q => ki t (by
    refine XS.aloadN X0.here hx rfl (hb hby own_d2_0) rfl rfl ?_
    show Steps p.tables e below (s₁.setTop (mkF m 1 #[.val (.ref a0_), .val (.int (2 : Int32)), .val (.int p2), .val (.int p3), .val (.int p4), .val (.int p5)] [(.ref a0_)])) _
    refine XS.iloadN X0.here hx rfl (hb hby own_d2_1) rfl ?_
    show Steps p.tables e below (s₁.setTop (mkF m 2 #[.val (.ref a0_), .val (.int (2 : Int32)), .val (.int p2), .val (.int p3), .val (.int p4), .val (.int p5)] [(.int (2 : Int32)), (.ref a0_)])) _
    refine XS.iconst X0.here hx rfl (hb hby own_d2_2) ?_
    show Steps p.tables e below (s₁.setTop (mkF m 3 #[.val (.ref a0_), .val (.int (2 : Int32)), .val (.int p2), .val (.int p3), .val (.int p4), .val (.int p5)] [(.int (1 : Int32)), (.int (2 : Int32)), (.ref a0_)])) _
    refine XS.isub X0.here hx rfl (hb hby own_d2_3) rfl ?_
    show Steps p.tables e below (s₁.setTop (mkF m 4 #[.val (.ref a0_), .val (.int (2 : Int32)), .val (.int p2), .val (.int p3), .val (.int p4), .val (.int p5)] [(.int ((2 : Int32) - (1 : Int32))), (.ref a0_)])) _
    refine X0.baloadBytes hx (j := ((2 : Int32) - (1 : Int32))) (v := (.int p5)) (by rw [e0]; exact Arr1.1) (State.isArrayOf_alike hZ.alike Arr1.2.1) Arr1.2.2 hinr1 hatr1 (g := (mkF m 4 #[.val (.ref a0_), .val (.int (2 : Int32)), .val (.int p2), .val (.int p3), .val (.int p4), .val (.int p5)] [(.int ((2 : Int32) - (1 : Int32))), (.ref a0_)])) rfl rfl (hb hby own_d2_4) _ ?_
    show Steps p.tables e below (s₁.setTop (mkF m 5 #[.val (.ref a0_), .val (.int (2 : Int32)), .val (.int p2), .val (.int p3), .val (.int p4), .val (.int p5)] [(.int p5)])) _
    refine XS.iload X0.here hx rfl (hb hby own_d2_5) rfl ?_
    show Steps p.tables e below (s₁.setTop (mkF m 7 #[.val (.ref a0_), .val (.int (2 : Int32)), .val (.int p2), .val (.int p3), .val (.int p4), .val (.int p5)] [(.int p5), (.int p5)])) _
    refine XS.icmpYes X0.here hx rfl (pc0 := 7) (pc' := 12) rfl (hb hby own_d2_7) rfl (teq rfl).1 (by decide) (by decide) ?_
    show Steps p.tables e below (s₁.setTop (mkF m 12 #[.val (.ref a0_), .val (.int (2 : Int32)), .val (.int p2), .val (.int p3), .val (.int p4), .val (.int p5)] [])) _
    refine XS.iloadN X0.here hx rfl (hb hby own_d2_12) rfl ?_
    show Steps p.tables e below (s₁.setTop (mkF m 13 #[.val (.ref a0_), .val (.int (2 : Int32)), .val (.int p2), .val (.int p3), .val (.int p4), .val (.int p5)] [(.int (2 : Int32))])) _
    refine XS.iconst X0.here hx rfl (hb hby own_d2_13) ?_
    show Steps p.tables e below (s₁.setTop (mkF m 14 #[.val (.ref a0_), .val (.int (2 : Int32)), .val (.int p2), .val (.int p3), .val (.int p4), .val (.int p5)] [(.int (1 : Int32)), (.int (2 : Int32))])) _
    refine XS.icmpNo X0.here hx rfl (hb hby own_d2_14) rfl (tlt (by decide)).2.2.2 ?_
    show Steps p.tables e below (s₁.setTop (mkF m 17 #[.val (.ref a0_), .val (.int (2 : Int32)), .val (.int p2), .val (.int p3), .val (.int p4), .val (.int p5)] [])) _
    refine XS.aloadN X0.here hx rfl (hb hby own_d2_17) rfl rfl ?_
    show Steps p.tables e below (s₁.setTop (mkF m 18 #[.val (.ref a0_), .val (.int (2 : Int32)), .val (.int p2), .val (.int p3), .val (.int p4), .val (.int p5)] [(.ref a0_)])) _
    refine XS.iconst X0.here hx rfl (hb hby own_d2_18) ?_
    show Steps p.tables e below (s₁.setTop (mkF m 19 #[.val (.ref a0_), .val (.int (2 : Int32)), .val (.int p2), .val (.int p3), .val (.int p4), .val (.int p5)] [(.int (0 : Int32)), (.ref a0_)])) _
    refine X0.baloadBytes hx (j := (0 : Int32)) (v := (.int p2)) (by rw [e0]; exact Arr2.1) (State.isArrayOf_alike hZ.alike Arr2.2.1) Arr2.2.2 hinr2 hatr2 (g := (mkF m 19 #[.val (.ref a0_), .val (.int (2 : Int32)), .val (.int p2), .val (.int p3), .val (.int p4), .val (.int p5)] [(.int (0 : Int32)), (.ref a0_)])) rfl rfl (hb hby own_d2_19) _ ?_
    show Steps p.tables e below (s₁.setTop (mkF m 20 #[.val (.ref a0_), .val (.int (2 : Int32)), .val (.int p2), .val (.int p3), .val (.int p4), .val (.int p5)] [(.int p2)])) _
    refine XS.iloadN X0.here hx rfl (hb hby own_d2_20) rfl ?_
    show Steps p.tables e below (s₁.setTop (mkF m 21 #[.val (.ref a0_), .val (.int (2 : Int32)), .val (.int p2), .val (.int p3), .val (.int p4), .val (.int p5)] [(.int p2), (.int p2)])) _
    refine XS.icmpYes X0.here hx rfl (pc0 := 21) (pc' := 26) rfl (hb hby own_d2_21) rfl (teq rfl).1 (by decide) (by decide) ?_
    show Steps p.tables e below (s₁.setTop (mkF m 26 #[.val (.ref a0_), .val (.int (2 : Int32)), .val (.int p2), .val (.int p3), .val (.int p4), .val (.int p5)] [])) _
    refine XS.iloadN X0.here hx rfl (hb hby own_d2_26) rfl ?_
    show Steps p.tables e below (s₁.setTop (mkF m 27 #[.val (.ref a0_), .val (.int (2 : Int32)), .val (.int p2), .val (.int p3), .val (.int p4), .val (.int p5)] [(.int (2 : Int32))])) _
    refine XS.iconst X0.here hx rfl (hb hby own_d2_27) ?_
    show Steps p.tables e below (s₁.setTop (mkF m 28 #[.val (.ref a0_), .val (.int (2 : Int32)), .val (.int p2), .val (.int p3), .val (.int p4), .val (.int p5)] [(.int (2 : Int32)), (.int (2 : Int32))])) _
    refine XS.icmpYes X0.here hx rfl (pc0 := 28) (pc' := 40) rfl (hb hby own_d2_28) rfl (flt (by decide)).2.2.2 (by decide) (by decide) ?_
    show Steps p.tables e below (s₁.setTop (mkF m 40 #[.val (.ref a0_), .val (.int (2 : Int32)), .val (.int p2), .val (.int p3), .val (.int p4), .val (.int p5)] [])) _
    refine XS.iloadN X0.here hx rfl (hb hby own_d2_40) rfl ?_
    show Steps p.tables e below (s₁.setTop (mkF m 41 #[.val (.ref a0_), .val (.int (2 : Int32)), .val (.int p2), .val (.int p3), .val (.int p4), .val (.int p5)] [(.int (2 : Int32))])) _
    refine XS.iconst X0.here hx rfl (hb hby own_d2_41) ?_
    show Steps p.tables e below (s₁.setTop (mkF m 42 #[.val (.ref a0_), .val (.int (2 : Int32)), .val (.int p2), .val (.int p3), .val (.int p4), .val (.int p5)] [(.int (3 : Int32)), (.int (2 : Int32))])) _
    refine XS.icmpYes X0.here hx rfl (pc0 := 42) (pc' := 55) rfl (hb hby own_d2_42) rfl (flt (by decide)).2.2.2 (by decide) (by decide) ?_
    show Steps p.tables e below (s₁.setTop (mkF m 55 #[.val (.ref a0_), .val (.int (2 : Int32)), .val (.int p2), .val (.int p3), .val (.int p4), .val (.int p5)] [])) _
    refine XS.iconst X0.here hx rfl (hb hby own_d2_55) ?_
    show Steps p.tables e below (s₁.setTop (mkF m 56 #[.val (.ref a0_), .val (.int (2 : Int32)), .val (.int p2), .val (.int p3), .val (.int p4), .val (.int p5)] [(.int (1 : Int32))])) _
    exact q)
  obtain ⟨fs, hr, hrun, hended, hW, hsame⟩ := X0.leave (v := some (.int (1 : Int32))) (fun h => by rw [Bd.returns] at h; cases h)
  refine ⟨_, _, k0 _ (k3 _ ?_), hrun, hended, _, _, rfl, ?_, ⟨_, rfl⟩, hW, hsame.mono (by decide) (by decide)⟩
  · show Steps p.tables e below (s₁.setTop (mkF m 56 #[.val (.ref a0_), .val (.int (2 : Int32)), .val (.int p2), .val (.int p3), .val (.int p4), .val (.int p5)] [(.int (1 : Int32))])) _
    exact retN X0 hx (t := .boolean) Bd.returns (by simp) (hb hby own_d2_56) hr
  · show Qsame2 Z a0_ p2 p3 p4 p5 kc h0 n0 _ s₁.heap _
    rw [e0]
    exact ⟨rfl, N0, rfl⟩
theorem own_d2_31 : decode method_3_code 31 = .ok (.aload_n 0, 1) := by decide +kernel
theorem own_d2_32 : decode method_3_code 32 = .ok (.iconst 1, 1) := by decide +kernel
theorem own_d2_33 : decode method_3_code 33 = .ok (.baload, 1) := by decide +kernel
theorem own_d2_34 : decode method_3_code 34 = .ok (.iload_n 3, 1) := by decide +kernel
theorem own_d2_35 : decode method_3_code 35 = .ok (.if_icmp .eq 5, 3) := by decide +kernel
theorem own_efsame3 (m : MethodId) (x0 : Addr) (x2 : Int32) (x3 : Int32) (x4 : Int32) (x5 : Int32) : entryFrame m #[(.ref x0), (.int (3 : Int32)), (.int x2), (.int x3), (.int x4), (.int x5)] 6 = mkF m 0 #[.val (.ref x0), .val (.int (3 : Int32)), .val (.int x2), .val (.int x3), .val (.int x4), .val (.int x5)] [] := by first | (simp [entryFrame, mkF, argsToLocals, Value.category]; done) | rfl
def Qsame3 (Z : State) (a0_ : Addr) (p2 : Int32) (p3 : Int32) (p4 : Int32) (p5 : Int32) (kc : ClassId) (h0 : Heap) (n0 : Nat) (v : Option Value) (h : Heap) (L : List Loc) : Prop := v = some (.int (1 : Int32)) ∧ Fr n0 L ∧ h = h0
set_option maxRecDepth 65536 in
set_option maxHeartbeats 40000000 in
theorem rmsame3 (l : Launch) (Z : State) (a0 : Array Value) (hw : ∀ d ∈ tables_1, d.before a0 Z = true) (ws : List Jvm.Cond) (a0_ : Addr) (p2 : Int32) (p3 : Int32) (p4 : Int32) (p5 : Int32) (kc : ClassId) (h0 : Heap) (n0 : Nat) (Z0 : n0 ≤ h0.size) (V0 : Arv Z h0 a0_ kc .byte (3 : Int32) [(.int p2), (.int p3), (.int p5)] (.int (0 : Int32))) :
    MetFree l (⟨"com/example/feeddb/feeddb/core/KeysPastNamePrefixPinLaw", "same", "([BIBBBB)Z"⟩ : MethodName) (head1 (Jvm.Cond.code (⟨"com/example/feeddb/feeddb/core/KeysPastNamePrefixPinLaw", "same", "([BIBBBB)Z"⟩ : MethodName) method_3_code 6 (some .boolean) :: ws) ({ frames := 0, cells := 0, slots := 0, locals := 0 } : Room)) (fun a U => a = #[(.ref a0_), (.int (3 : Int32)), (.int p2), (.int p3), (.int p4), (.int p5)] ∧ Z.Warmed39 U.vm ∧ U.heap = h0) (fun _ _ _ _ _ => True) (fun _ U o U' => ∃ v L, o = .returned v ∧ Qsame3 Z a0_ p2 p3 p4 p5 kc h0 n0 v U'.heap L ∧ FrameEnd U o U' L ({ frames := 0, cells := 0, slots := 0, locals := 0 } : Room).cells ({ frames := 0, cells := 0, slots := 0, locals := 0 } : Room).slots) := by
  refine MetFree.of_bodySF (plainFor_of_name own_pn2) hisR ?_
  intro p e s m args below meth c s₁ Bd hml0 hP hK
  obtain ⟨rfl, hZ, hh⟩ := hP
  have hx := Bd.exec
  have hby := Bd.bytes
  have hml : c.maxLocals = 6 := hml0
  have hown : s.vm.findClass "com/example/feeddb/feeddb/core/KeysPastNamePrefixPinLaw" = some m.cls := findClass_of_methodNamed Bd.named
  have hnm := (name_of_methodNamed Bd.named Bd.method).1
  have X0 : Stand p l e ({ frames := 0, cells := 0, slots := 0, locals := 0 } : Room) s m #[(.ref a0_), (.int (3 : Int32)), (.int p2), (.int p3), (.int p4), (.int p5)] below meth c s₁ [] 0 0 := Stand.of_body Bd
  have e0 : s₁.heap = h0 := by rw [← hh, Bd.state]; rfl
  have N0 := Fr.nil n0
  have k0 : own_To p e below s₁ (mkF m 0 #[.val (.ref a0_), .val (.int (3 : Int32)), .val (.int p2), .val (.int p3), .val (.int p4), .val (.int p5)] []) s₁ (entryFrame m #[(.ref a0_), (.int (3 : Int32)), (.int p2), (.int p3), (.int p4), (.int p5)] 6) := fun t k => castTop (own_efsame3 m a0_ p2 p3 p4 p5) k
  have ki : own_To p e below s₁ (mkF m 0 #[.val (.ref a0_), .val (.int (3 : Int32)), .val (.int p2), .val (.int p3), .val (.int p4), .val (.int p5)] []) s₁ (mkF m 0 #[.val (.ref a0_), .val (.int (3 : Int32)), .val (.int p2), .val (.int p3), .val (.int p4), .val (.int p5)] []) := fun t q => q
  obtain ⟨clr1, Arr1, qr1, Sr1, Mr1, Hhr1, Gr1⟩ := id V0
  have hinr1 : ¬ (((3 : Int32) - (1 : Int32)) < 0 ∨ clr1.slots.size ≤ (((3 : Int32) - (1 : Int32))).toNatClampNeg) := inb_of Sr1 ⟨by decide, by decide⟩
  have hatr1 : clr1.slots[(((3 : Int32) - (1 : Int32))).toNatClampNeg]? = some (.int p5) := Has.at Hhr1 hinr1 rfl
  obtain ⟨clr2, Arr2, qr2, Sr2, Mr2, Hhr2, Gr2⟩ := id V0
  have hinr2 : ¬ ((0 : Int32) < 0 ∨ clr2.slots.size ≤ ((0 : Int32)).toNatClampNeg) := inb_of Sr2 ⟨by decide, by decide⟩
  have hatr2 : clr2.slots[((0 : Int32)).toNatClampNeg]? = some (.int p2) := Has.at Hhr2 hinr2 rfl
  obtain ⟨clr3, Arr3, qr3, Sr3, Mr3, Hhr3, Gr3⟩ := id V0
  have hinr3 : ¬ ((1 : Int32) < 0 ∨ clr3.slots.size ≤ ((1 : Int32)).toNatClampNeg) := inb_of Sr3 ⟨by decide, by decide⟩
  have hatr3 : clr3.slots[((1 : Int32)).toNatClampNeg]? = some (.int p3) := Has.at Hhr3 hinr3 rfl
  have k4 : own_To p e below s₁ (mkF m 56 #[.val (.ref a0_), .val (.int (3 : Int32)), .val (.int p2), .val (.int p3), .val (.int p4), .val (.int p5)] [(.int (1 : Int32))]) s₁ (mkF m 0 #[.val (.ref a0_), .val (.int (3 : Int32)), .val (.int p2), .val (.int p3), .val (.int p4), .val (.int p5)] []) := fun t q => ki t (by
    refine XS.aloadN X0.here hx rfl (hb hby own_d2_0) rfl rfl ?_
    show Steps p.tables e below (s₁.setTop (mkF m 1 #[.val (.ref a0_), .val (.int (3 : Int32)), .val (.int p2), .val (.int p3), .val (.int p4), .val (.int p5)] [(.ref a0_)])) _
    refine XS.iloadN X0.here hx rfl (hb hby own_d2_1) rfl ?_
    show Steps p.tables e below (s₁.setTop (mkF m 2 #[.val (.ref a0_), .val (.int (3 : Int32)), .val (.int p2), .val (.int p3), .val (.int p4), .val (.int p5)] [(.int (3 : Int32)), (.ref a0_)])) _
    refine XS.iconst X0.here hx rfl (hb hby own_d2_2) ?_
    show Steps p.tables e below (s₁.setTop (mkF m 3 #[.val (.ref a0_), .val (.int (3 : Int32)), .val (.int p2), .val (.int p3), .val (.int p4), .val (.int p5)] [(.int (1 : Int32)), (.int (3 : Int32)), (.ref a0_)])) _
    refine XS.isub X0.here hx rfl (hb hby own_d2_3) rfl ?_
    show Steps p.tables e below (s₁.setTop (mkF m 4 #[.val (.ref a0_), .val (.int (3 : Int32)), .val (.int p2), .val (.int p3), .val (.int p4), .val (.int p5)] [(.int ((3 : Int32) - (1 : Int32))), (.ref a0_)])) _
    refine X0.baloadBytes hx (j := ((3 : Int32) - (1 : Int32))) (v := (.int p5)) (by rw [e0]; exact Arr1.1) (State.isArrayOf_alike hZ.alike Arr1.2.1) Arr1.2.2 hinr1 hatr1 (g := (mkF m 4 #[.val (.ref a0_), .val (.int (3 : Int32)), .val (.int p2), .val (.int p3), .val (.int p4), .val (.int p5)] [(.int ((3 : Int32) - (1 : Int32))), (.ref a0_)])) rfl rfl (hb hby own_d2_4) _ ?_
    show Steps p.tables e below (s₁.setTop (mkF m 5 #[.val (.ref a0_), .val (.int (3 : Int32)), .val (.int p2), .val (.int p3), .val (.int p4), .val (.int p5)] [(.int p5)])) _
    refine XS.iload X0.here hx rfl (hb hby own_d2_5) rfl ?_
    show Steps p.tables e below (s₁.setTop (mkF m 7 #[.val (.ref a0_), .val (.int (3 : Int32)), .val (.int p2), .val (.int p3), .val (.int p4), .val (.int p5)] [(.int p5), (.int p5)])) _
    refine XS.icmpYes X0.here hx rfl (pc0 := 7) (pc' := 12) rfl (hb hby own_d2_7) rfl (teq rfl).1 (by decide) (by decide) ?_
    show Steps p.tables e below (s₁.setTop (mkF m 12 #[.val (.ref a0_), .val (.int (3 : Int32)), .val (.int p2), .val (.int p3), .val (.int p4), .val (.int p5)] [])) _
    refine XS.iloadN X0.here hx rfl (hb hby own_d2_12) rfl ?_
    show Steps p.tables e below (s₁.setTop (mkF m 13 #[.val (.ref a0_), .val (.int (3 : Int32)), .val (.int p2), .val (.int p3), .val (.int p4), .val (.int p5)] [(.int (3 : Int32))])) _
    refine XS.iconst X0.here hx rfl (hb hby own_d2_13) ?_
    show Steps p.tables e below (s₁.setTop (mkF m 14 #[.val (.ref a0_), .val (.int (3 : Int32)), .val (.int p2), .val (.int p3), .val (.int p4), .val (.int p5)] [(.int (1 : Int32)), (.int (3 : Int32))])) _
    refine XS.icmpNo X0.here hx rfl (hb hby own_d2_14) rfl (tlt (by decide)).2.2.2 ?_
    show Steps p.tables e below (s₁.setTop (mkF m 17 #[.val (.ref a0_), .val (.int (3 : Int32)), .val (.int p2), .val (.int p3), .val (.int p4), .val (.int p5)] [])) _
    refine XS.aloadN X0.here hx rfl (hb hby own_d2_17) rfl rfl ?_
    show Steps p.tables e below (s₁.setTop (mkF m 18 #[.val (.ref a0_), .val (.int (3 : Int32)), .val (.int p2), .val (.int p3), .val (.int p4), .val (.int p5)] [(.ref a0_)])) _
    refine XS.iconst X0.here hx rfl (hb hby own_d2_18) ?_
    show Steps p.tables e below (s₁.setTop (mkF m 19 #[.val (.ref a0_), .val (.int (3 : Int32)), .val (.int p2), .val (.int p3), .val (.int p4), .val (.int p5)] [(.int (0 : Int32)), (.ref a0_)])) _
    refine X0.baloadBytes hx (j := (0 : Int32)) (v := (.int p2)) (by rw [e0]; exact Arr2.1) (State.isArrayOf_alike hZ.alike Arr2.2.1) Arr2.2.2 hinr2 hatr2 (g := (mkF m 19 #[.val (.ref a0_), .val (.int (3 : Int32)), .val (.int p2), .val (.int p3), .val (.int p4), .val (.int p5)] [(.int (0 : Int32)), (.ref a0_)])) rfl rfl (hb hby own_d2_19) _ ?_
    show Steps p.tables e below (s₁.setTop (mkF m 20 #[.val (.ref a0_), .val (.int (3 : Int32)), .val (.int p2), .val (.int p3), .val (.int p4), .val (.int p5)] [(.int p2)])) _
    refine XS.iloadN X0.here hx rfl (hb hby own_d2_20) rfl ?_
    show Steps p.tables e below (s₁.setTop (mkF m 21 #[.val (.ref a0_), .val (.int (3 : Int32)), .val (.int p2), .val (.int p3), .val (.int p4), .val (.int p5)] [(.int p2), (.int p2)])) _
    refine XS.icmpYes X0.here hx rfl (pc0 := 21) (pc' := 26) rfl (hb hby own_d2_21) rfl (teq rfl).1 (by decide) (by decide) ?_
    show Steps p.tables e below (s₁.setTop (mkF m 26 #[.val (.ref a0_), .val (.int (3 : Int32)), .val (.int p2), .val (.int p3), .val (.int p4), .val (.int p5)] [])) _
    refine XS.iloadN X0.here hx rfl (hb hby own_d2_26) rfl ?_
    show Steps p.tables e below (s₁.setTop (mkF m 27 #[.val (.ref a0_), .val (.int (3 : Int32)), .val (.int p2), .val (.int p3), .val (.int p4), .val (.int p5)] [(.int (3 : Int32))])) _
    refine XS.iconst X0.here hx rfl (hb hby own_d2_27) ?_
    show Steps p.tables e below (s₁.setTop (mkF m 28 #[.val (.ref a0_), .val (.int (3 : Int32)), .val (.int p2), .val (.int p3), .val (.int p4), .val (.int p5)] [(.int (2 : Int32)), (.int (3 : Int32))])) _
    refine XS.icmpNo X0.here hx rfl (hb hby own_d2_28) rfl (tlt (by decide)).2.2.2 ?_
    show Steps p.tables e below (s₁.setTop (mkF m 31 #[.val (.ref a0_), .val (.int (3 : Int32)), .val (.int p2), .val (.int p3), .val (.int p4), .val (.int p5)] [])) _
    refine XS.aloadN X0.here hx rfl (hb hby own_d2_31) rfl rfl ?_
    show Steps p.tables e below (s₁.setTop (mkF m 32 #[.val (.ref a0_), .val (.int (3 : Int32)), .val (.int p2), .val (.int p3), .val (.int p4), .val (.int p5)] [(.ref a0_)])) _
    refine XS.iconst X0.here hx rfl (hb hby own_d2_32) ?_
    show Steps p.tables e below (s₁.setTop (mkF m 33 #[.val (.ref a0_), .val (.int (3 : Int32)), .val (.int p2), .val (.int p3), .val (.int p4), .val (.int p5)] [(.int (1 : Int32)), (.ref a0_)])) _
    refine X0.baloadBytes hx (j := (1 : Int32)) (v := (.int p3)) (by rw [e0]; exact Arr3.1) (State.isArrayOf_alike hZ.alike Arr3.2.1) Arr3.2.2 hinr3 hatr3 (g := (mkF m 33 #[.val (.ref a0_), .val (.int (3 : Int32)), .val (.int p2), .val (.int p3), .val (.int p4), .val (.int p5)] [(.int (1 : Int32)), (.ref a0_)])) rfl rfl (hb hby own_d2_33) _ ?_
    show Steps p.tables e below (s₁.setTop (mkF m 34 #[.val (.ref a0_), .val (.int (3 : Int32)), .val (.int p2), .val (.int p3), .val (.int p4), .val (.int p5)] [(.int p3)])) _
    refine XS.iloadN X0.here hx rfl (hb hby own_d2_34) rfl ?_
    show Steps p.tables e below (s₁.setTop (mkF m 35 #[.val (.ref a0_), .val (.int (3 : Int32)), .val (.int p2), .val (.int p3), .val (.int p4), .val (.int p5)] [(.int p3), (.int p3)])) _
    refine XS.icmpYes X0.here hx rfl (pc0 := 35) (pc' := 40) rfl (hb hby own_d2_35) rfl (teq rfl).1 (by decide) (by decide) ?_
    show Steps p.tables e below (s₁.setTop (mkF m 40 #[.val (.ref a0_), .val (.int (3 : Int32)), .val (.int p2), .val (.int p3), .val (.int p4), .val (.int p5)] [])) _
    refine XS.iloadN X0.here hx rfl (hb hby own_d2_40) rfl ?_
    show Steps p.tables e below (s₁.setTop (mkF m 41 #[.val (.ref a0_), .val (.int (3 : Int32)), .val (.int p2), .val (.int p3), .val (.int p4), .val (.int p5)] [(.int (3 : Int32))])) _
    refine XS.iconst X0.here hx rfl (hb hby own_d2_41) ?_
    show Steps p.tables e below (s₁.setTop (mkF m 42 #[.val (.ref a0_), .val (.int (3 : Int32)), .val (.int p2), .val (.int p3), .val (.int p4), .val (.int p5)] [(.int (3 : Int32)), (.int (3 : Int32))])) _
    refine XS.icmpYes X0.here hx rfl (pc0 := 42) (pc' := 55) rfl (hb hby own_d2_42) rfl (flt (by decide)).2.2.2 (by decide) (by decide) ?_
    show Steps p.tables e below (s₁.setTop (mkF m 55 #[.val (.ref a0_), .val (.int (3 : Int32)), .val (.int p2), .val (.int p3), .val (.int p4), .val (.int p5)] [])) _
    refine XS.iconst X0.here hx rfl (hb hby own_d2_55) ?_
    show Steps p.tables e below (s₁.setTop (mkF m 56 #[.val (.ref a0_), .val (.int (3 : Int32)), .val (.int p2), .val (.int p3), .val (.int p4), .val (.int p5)] [(.int (1 : Int32))])) _
    exact q)
  obtain ⟨fs, hr, hrun, hended, hW, hsame⟩ := X0.leave (v := some (.int (1 : Int32))) (fun h => by rw [Bd.returns] at h; cases h)
  refine ⟨_, _, k0 _ (k4 _ ?_), hrun, hended, _, _, rfl, ?_, ⟨_, rfl⟩, hW, hsame.mono (by decide) (by decide)⟩
  · show Steps p.tables e below (s₁.setTop (mkF m 56 #[.val (.ref a0_), .val (.int (3 : Int32)), .val (.int p2), .val (.int p3), .val (.int p4), .val (.int p5)] [(.int (1 : Int32))])) _
    exact retN X0 hx (t := .boolean) Bd.returns (by simp) (hb hby own_d2_56) hr
  · show Qsame3 Z a0_ p2 p3 p4 p5 kc h0 n0 _ s₁.heap _
    rw [e0]
    exact ⟨rfl, N0, rfl⟩
theorem own_d2_45 : decode method_3_code 45 = .ok (.aload_n 0, 1) := by decide +kernel
theorem own_d2_46 : decode method_3_code 46 = .ok (.iconst 2, 1) := by decide +kernel
theorem own_d2_47 : decode method_3_code 47 = .ok (.baload, 1) := by decide +kernel
theorem own_d2_48 : decode method_3_code 48 = .ok (.iload 4, 2) := by decide +kernel
theorem own_d2_50 : decode method_3_code 50 = .ok (.if_icmp .eq 5, 3) := by decide +kernel
theorem own_efsame4 (m : MethodId) (x0 : Addr) (x2 : Int32) (x3 : Int32) (x4 : Int32) (x5 : Int32) : entryFrame m #[(.ref x0), (.int (4 : Int32)), (.int x2), (.int x3), (.int x4), (.int x5)] 6 = mkF m 0 #[.val (.ref x0), .val (.int (4 : Int32)), .val (.int x2), .val (.int x3), .val (.int x4), .val (.int x5)] [] := by first | (simp [entryFrame, mkF, argsToLocals, Value.category]; done) | rfl
def Qsame4 (Z : State) (a0_ : Addr) (p2 : Int32) (p3 : Int32) (p4 : Int32) (p5 : Int32) (kc : ClassId) (h0 : Heap) (n0 : Nat) (v : Option Value) (h : Heap) (L : List Loc) : Prop := v = some (.int (1 : Int32)) ∧ Fr n0 L ∧ h = h0
set_option maxRecDepth 65536 in
set_option maxHeartbeats 40000000 in
theorem rmsame4 (l : Launch) (Z : State) (a0 : Array Value) (hw : ∀ d ∈ tables_1, d.before a0 Z = true) (ws : List Jvm.Cond) (a0_ : Addr) (p2 : Int32) (p3 : Int32) (p4 : Int32) (p5 : Int32) (kc : ClassId) (h0 : Heap) (n0 : Nat) (Z0 : n0 ≤ h0.size) (V0 : Arv Z h0 a0_ kc .byte (4 : Int32) [(.int p2), (.int p3), (.int p4), (.int p5)] (.int (0 : Int32))) :
    MetFree l (⟨"com/example/feeddb/feeddb/core/KeysPastNamePrefixPinLaw", "same", "([BIBBBB)Z"⟩ : MethodName) (head1 (Jvm.Cond.code (⟨"com/example/feeddb/feeddb/core/KeysPastNamePrefixPinLaw", "same", "([BIBBBB)Z"⟩ : MethodName) method_3_code 6 (some .boolean) :: ws) ({ frames := 0, cells := 0, slots := 0, locals := 0 } : Room)) (fun a U => a = #[(.ref a0_), (.int (4 : Int32)), (.int p2), (.int p3), (.int p4), (.int p5)] ∧ Z.Warmed39 U.vm ∧ U.heap = h0) (fun _ _ _ _ _ => True) (fun _ U o U' => ∃ v L, o = .returned v ∧ Qsame4 Z a0_ p2 p3 p4 p5 kc h0 n0 v U'.heap L ∧ FrameEnd U o U' L ({ frames := 0, cells := 0, slots := 0, locals := 0 } : Room).cells ({ frames := 0, cells := 0, slots := 0, locals := 0 } : Room).slots) := by
  refine MetFree.of_bodySF (plainFor_of_name own_pn2) hisR ?_
  intro p e s m args below meth c s₁ Bd hml0 hP hK
  obtain ⟨rfl, hZ, hh⟩ := hP
  have hx := Bd.exec
  have hby := Bd.bytes
  have hml : c.maxLocals = 6 := hml0
  have hown : s.vm.findClass "com/example/feeddb/feeddb/core/KeysPastNamePrefixPinLaw" = some m.cls := findClass_of_methodNamed Bd.named
  have hnm := (name_of_methodNamed Bd.named Bd.method).1
  have X0 : Stand p l e ({ frames := 0, cells := 0, slots := 0, locals := 0 } : Room) s m #[(.ref a0_), (.int (4 : Int32)), (.int p2), (.int p3), (.int p4), (.int p5)] below meth c s₁ [] 0 0 := Stand.of_body Bd
  have e0 : s₁.heap = h0 := by rw [← hh, Bd.state]; rfl
  have N0 := Fr.nil n0
  have k0 : own_To p e below s₁ (mkF m 0 #[.val (.ref a0_), .val (.int (4 : Int32)), .val (.int p2), .val (.int p3), .val (.int p4), .val (.int p5)] []) s₁ (entryFrame m #[(.ref a0_), (.int (4 : Int32)), (.int p2), (.int p3), (.int p4), (.int p5)] 6) := fun t k => castTop (own_efsame4 m a0_ p2 p3 p4 p5) k
  have ki : own_To p e below s₁ (mkF m 0 #[.val (.ref a0_), .val (.int (4 : Int32)), .val (.int p2), .val (.int p3), .val (.int p4), .val (.int p5)] []) s₁ (mkF m 0 #[.val (.ref a0_), .val (.int (4 : Int32)), .val (.int p2), .val (.int p3), .val (.int p4), .val (.int p5)] []) := fun t q => q
  obtain ⟨clr1, Arr1, qr1, Sr1, Mr1, Hhr1, Gr1⟩ := id V0
  have hinr1 : ¬ (((4 : Int32) - (1 : Int32)) < 0 ∨ clr1.slots.size ≤ (((4 : Int32) - (1 : Int32))).toNatClampNeg) := inb_of Sr1 ⟨by decide, by decide⟩
  have hatr1 : clr1.slots[(((4 : Int32) - (1 : Int32))).toNatClampNeg]? = some (.int p5) := Has.at Hhr1 hinr1 rfl
  obtain ⟨clr2, Arr2, qr2, Sr2, Mr2, Hhr2, Gr2⟩ := id V0
  have hinr2 : ¬ ((0 : Int32) < 0 ∨ clr2.slots.size ≤ ((0 : Int32)).toNatClampNeg) := inb_of Sr2 ⟨by decide, by decide⟩
  have hatr2 : clr2.slots[((0 : Int32)).toNatClampNeg]? = some (.int p2) := Has.at Hhr2 hinr2 rfl
  obtain ⟨clr3, Arr3, qr3, Sr3, Mr3, Hhr3, Gr3⟩ := id V0
  have hinr3 : ¬ ((1 : Int32) < 0 ∨ clr3.slots.size ≤ ((1 : Int32)).toNatClampNeg) := inb_of Sr3 ⟨by decide, by decide⟩
  have hatr3 : clr3.slots[((1 : Int32)).toNatClampNeg]? = some (.int p3) := Has.at Hhr3 hinr3 rfl
  obtain ⟨clr4, Arr4, qr4, Sr4, Mr4, Hhr4, Gr4⟩ := id V0
  have hinr4 : ¬ ((2 : Int32) < 0 ∨ clr4.slots.size ≤ ((2 : Int32)).toNatClampNeg) := inb_of Sr4 ⟨by decide, by decide⟩
  have hatr4 : clr4.slots[((2 : Int32)).toNatClampNeg]? = some (.int p4) := Has.at Hhr4 hinr4 rfl
  have k5 : own_To p e below s₁ (mkF m 56 #[.val (.ref a0_), .val (.int (4 : Int32)), .val (.int p2), .val (.int p3), .val (.int p4), .val (.int p5)] [(.int (1 : Int32))]) s₁ (mkF m 0 #[.val (.ref a0_), .val (.int (4 : Int32)), .val (.int p2), .val (.int p3), .val (.int p4), .val (.int p5)] []) := fun t q => ki t (by
    refine XS.aloadN X0.here hx rfl (hb hby own_d2_0) rfl rfl ?_
    show Steps p.tables e below (s₁.setTop (mkF m 1 #[.val (.ref a0_), .val (.int (4 : Int32)), .val (.int p2), .val (.int p3), .val (.int p4), .val (.int p5)] [(.ref a0_)])) _
    refine XS.iloadN X0.here hx rfl (hb hby own_d2_1) rfl ?_
    show Steps p.tables e below (s₁.setTop (mkF m 2 #[.val (.ref a0_), .val (.int (4 : Int32)), .val (.int p2), .val (.int p3), .val (.int p4), .val (.int p5)] [(.int (4 : Int32)), (.ref a0_)])) _
    refine XS.iconst X0.here hx rfl (hb hby own_d2_2) ?_
    show Steps p.tables e below (s₁.setTop (mkF m 3 #[.val (.ref a0_), .val (.int (4 : Int32)), .val (.int p2), .val (.int p3), .val (.int p4), .val (.int p5)] [(.int (1 : Int32)), (.int (4 : Int32)), (.ref a0_)])) _
    refine XS.isub X0.here hx rfl (hb hby own_d2_3) rfl ?_
    show Steps p.tables e below (s₁.setTop (mkF m 4 #[.val (.ref a0_), .val (.int (4 : Int32)), .val (.int p2), .val (.int p3), .val (.int p4), .val (.int p5)] [(.int ((4 : Int32) - (1 : Int32))), (.ref a0_)])) _
    refine X0.baloadBytes hx (j := ((4 : Int32) - (1 : Int32))) (v := (.int p5)) (by rw [e0]; exact Arr1.1) (State.isArrayOf_alike hZ.alike Arr1.2.1) Arr1.2.2 hinr1 hatr1 (g := (mkF m 4 #[.val (.ref a0_), .val (.int (4 : Int32)), .val (.int p2), .val (.int p3), .val (.int p4), .val (.int p5)] [(.int ((4 : Int32) - (1 : Int32))), (.ref a0_)])) rfl rfl (hb hby own_d2_4) _ ?_
    show Steps p.tables e below (s₁.setTop (mkF m 5 #[.val (.ref a0_), .val (.int (4 : Int32)), .val (.int p2), .val (.int p3), .val (.int p4), .val (.int p5)] [(.int p5)])) _
    refine XS.iload X0.here hx rfl (hb hby own_d2_5) rfl ?_
    show Steps p.tables e below (s₁.setTop (mkF m 7 #[.val (.ref a0_), .val (.int (4 : Int32)), .val (.int p2), .val (.int p3), .val (.int p4), .val (.int p5)] [(.int p5), (.int p5)])) _
    refine XS.icmpYes X0.here hx rfl (pc0 := 7) (pc' := 12) rfl (hb hby own_d2_7) rfl (teq rfl).1 (by decide) (by decide) ?_
    show Steps p.tables e below (s₁.setTop (mkF m 12 #[.val (.ref a0_), .val (.int (4 : Int32)), .val (.int p2), .val (.int p3), .val (.int p4), .val (.int p5)] [])) _
    refine XS.iloadN X0.here hx rfl (hb hby own_d2_12) rfl ?_
    show Steps p.tables e below (s₁.setTop (mkF m 13 #[.val (.ref a0_), .val (.int (4 : Int32)), .val (.int p2), .val (.int p3), .val (.int p4), .val (.int p5)] [(.int (4 : Int32))])) _
    refine XS.iconst X0.here hx rfl (hb hby own_d2_13) ?_
    show Steps p.tables e below (s₁.setTop (mkF m 14 #[.val (.ref a0_), .val (.int (4 : Int32)), .val (.int p2), .val (.int p3), .val (.int p4), .val (.int p5)] [(.int (1 : Int32)), (.int (4 : Int32))])) _
    refine XS.icmpNo X0.here hx rfl (hb hby own_d2_14) rfl (tlt (by decide)).2.2.2 ?_
    show Steps p.tables e below (s₁.setTop (mkF m 17 #[.val (.ref a0_), .val (.int (4 : Int32)), .val (.int p2), .val (.int p3), .val (.int p4), .val (.int p5)] [])) _
    refine XS.aloadN X0.here hx rfl (hb hby own_d2_17) rfl rfl ?_
    show Steps p.tables e below (s₁.setTop (mkF m 18 #[.val (.ref a0_), .val (.int (4 : Int32)), .val (.int p2), .val (.int p3), .val (.int p4), .val (.int p5)] [(.ref a0_)])) _
    refine XS.iconst X0.here hx rfl (hb hby own_d2_18) ?_
    show Steps p.tables e below (s₁.setTop (mkF m 19 #[.val (.ref a0_), .val (.int (4 : Int32)), .val (.int p2), .val (.int p3), .val (.int p4), .val (.int p5)] [(.int (0 : Int32)), (.ref a0_)])) _
    refine X0.baloadBytes hx (j := (0 : Int32)) (v := (.int p2)) (by rw [e0]; exact Arr2.1) (State.isArrayOf_alike hZ.alike Arr2.2.1) Arr2.2.2 hinr2 hatr2 (g := (mkF m 19 #[.val (.ref a0_), .val (.int (4 : Int32)), .val (.int p2), .val (.int p3), .val (.int p4), .val (.int p5)] [(.int (0 : Int32)), (.ref a0_)])) rfl rfl (hb hby own_d2_19) _ ?_
    show Steps p.tables e below (s₁.setTop (mkF m 20 #[.val (.ref a0_), .val (.int (4 : Int32)), .val (.int p2), .val (.int p3), .val (.int p4), .val (.int p5)] [(.int p2)])) _
    refine XS.iloadN X0.here hx rfl (hb hby own_d2_20) rfl ?_
    show Steps p.tables e below (s₁.setTop (mkF m 21 #[.val (.ref a0_), .val (.int (4 : Int32)), .val (.int p2), .val (.int p3), .val (.int p4), .val (.int p5)] [(.int p2), (.int p2)])) _
    refine XS.icmpYes X0.here hx rfl (pc0 := 21) (pc' := 26) rfl (hb hby own_d2_21) rfl (teq rfl).1 (by decide) (by decide) ?_
    show Steps p.tables e below (s₁.setTop (mkF m 26 #[.val (.ref a0_), .val (.int (4 : Int32)), .val (.int p2), .val (.int p3), .val (.int p4), .val (.int p5)] [])) _
    refine XS.iloadN X0.here hx rfl (hb hby own_d2_26) rfl ?_
    show Steps p.tables e below (s₁.setTop (mkF m 27 #[.val (.ref a0_), .val (.int (4 : Int32)), .val (.int p2), .val (.int p3), .val (.int p4), .val (.int p5)] [(.int (4 : Int32))])) _
    refine XS.iconst X0.here hx rfl (hb hby own_d2_27) ?_
    show Steps p.tables e below (s₁.setTop (mkF m 28 #[.val (.ref a0_), .val (.int (4 : Int32)), .val (.int p2), .val (.int p3), .val (.int p4), .val (.int p5)] [(.int (2 : Int32)), (.int (4 : Int32))])) _
    refine XS.icmpNo X0.here hx rfl (hb hby own_d2_28) rfl (tlt (by decide)).2.2.2 ?_
    show Steps p.tables e below (s₁.setTop (mkF m 31 #[.val (.ref a0_), .val (.int (4 : Int32)), .val (.int p2), .val (.int p3), .val (.int p4), .val (.int p5)] [])) _
    refine XS.aloadN X0.here hx rfl (hb hby own_d2_31) rfl rfl ?_
    show Steps p.tables e below (s₁.setTop (mkF m 32 #[.val (.ref a0_), .val (.int (4 : Int32)), .val (.int p2), .val (.int p3), .val (.int p4), .val (.int p5)] [(.ref a0_)])) _
    refine XS.iconst X0.here hx rfl (hb hby own_d2_32) ?_
    show Steps p.tables e below (s₁.setTop (mkF m 33 #[.val (.ref a0_), .val (.int (4 : Int32)), .val (.int p2), .val (.int p3), .val (.int p4), .val (.int p5)] [(.int (1 : Int32)), (.ref a0_)])) _
    refine X0.baloadBytes hx (j := (1 : Int32)) (v := (.int p3)) (by rw [e0]; exact Arr3.1) (State.isArrayOf_alike hZ.alike Arr3.2.1) Arr3.2.2 hinr3 hatr3 (g := (mkF m 33 #[.val (.ref a0_), .val (.int (4 : Int32)), .val (.int p2), .val (.int p3), .val (.int p4), .val (.int p5)] [(.int (1 : Int32)), (.ref a0_)])) rfl rfl (hb hby own_d2_33) _ ?_
    show Steps p.tables e below (s₁.setTop (mkF m 34 #[.val (.ref a0_), .val (.int (4 : Int32)), .val (.int p2), .val (.int p3), .val (.int p4), .val (.int p5)] [(.int p3)])) _
    refine XS.iloadN X0.here hx rfl (hb hby own_d2_34) rfl ?_
    show Steps p.tables e below (s₁.setTop (mkF m 35 #[.val (.ref a0_), .val (.int (4 : Int32)), .val (.int p2), .val (.int p3), .val (.int p4), .val (.int p5)] [(.int p3), (.int p3)])) _
    refine XS.icmpYes X0.here hx rfl (pc0 := 35) (pc' := 40) rfl (hb hby own_d2_35) rfl (teq rfl).1 (by decide) (by decide) ?_
    show Steps p.tables e below (s₁.setTop (mkF m 40 #[.val (.ref a0_), .val (.int (4 : Int32)), .val (.int p2), .val (.int p3), .val (.int p4), .val (.int p5)] [])) _
    refine XS.iloadN X0.here hx rfl (hb hby own_d2_40) rfl ?_
    show Steps p.tables e below (s₁.setTop (mkF m 41 #[.val (.ref a0_), .val (.int (4 : Int32)), .val (.int p2), .val (.int p3), .val (.int p4), .val (.int p5)] [(.int (4 : Int32))])) _
    refine XS.iconst X0.here hx rfl (hb hby own_d2_41) ?_
    show Steps p.tables e below (s₁.setTop (mkF m 42 #[.val (.ref a0_), .val (.int (4 : Int32)), .val (.int p2), .val (.int p3), .val (.int p4), .val (.int p5)] [(.int (3 : Int32)), (.int (4 : Int32))])) _
    refine XS.icmpNo X0.here hx rfl (hb hby own_d2_42) rfl (tlt (by decide)).2.2.2 ?_
    show Steps p.tables e below (s₁.setTop (mkF m 45 #[.val (.ref a0_), .val (.int (4 : Int32)), .val (.int p2), .val (.int p3), .val (.int p4), .val (.int p5)] [])) _
    refine XS.aloadN X0.here hx rfl (hb hby own_d2_45) rfl rfl ?_
    show Steps p.tables e below (s₁.setTop (mkF m 46 #[.val (.ref a0_), .val (.int (4 : Int32)), .val (.int p2), .val (.int p3), .val (.int p4), .val (.int p5)] [(.ref a0_)])) _
    refine XS.iconst X0.here hx rfl (hb hby own_d2_46) ?_
    show Steps p.tables e below (s₁.setTop (mkF m 47 #[.val (.ref a0_), .val (.int (4 : Int32)), .val (.int p2), .val (.int p3), .val (.int p4), .val (.int p5)] [(.int (2 : Int32)), (.ref a0_)])) _
    refine X0.baloadBytes hx (j := (2 : Int32)) (v := (.int p4)) (by rw [e0]; exact Arr4.1) (State.isArrayOf_alike hZ.alike Arr4.2.1) Arr4.2.2 hinr4 hatr4 (g := (mkF m 47 #[.val (.ref a0_), .val (.int (4 : Int32)), .val (.int p2), .val (.int p3), .val (.int p4), .val (.int p5)] [(.int (2 : Int32)), (.ref a0_)])) rfl rfl (hb hby own_d2_47) _ ?_
    show Steps p.tables e below (s₁.setTop (mkF m 48 #[.val (.ref a0_), .val (.int (4 : Int32)), .val (.int p2), .val (.int p3), .val (.int p4), .val (.int p5)] [(.int p4)])) _
    refine XS.iload X0.here hx rfl (hb hby own_d2_48) rfl ?_
    show Steps p.tables e below (s₁.setTop (mkF m 50 #[.val (.ref a0_), .val (.int (4 : Int32)), .val (.int p2), .val (.int p3), .val (.int p4), .val (.int p5)] [(.int p4), (.int p4)])) _
    refine XS.icmpYes X0.here hx rfl (pc0 := 50) (pc' := 55) rfl (hb hby own_d2_50) rfl (teq rfl).1 (by decide) (by decide) ?_
    show Steps p.tables e below (s₁.setTop (mkF m 55 #[.val (.ref a0_), .val (.int (4 : Int32)), .val (.int p2), .val (.int p3), .val (.int p4), .val (.int p5)] [])) _
    refine XS.iconst X0.here hx rfl (hb hby own_d2_55) ?_
    show Steps p.tables e below (s₁.setTop (mkF m 56 #[.val (.ref a0_), .val (.int (4 : Int32)), .val (.int p2), .val (.int p3), .val (.int p4), .val (.int p5)] [(.int (1 : Int32))])) _
    exact q)
  obtain ⟨fs, hr, hrun, hended, hW, hsame⟩ := X0.leave (v := some (.int (1 : Int32))) (fun h => by rw [Bd.returns] at h; cases h)
  refine ⟨_, _, k0 _ (k5 _ ?_), hrun, hended, _, _, rfl, ?_, ⟨_, rfl⟩, hW, hsame.mono (by decide) (by decide)⟩
  · show Steps p.tables e below (s₁.setTop (mkF m 56 #[.val (.ref a0_), .val (.int (4 : Int32)), .val (.int p2), .val (.int p3), .val (.int p4), .val (.int p5)] [(.int (1 : Int32))])) _
    exact retN X0 hx (t := .boolean) Bd.returns (by simp) (hb hby own_d2_56) hr
  · show Qsame4 Z a0_ p2 p3 p4 p5 kc h0 n0 _ s₁.heap _
    rw [e0]
    exact ⟨rfl, N0, rfl⟩
theorem own_pd1 : parseMethodDescriptor "([B)[B" = some ⟨[(.array .byte)], some (.array .byte)⟩ := by decide +kernel
theorem own_pd2 : parseMethodDescriptor "([BIBBBB)Z" = some ⟨[(.array .byte), .int, .byte, .byte, .byte, .byte], some .boolean⟩ := by decide +kernel
theorem own_pn0 : plainName "com/example/feeddb/feeddb/core/KeysPastNamePrefixPinLaw" = true := by first | (simp [plainName, overriddenIn]; done) | decide +kernel
theorem own_ef0 (m : MethodId) (x0 : Int32) (x1 : Int32) : entryFrame m #[(.int x0), (.int x1)] maxLocals = mkF m 0 #[.val (.int x0), .val (.int x1), .unset, .unset, .unset, .unset, .unset, .unset] [] := by first | (simp [entryFrame, mkF, argsToLocals, Value.category, maxLocals]; done) | rfl
def Q0 (Z : State) (p0 : Int32) (p1 : Int32) (h0 : Heap) (n0 : Nat) (v : Option Value) (h : Heap) (L : List Loc) : Prop := v = some (.int 1) ∧ Fr n0 L
set_option maxRecDepth 65536 in
set_option maxHeartbeats 40000000 in
theorem rm0 (l : Launch) (Z : State) (a0 : Array Value) (hw : ∀ d ∈ tables_1, d.before a0 Z = true) (ws : List Jvm.Cond) (p0 : Int32) (p1 : Int32) (h0 : Heap) (n0 : Nat) (Z0 : n0 ≤ h0.size) :
    MetFree l x (head1 (Jvm.Cond.code x code maxLocals ret :: ws) room_1) (fun a U => a = #[(.int p0), (.int p1)] ∧ Z.Warmed39 U.vm ∧ U.heap = h0) (fun _ _ _ _ _ => True) (fun _ U o U' => ∃ v L, o = .returned v ∧ Q0 Z p0 p1 h0 n0 v U'.heap L ∧ FrameEnd U o U' L 16 128) := by
  refine MetFree.of_bodySF (plainFor_of_name own_pn0) hisR ?_
  intro p e s m args below meth c s₁ Bd hml0 hP hK
  obtain ⟨rfl, hZ, hh⟩ := hP
  have hx := Bd.exec
  have hby := Bd.bytes
  have hml : c.maxLocals = 8 := hml0
  have hown : s.vm.findClass "com/example/feeddb/feeddb/core/KeysPastNamePrefixPinLaw" = some m.cls := findClass_of_methodNamed Bd.named
  have hnm := (name_of_methodNamed Bd.named Bd.method).1
  have X0 : Stand p l e room_1 s m #[(.int p0), (.int p1)] below meth c s₁ [] 0 0 := Stand.of_body Bd
  have e0 : s₁.heap = h0 := by rw [← hh, Bd.state]; rfl
  have N0 := Fr.nil n0
  have k0 : own_To p e below s₁ (mkF m 0 #[.val (.int p0), .val (.int p1), .unset, .unset, .unset, .unset, .unset, .unset] []) s₁ (entryFrame m #[(.int p0), (.int p1)] maxLocals) := fun t k => castTop (own_ef0 m p0 p1) k
  have ki : own_To p e below s₁ (mkF m 0 #[.val (.int p0), .val (.int p1), .unset, .unset, .unset, .unset, .unset, .unset] []) s₁ (mkF m 0 #[.val (.int p0), .val (.int p1), .unset, .unset, .unset, .unset, .unset, .unset] []) := fun t q => q
  have k1 : own_To p e below s₁ (mkF m 6 #[.val (.int p0), .val (.int p1), .val (.int ((p0 &&& (3 : Int32)) + (1 : Int32))), .unset, .unset, .unset, .unset, .unset] []) s₁ (mkF m 0 #[.val (.int p0), .val (.int p1), .unset, .unset, .unset, .unset, .unset, .unset] []) := fun t q => ki t (by
    refine XS.iloadN X0.here hx rfl (hb hby at_0) rfl ?_
    show Steps p.tables e below (s₁.setTop (mkF m 1 #[.val (.int p0), .val (.int p1), .unset, .unset, .unset, .unset, .unset, .unset] [(.int p0)])) _
    refine XS.iconst X0.here hx rfl (hb hby at_1) ?_
    show Steps p.tables e below (s₁.setTop (mkF m 2 #[.val (.int p0), .val (.int p1), .unset, .unset, .unset, .unset, .unset, .unset] [(.int (3 : Int32)), (.int p0)])) _
    refine XS.iand X0.here hx rfl (hb hby at_2) rfl ?_
    show Steps p.tables e below (s₁.setTop (mkF m 3 #[.val (.int p0), .val (.int p1), .unset, .unset, .unset, .unset, .unset, .unset] [(.int (p0 &&& (3 : Int32)))])) _
    refine XS.iconst X0.here hx rfl (hb hby at_3) ?_
    show Steps p.tables e below (s₁.setTop (mkF m 4 #[.val (.int p0), .val (.int p1), .unset, .unset, .unset, .unset, .unset, .unset] [(.int (1 : Int32)), (.int (p0 &&& (3 : Int32)))])) _
    refine XS.iadd X0.here hx rfl (hb hby at_4) rfl ?_
    show Steps p.tables e below (s₁.setTop (mkF m 5 #[.val (.int p0), .val (.int p1), .unset, .unset, .unset, .unset, .unset, .unset] [(.int ((p0 &&& (3 : Int32)) + (1 : Int32)))])) _
    refine XS.istoreN X0.here hx rfl (hb hby at_5) rfl (l' := #[.val (.int p0), .val (.int p1), .val (.int ((p0 &&& (3 : Int32)) + (1 : Int32))), .unset, .unset, .unset, .unset, .unset]) rfl ?_
    show Steps p.tables e below (s₁.setTop (mkF m 6 #[.val (.int p0), .val (.int p1), .val (.int ((p0 &&& (3 : Int32)) + (1 : Int32))), .unset, .unset, .unset, .unset, .unset] [])) _
    exact q)
  rcases own_n4 p0 with hn | hn | hn | hn
  ·
    have k2 : own_To p e below s₁ (mkF m 6 #[.val (.int p0), .val (.int p1), .val (.int (1 : Int32)), .unset, .unset, .unset, .unset, .unset] []) s₁ (mkF m 0 #[.val (.int p0), .val (.int p1), .unset, .unset, .unset, .unset, .unset, .unset] []) := by rw [hn] at k1; exact k1
    obtain ⟨T3, h3, kk3, X3, e3, E3, A3, EA3, st3⟩ := newPE X0 hx hZ (hw _ (List.mem_of_getElem? (i := 0) rfl)) e0 (g := (mkF m 24 #[.val (.int p0), .val (.int p1), .val (.int (1 : Int32)), .val (.int (p1.toInt8.toInt32)), .val (.int (((p1.toUInt32 >>> ((8 : Int32) &&& 31).toUInt32).toInt32).toInt8.toInt32)), .val (.int (((p1.toUInt32 >>> ((16 : Int32) &&& 31).toUInt32).toInt32).toInt8.toInt32)), .unset, .unset] [(.int (1 : Int32))])) rfl (hb hby at_24) rfl (by decide) (cap := 1) (by decide) (by decide) (by decide) (by decide) (ad := "[B") rfl
    obtain ⟨b3, g3⟩ : ∃ z, z = h0.size := ⟨_, rfl⟩
    rw [← g3] at A3 EA3 st3
    have ge_b3 : n0 ≤ b3 := Nat.le_trans Z0 (Nat.le_of_eq g3.symm)
    have K4 : Keep h0 h0 [] := (Keep.refl h0 [])
    have sz_b3 : h0.size ≤ b3 := Nat.le_trans K4.1 (Nat.le_of_eq g3.symm)
    have V3 : Arv Z h3 b3 kk3 .byte (1 : Int32) [(.int (0 : Int32))] (.int (0 : Int32)) := (Arv.new A3 (by decide)).pad (pad_rep [] (.int (0 : Int32)) 1)
    have K6 : Keep h0 h3 [] := (K4.ext E3)
    obtain ⟨_, _, ⟨T5, L5, kk5, n5⟩, -, X5, ⟨Lc5, hQ5, l5, y5, z5⟩, st5⟩ := Jvm.LawKit.callS X3 hx (y := (⟨"com/example/feeddb/feeddb/core/Keys", "pastNamePrefix", "([B)[B"⟩ : MethodName)) hown (mvT hZ (hw _ (List.mem_of_getElem? (i := 1) rfl))) (mvT hZ (hw _ (List.mem_of_getElem? (i := 2) rfl))) (mvT hZ (hw _ (List.mem_of_getElem? (i := 3) rfl))) (mvT hZ (hw _ (List.mem_of_getElem? (i := 4) rfl))) (by decide) (backOf (W := 0) (rm1 l Z a0 hw [] b3 kk3 (1 : Int32) [(.int (0 : Int32))] h3 n0 (Nat.le_trans Z0 K6.1) V3 EA3 (by decide) (by decide) (Nat.le_of_ble_eq_true rfl)) hZ (hw _ (List.mem_of_getElem? (i := 4) rfl)) (hw _ (List.mem_of_getElem? (i := 3) rfl)) (by decide) (by decide)) (g := (mkF m 62 #[.val (.int p0), .val (.int p1), .val (.int (1 : Int32)), .val (.int (p1.toInt8.toInt32)), .val (.int (((p1.toUInt32 >>> ((8 : Int32) &&& 31).toUInt32).toInt32).toInt8.toInt32)), .val (.int (((p1.toUInt32 >>> ((16 : Int32) &&& 31).toUInt32).toInt32).toInt8.toInt32)), .val (.ref b3), .unset] [(.ref b3)])) rfl (by rw [hml]; rfl) (argsL := [(.ref b3)]) (rest := []) (lenOf own_pd1 rfl) rfl (by show 2 * 0 + _ ≤ _; exact Nat.le_of_eq rfl) (hb hby at_62) (fun _ _ => ⟨rfl, e3, (by decide : 1 + 1 ≤ _), (by decide : 1 + 4 ≤ _)⟩)
    dsimp only [Pt.U, Pt.locs, Pt.cells, Pt.slots] at X5 l5 y5 z5 st5 hQ5
    subst l5 y5 z5
    obtain ⟨r5, rfl, N5q, K5, ne5, ge_r5, V5⟩ := hQ5
    have N5 := Fr.app N0 N5q
    have W5 : Arv Z T5.heap r5 kk3 .byte (1 : Int32) [(.int (1 : Int32))] (.int (0 : Int32)) := V5
    obtain ⟨clr7, Arr7, qr7, Sr7, Mr7, Hhr7, Gr7⟩ := id W5
    have K9 : Keep h0 T5.heap [] := (K6.trans K5 all0)
    have F10 := (V3.keep K5 nin0)
    obtain ⟨_, _, ⟨T8, L8, kk8, n8⟩, -, X8, ⟨Lc8, hQ8, l8, y8, z8⟩, st8⟩ := Jvm.LawKit.callS X5 hx (y := (⟨"com/example/feeddb/feeddb/core/KeysPastNamePrefixPinLaw", "same", "([BIBBBB)Z"⟩ : MethodName)) hown (mvT hZ (hw _ (List.mem_of_getElem? (i := 14) rfl))) (mvT hZ (hw _ (List.mem_of_getElem? (i := 15) rfl))) (mvT hZ (hw _ (List.mem_of_getElem? (i := 16) rfl))) (mvT hZ (hw _ (List.mem_of_getElem? (i := 17) rfl))) (by decide) (backOf (W := 0) (rmsame1 l Z a0 hw [] b3 (p1.toInt8.toInt32) (((p1.toUInt32 >>> ((8 : Int32) &&& 31).toUInt32).toInt32).toInt8.toInt32) (((p1.toUInt32 >>> ((16 : Int32) &&& 31).toUInt32).toInt32).toInt8.toInt32) (0 : Int32) kk3 T5.heap n0 (Nat.le_trans Z0 K9.1) F10) hZ (hw _ (List.mem_of_getElem? (i := 17) rfl)) (hw _ (List.mem_of_getElem? (i := 16) rfl)) (by decide) (by decide)) (g := (mkF m 97 #[.val (.int p0), .val (.int p1), .val (.int (1 : Int32)), .val (.int (p1.toInt8.toInt32)), .val (.int (((p1.toUInt32 >>> ((8 : Int32) &&& 31).toUInt32).toInt32).toInt8.toInt32)), .val (.int (((p1.toUInt32 >>> ((16 : Int32) &&& 31).toUInt32).toInt32).toInt8.toInt32)), .val (.ref b3), .val (.ref r5)] [(.int (0 : Int32)), (.int (((p1.toUInt32 >>> ((16 : Int32) &&& 31).toUInt32).toInt32).toInt8.toInt32)), (.int (((p1.toUInt32 >>> ((8 : Int32) &&& 31).toUInt32).toInt32).toInt8.toInt32)), (.int (p1.toInt8.toInt32)), (.int (1 : Int32)), (.ref b3)])) rfl (by rw [hml]; rfl) (argsL := [(.ref b3), (.int (1 : Int32)), (.int (p1.toInt8.toInt32)), (.int (((p1.toUInt32 >>> ((8 : Int32) &&& 31).toUInt32).toInt32).toInt8.toInt32)), (.int (((p1.toUInt32 >>> ((16 : Int32) &&& 31).toUInt32).toInt32).toInt8.toInt32)), (.int (0 : Int32))]) (rest := []) (lenOf own_pd2 rfl) rfl (by show 2 * 0 + _ ≤ _; exact Nat.le_of_eq rfl) (hb hby at_97) (fun _ _ => ⟨rfl, rfl, (by decide : 2 + 0 ≤ _), (by decide : 5 + 0 ≤ _)⟩)
    dsimp only [Pt.U, Pt.locs, Pt.cells, Pt.slots] at X8 l8 y8 z8 st8 hQ8
    subst l8 y8 z8
    obtain ⟨rfl, N8q, e8⟩ := hQ8
    have N8 := Fr.app N5 N8q
    obtain ⟨_, _, ⟨T11, L11, kk11, n11⟩, -, X11, ⟨Lc11, hQ11, l11, y11, z11⟩, st11⟩ := Jvm.LawKit.callS X8 hx (y := (⟨"com/example/feeddb/feeddb/core/KeysPastNamePrefixPinLaw", "same", "([BIBBBB)Z"⟩ : MethodName)) hown (mvT hZ (hw _ (List.mem_of_getElem? (i := 14) rfl))) (mvT hZ (hw _ (List.mem_of_getElem? (i := 15) rfl))) (mvT hZ (hw _ (List.mem_of_getElem? (i := 16) rfl))) (mvT hZ (hw _ (List.mem_of_getElem? (i := 17) rfl))) (by decide) (backOf (W := 0) (rmsame1 l Z a0 hw [] r5 (p1.toInt8.toInt32) (((p1.toUInt32 >>> ((8 : Int32) &&& 31).toUInt32).toInt32).toInt8.toInt32) (((p1.toUInt32 >>> ((16 : Int32) &&& 31).toUInt32).toInt32).toInt8.toInt32) (1 : Int32) kk3 T5.heap n0 (Nat.le_trans Z0 K9.1) W5) hZ (hw _ (List.mem_of_getElem? (i := 17) rfl)) (hw _ (List.mem_of_getElem? (i := 16) rfl)) (by decide) (by decide)) (g := (mkF m 114 #[.val (.int p0), .val (.int p1), .val (.int (1 : Int32)), .val (.int (p1.toInt8.toInt32)), .val (.int (((p1.toUInt32 >>> ((8 : Int32) &&& 31).toUInt32).toInt32).toInt8.toInt32)), .val (.int (((p1.toUInt32 >>> ((16 : Int32) &&& 31).toUInt32).toInt32).toInt8.toInt32)), .val (.ref b3), .val (.ref r5)] [(.int (1 : Int32)), (.int (((p1.toUInt32 >>> ((16 : Int32) &&& 31).toUInt32).toInt32).toInt8.toInt32)), (.int (((p1.toUInt32 >>> ((8 : Int32) &&& 31).toUInt32).toInt32).toInt8.toInt32)), (.int (p1.toInt8.toInt32)), (.int (1 : Int32)), (.ref r5)])) rfl (by rw [hml]; rfl) (argsL := [(.ref r5), (.int (1 : Int32)), (.int (p1.toInt8.toInt32)), (.int (((p1.toUInt32 >>> ((8 : Int32) &&& 31).toUInt32).toInt32).toInt8.toInt32)), (.int (((p1.toUInt32 >>> ((16 : Int32) &&& 31).toUInt32).toInt32).toInt8.toInt32)), (.int (1 : Int32))]) (rest := []) (lenOf own_pd2 rfl) rfl (by show 2 * 0 + _ ≤ _; exact Nat.le_of_eq rfl) (hb hby at_114) (fun _ _ => ⟨rfl, e8, (by decide : 2 + 0 ≤ _), (by decide : 5 + 0 ≤ _)⟩)
    dsimp only [Pt.U, Pt.locs, Pt.cells, Pt.slots] at X11 l11 y11 z11 st11 hQ11
    subst l11 y11 z11
    obtain ⟨rfl, N11q, e11⟩ := hQ11
    have N11 := Fr.app N8 N11q
    have k12 : own_To p e below T11 (mkF m 117 #[.val (.int p0), .val (.int p1), .val (.int (1 : Int32)), .val (.int (p1.toInt8.toInt32)), .val (.int (((p1.toUInt32 >>> ((8 : Int32) &&& 31).toUInt32).toInt32).toInt8.toInt32)), .val (.int (((p1.toUInt32 >>> ((16 : Int32) &&& 31).toUInt32).toInt32).toInt8.toInt32)), .val (.ref b3), .val (.ref r5)] [(.int (1 : Int32))]) s₁ (mkF m 0 #[.val (.int p0), .val (.int p1), .unset, .unset, .unset, .unset, .unset, .unset] []) := fun t q => k2 t (by
      refine XS.iloadN X0.here hx rfl (hb hby at_6) rfl ?_
      show Steps p.tables e below (s₁.setTop (mkF m 7 #[.val (.int p0), .val (.int p1), .val (.int (1 : Int32)), .unset, .unset, .unset, .unset, .unset] [(.int p1)])) _
      refine XS.i2b X0.here hx rfl (hb hby at_7) rfl ?_
      show Steps p.tables e below (s₁.setTop (mkF m 8 #[.val (.int p0), .val (.int p1), .val (.int (1 : Int32)), .unset, .unset, .unset, .unset, .unset] [(.int (p1.toInt8.toInt32))])) _
      refine XS.istoreN X0.here hx rfl (hb hby at_8) rfl (l' := #[.val (.int p0), .val (.int p1), .val (.int (1 : Int32)), .val (.int (p1.toInt8.toInt32)), .unset, .unset, .unset, .unset]) rfl ?_
      show Steps p.tables e below (s₁.setTop (mkF m 9 #[.val (.int p0), .val (.int p1), .val (.int (1 : Int32)), .val (.int (p1.toInt8.toInt32)), .unset, .unset, .unset, .unset] [])) _
      refine XS.iloadN X0.here hx rfl (hb hby at_9) rfl ?_
      show Steps p.tables e below (s₁.setTop (mkF m 10 #[.val (.int p0), .val (.int p1), .val (.int (1 : Int32)), .val (.int (p1.toInt8.toInt32)), .unset, .unset, .unset, .unset] [(.int p1)])) _
      refine XS.bipush X0.here hx rfl (hb hby at_10) ?_
      show Steps p.tables e below (s₁.setTop (mkF m 12 #[.val (.int p0), .val (.int p1), .val (.int (1 : Int32)), .val (.int (p1.toInt8.toInt32)), .unset, .unset, .unset, .unset] [(.int (8 : Int32)), (.int p1)])) _
      refine XS.iushr X0.here hx rfl (hb hby at_12) rfl ?_
      show Steps p.tables e below (s₁.setTop (mkF m 13 #[.val (.int p0), .val (.int p1), .val (.int (1 : Int32)), .val (.int (p1.toInt8.toInt32)), .unset, .unset, .unset, .unset] [(.int ((p1.toUInt32 >>> ((8 : Int32) &&& 31).toUInt32).toInt32))])) _
      refine XS.i2b X0.here hx rfl (hb hby at_13) rfl ?_
      show Steps p.tables e below (s₁.setTop (mkF m 14 #[.val (.int p0), .val (.int p1), .val (.int (1 : Int32)), .val (.int (p1.toInt8.toInt32)), .unset, .unset, .unset, .unset] [(.int (((p1.toUInt32 >>> ((8 : Int32) &&& 31).toUInt32).toInt32).toInt8.toInt32))])) _
      refine XS.istore X0.here hx rfl (hb hby at_14) rfl (l' := #[.val (.int p0), .val (.int p1), .val (.int (1 : Int32)), .val (.int (p1.toInt8.toInt32)), .val (.int (((p1.toUInt32 >>> ((8 : Int32) &&& 31).toUInt32).toInt32).toInt8.toInt32)), .unset, .unset, .unset]) rfl ?_
      show Steps p.tables e below (s₁.setTop (mkF m 16 #[.val (.int p0), .val (.int p1), .val (.int (1 : Int32)), .val (.int (p1.toInt8.toInt32)), .val (.int (((p1.toUInt32 >>> ((8 : Int32) &&& 31).toUInt32).toInt32).toInt8.toInt32)), .unset, .unset, .unset] [])) _
      refine XS.iloadN X0.here hx rfl (hb hby at_16) rfl ?_
      show Steps p.tables e below (s₁.setTop (mkF m 17 #[.val (.int p0), .val (.int p1), .val (.int (1 : Int32)), .val (.int (p1.toInt8.toInt32)), .val (.int (((p1.toUInt32 >>> ((8 : Int32) &&& 31).toUInt32).toInt32).toInt8.toInt32)), .unset, .unset, .unset] [(.int p1)])) _
      refine XS.bipush X0.here hx rfl (hb hby at_17) ?_
      show Steps p.tables e below (s₁.setTop (mkF m 19 #[.val (.int p0), .val (.int p1), .val (.int (1 : Int32)), .val (.int (p1.toInt8.toInt32)), .val (.int (((p1.toUInt32 >>> ((8 : Int32) &&& 31).toUInt32).toInt32).toInt8.toInt32)), .unset, .unset, .unset] [(.int (16 : Int32)), (.int p1)])) _
      refine XS.iushr X0.here hx rfl (hb hby at_19) rfl ?_
      show Steps p.tables e below (s₁.setTop (mkF m 20 #[.val (.int p0), .val (.int p1), .val (.int (1 : Int32)), .val (.int (p1.toInt8.toInt32)), .val (.int (((p1.toUInt32 >>> ((8 : Int32) &&& 31).toUInt32).toInt32).toInt8.toInt32)), .unset, .unset, .unset] [(.int ((p1.toUInt32 >>> ((16 : Int32) &&& 31).toUInt32).toInt32))])) _
      refine XS.i2b X0.here hx rfl (hb hby at_20) rfl ?_
      show Steps p.tables e below (s₁.setTop (mkF m 21 #[.val (.int p0), .val (.int p1), .val (.int (1 : Int32)), .val (.int (p1.toInt8.toInt32)), .val (.int (((p1.toUInt32 >>> ((8 : Int32) &&& 31).toUInt32).toInt32).toInt8.toInt32)), .unset, .unset, .unset] [(.int (((p1.toUInt32 >>> ((16 : Int32) &&& 31).toUInt32).toInt32).toInt8.toInt32))])) _
      refine XS.istore X0.here hx rfl (hb hby at_21) rfl (l' := #[.val (.int p0), .val (.int p1), .val (.int (1 : Int32)), .val (.int (p1.toInt8.toInt32)), .val (.int (((p1.toUInt32 >>> ((8 : Int32) &&& 31).toUInt32).toInt32).toInt8.toInt32)), .val (.int (((p1.toUInt32 >>> ((16 : Int32) &&& 31).toUInt32).toInt32).toInt8.toInt32)), .unset, .unset]) rfl ?_
      show Steps p.tables e below (s₁.setTop (mkF m 23 #[.val (.int p0), .val (.int p1), .val (.int (1 : Int32)), .val (.int (p1.toInt8.toInt32)), .val (.int (((p1.toUInt32 >>> ((8 : Int32) &&& 31).toUInt32).toInt32).toInt8.toInt32)), .val (.int (((p1.toUInt32 >>> ((16 : Int32) &&& 31).toUInt32).toInt32).toInt8.toInt32)), .unset, .unset] [])) _
      refine XS.iloadN X0.here hx rfl (hb hby at_23) rfl ?_
      show Steps p.tables e below (s₁.setTop (mkF m 24 #[.val (.int p0), .val (.int p1), .val (.int (1 : Int32)), .val (.int (p1.toInt8.toInt32)), .val (.int (((p1.toUInt32 >>> ((8 : Int32) &&& 31).toUInt32).toInt32).toInt8.toInt32)), .val (.int (((p1.toUInt32 >>> ((16 : Int32) &&& 31).toUInt32).toInt32).toInt8.toInt32)), .unset, .unset] [(.int (1 : Int32))])) _
      refine st3 _ ?_
      show Steps p.tables e below (T3.setTop (mkF m 26 #[.val (.int p0), .val (.int p1), .val (.int (1 : Int32)), .val (.int (p1.toInt8.toInt32)), .val (.int (((p1.toUInt32 >>> ((8 : Int32) &&& 31).toUInt32).toInt32).toInt8.toInt32)), .val (.int (((p1.toUInt32 >>> ((16 : Int32) &&& 31).toUInt32).toInt32).toInt8.toInt32)), .unset, .unset] [(.ref b3)])) _
      refine XS.astore X3.here hx rfl (hb hby at_26) rfl rfl (l' := #[.val (.int p0), .val (.int p1), .val (.int (1 : Int32)), .val (.int (p1.toInt8.toInt32)), .val (.int (((p1.toUInt32 >>> ((8 : Int32) &&& 31).toUInt32).toInt32).toInt8.toInt32)), .val (.int (((p1.toUInt32 >>> ((16 : Int32) &&& 31).toUInt32).toInt32).toInt8.toInt32)), .val (.ref b3), .unset]) rfl ?_
      show Steps p.tables e below (T3.setTop (mkF m 28 #[.val (.int p0), .val (.int p1), .val (.int (1 : Int32)), .val (.int (p1.toInt8.toInt32)), .val (.int (((p1.toUInt32 >>> ((8 : Int32) &&& 31).toUInt32).toInt32).toInt8.toInt32)), .val (.int (((p1.toUInt32 >>> ((16 : Int32) &&& 31).toUInt32).toInt32).toInt8.toInt32)), .val (.ref b3), .unset] [])) _
      refine XS.iloadN X3.here hx rfl (hb hby at_28) rfl ?_
      show Steps p.tables e below (T3.setTop (mkF m 29 #[.val (.int p0), .val (.int p1), .val (.int (1 : Int32)), .val (.int (p1.toInt8.toInt32)), .val (.int (((p1.toUInt32 >>> ((8 : Int32) &&& 31).toUInt32).toInt32).toInt8.toInt32)), .val (.int (((p1.toUInt32 >>> ((16 : Int32) &&& 31).toUInt32).toInt32).toInt8.toInt32)), .val (.ref b3), .unset] [(.int (1 : Int32))])) _
      refine XS.iconst X3.here hx rfl (hb hby at_29) ?_
      show Steps p.tables e below (T3.setTop (mkF m 30 #[.val (.int p0), .val (.int p1), .val (.int (1 : Int32)), .val (.int (p1.toInt8.toInt32)), .val (.int (((p1.toUInt32 >>> ((8 : Int32) &&& 31).toUInt32).toInt32).toInt8.toInt32)), .val (.int (((p1.toUInt32 >>> ((16 : Int32) &&& 31).toUInt32).toInt32).toInt8.toInt32)), .val (.ref b3), .unset] [(.int (1 : Int32)), (.int (1 : Int32))])) _
      refine XS.icmpYes X3.here hx rfl (pc0 := 30) (pc' := 38) rfl (hb hby at_30) rfl (flt (by decide)).2.2.2 (by decide) (by decide) ?_
      show Steps p.tables e below (T3.setTop (mkF m 38 #[.val (.int p0), .val (.int p1), .val (.int (1 : Int32)), .val (.int (p1.toInt8.toInt32)), .val (.int (((p1.toUInt32 >>> ((8 : Int32) &&& 31).toUInt32).toInt32).toInt8.toInt32)), .val (.int (((p1.toUInt32 >>> ((16 : Int32) &&& 31).toUInt32).toInt32).toInt8.toInt32)), .val (.ref b3), .unset] [])) _
      refine XS.iloadN X3.here hx rfl (hb hby at_38) rfl ?_
      show Steps p.tables e below (T3.setTop (mkF m 39 #[.val (.int p0), .val (.int p1), .val (.int (1 : Int32)), .val (.int (p1.toInt8.toInt32)), .val (.int (((p1.toUInt32 >>> ((8 : Int32) &&& 31).toUInt32).toInt32).toInt8.toInt32)), .val (.int (((p1.toUInt32 >>> ((16 : Int32) &&& 31).toUInt32).toInt32).toInt8.toInt32)), .val (.ref b3), .unset] [(.int (1 : Int32))])) _
      refine XS.iconst X3.here hx rfl (hb hby at_39) ?_
      show Steps p.tables e below (T3.setTop (mkF m 40 #[.val (.int p0), .val (.int p1), .val (.int (1 : Int32)), .val (.int (p1.toInt8.toInt32)), .val (.int (((p1.toUInt32 >>> ((8 : Int32) &&& 31).toUInt32).toInt32).toInt8.toInt32)), .val (.int (((p1.toUInt32 >>> ((16 : Int32) &&& 31).toUInt32).toInt32).toInt8.toInt32)), .val (.ref b3), .unset] [(.int (2 : Int32)), (.int (1 : Int32))])) _
      refine XS.icmpYes X3.here hx rfl (pc0 := 40) (pc' := 49) rfl (hb hby at_40) rfl (flt (by decide)).2.2.2 (by decide) (by decide) ?_
      show Steps p.tables e below (T3.setTop (mkF m 49 #[.val (.int p0), .val (.int p1), .val (.int (1 : Int32)), .val (.int (p1.toInt8.toInt32)), .val (.int (((p1.toUInt32 >>> ((8 : Int32) &&& 31).toUInt32).toInt32).toInt8.toInt32)), .val (.int (((p1.toUInt32 >>> ((16 : Int32) &&& 31).toUInt32).toInt32).toInt8.toInt32)), .val (.ref b3), .unset] [])) _
      refine XS.iloadN X3.here hx rfl (hb hby at_49) rfl ?_
      show Steps p.tables e below (T3.setTop (mkF m 50 #[.val (.int p0), .val (.int p1), .val (.int (1 : Int32)), .val (.int (p1.toInt8.toInt32)), .val (.int (((p1.toUInt32 >>> ((8 : Int32) &&& 31).toUInt32).toInt32).toInt8.toInt32)), .val (.int (((p1.toUInt32 >>> ((16 : Int32) &&& 31).toUInt32).toInt32).toInt8.toInt32)), .val (.ref b3), .unset] [(.int (1 : Int32))])) _
      refine XS.iconst X3.here hx rfl (hb hby at_50) ?_
      show Steps p.tables e below (T3.setTop (mkF m 51 #[.val (.int p0), .val (.int p1), .val (.int (1 : Int32)), .val (.int (p1.toInt8.toInt32)), .val (.int (((p1.toUInt32 >>> ((8 : Int32) &&& 31).toUInt32).toInt32).toInt8.toInt32)), .val (.int (((p1.toUInt32 >>> ((16 : Int32) &&& 31).toUInt32).toInt32).toInt8.toInt32)), .val (.ref b3), .unset] [(.int (3 : Int32)), (.int (1 : Int32))])) _
      refine XS.icmpYes X3.here hx rfl (pc0 := 51) (pc' := 60) rfl (hb hby at_51) rfl (flt (by decide)).2.2.2 (by decide) (by decide) ?_
      show Steps p.tables e below (T3.setTop (mkF m 60 #[.val (.int p0), .val (.int p1), .val (.int (1 : Int32)), .val (.int (p1.toInt8.toInt32)), .val (.int (((p1.toUInt32 >>> ((8 : Int32) &&& 31).toUInt32).toInt32).toInt8.toInt32)), .val (.int (((p1.toUInt32 >>> ((16 : Int32) &&& 31).toUInt32).toInt32).toInt8.toInt32)), .val (.ref b3), .unset] [])) _
      refine XS.aload X3.here hx rfl (hb hby at_60) rfl rfl ?_
      show Steps p.tables e below (T3.setTop (mkF m 62 #[.val (.int p0), .val (.int p1), .val (.int (1 : Int32)), .val (.int (p1.toInt8.toInt32)), .val (.int (((p1.toUInt32 >>> ((8 : Int32) &&& 31).toUInt32).toInt32).toInt8.toInt32)), .val (.int (((p1.toUInt32 >>> ((16 : Int32) &&& 31).toUInt32).toInt32).toInt8.toInt32)), .val (.ref b3), .unset] [(.ref b3)])) _
      refine st5 _ ?_
      show Steps p.tables e below (T5.setTop (mkF m 65 #[.val (.int p0), .val (.int p1), .val (.int (1 : Int32)), .val (.int (p1.toInt8.toInt32)), .val (.int (((p1.toUInt32 >>> ((8 : Int32) &&& 31).toUInt32).toInt32).toInt8.toInt32)), .val (.int (((p1.toUInt32 >>> ((16 : Int32) &&& 31).toUInt32).toInt32).toInt8.toInt32)), .val (.ref b3), .unset] [(.ref r5)])) _
      refine XS.astore X5.here hx rfl (hb hby at_65) rfl rfl (l' := #[.val (.int p0), .val (.int p1), .val (.int (1 : Int32)), .val (.int (p1.toInt8.toInt32)), .val (.int (((p1.toUInt32 >>> ((8 : Int32) &&& 31).toUInt32).toInt32).toInt8.toInt32)), .val (.int (((p1.toUInt32 >>> ((16 : Int32) &&& 31).toUInt32).toInt32).toInt8.toInt32)), .val (.ref b3), .val (.ref r5)]) rfl ?_
      show Steps p.tables e below (T5.setTop (mkF m 67 #[.val (.int p0), .val (.int p1), .val (.int (1 : Int32)), .val (.int (p1.toInt8.toInt32)), .val (.int (((p1.toUInt32 >>> ((8 : Int32) &&& 31).toUInt32).toInt32).toInt8.toInt32)), .val (.int (((p1.toUInt32 >>> ((16 : Int32) &&& 31).toUInt32).toInt32).toInt8.toInt32)), .val (.ref b3), .val (.ref r5)] [])) _
      refine XS.aload X5.here hx rfl (hb hby at_67) rfl rfl ?_
      show Steps p.tables e below (T5.setTop (mkF m 69 #[.val (.int p0), .val (.int p1), .val (.int (1 : Int32)), .val (.int (p1.toInt8.toInt32)), .val (.int (((p1.toUInt32 >>> ((8 : Int32) &&& 31).toUInt32).toInt32).toInt8.toInt32)), .val (.int (((p1.toUInt32 >>> ((16 : Int32) &&& 31).toUInt32).toInt32).toInt8.toInt32)), .val (.ref b3), .val (.ref r5)] [(.ref r5)])) _
      refine XS.ifnullNo X5.here hx rfl (hb hby at_69) rfl ?_
      show Steps p.tables e below (T5.setTop (mkF m 72 #[.val (.int p0), .val (.int p1), .val (.int (1 : Int32)), .val (.int (p1.toInt8.toInt32)), .val (.int (((p1.toUInt32 >>> ((8 : Int32) &&& 31).toUInt32).toInt32).toInt8.toInt32)), .val (.int (((p1.toUInt32 >>> ((16 : Int32) &&& 31).toUInt32).toInt32).toInt8.toInt32)), .val (.ref b3), .val (.ref r5)] [])) _
      refine XS.aload X5.here hx rfl (hb hby at_72) rfl rfl ?_
      show Steps p.tables e below (T5.setTop (mkF m 74 #[.val (.int p0), .val (.int p1), .val (.int (1 : Int32)), .val (.int (p1.toInt8.toInt32)), .val (.int (((p1.toUInt32 >>> ((8 : Int32) &&& 31).toUInt32).toInt32).toInt8.toInt32)), .val (.int (((p1.toUInt32 >>> ((16 : Int32) &&& 31).toUInt32).toInt32).toInt8.toInt32)), .val (.ref b3), .val (.ref r5)] [(.ref r5)])) _
      refine XS.aload X5.here hx rfl (hb hby at_74) rfl rfl ?_
      show Steps p.tables e below (T5.setTop (mkF m 76 #[.val (.int p0), .val (.int p1), .val (.int (1 : Int32)), .val (.int (p1.toInt8.toInt32)), .val (.int (((p1.toUInt32 >>> ((8 : Int32) &&& 31).toUInt32).toInt32).toInt8.toInt32)), .val (.int (((p1.toUInt32 >>> ((16 : Int32) &&& 31).toUInt32).toInt32).toInt8.toInt32)), .val (.ref b3), .val (.ref r5)] [(.ref b3), (.ref r5)])) _
      refine Jvm.RoadKit.acmp (g := (mkF m 76 #[.val (.int p0), .val (.int p1), .val (.int (1 : Int32)), .val (.int (p1.toInt8.toInt32)), .val (.int (((p1.toUInt32 >>> ((8 : Int32) &&& 31).toUInt32).toInt32).toInt8.toInt32)), .val (.int (((p1.toUInt32 >>> ((16 : Int32) &&& 31).toUInt32).toInt32).toInt8.toInt32)), .val (.ref b3), .val (.ref r5)] [(.ref b3), (.ref r5)])) X5 hx rfl rfl rfl (pc0 := 76) (pc' := 79) (same := false) rfl (hb hby at_76) rfl (decide_eq_false fun q => ne5 (Value.ref.inj q)) (by decide) (by decide) ?_
      show Steps p.tables e below (T5.setTop (mkF m 79 #[.val (.int p0), .val (.int p1), .val (.int (1 : Int32)), .val (.int (p1.toInt8.toInt32)), .val (.int (((p1.toUInt32 >>> ((8 : Int32) &&& 31).toUInt32).toInt32).toInt8.toInt32)), .val (.int (((p1.toUInt32 >>> ((16 : Int32) &&& 31).toUInt32).toInt32).toInt8.toInt32)), .val (.ref b3), .val (.ref r5)] [])) _
      refine XS.aload X5.here hx rfl (hb hby at_79) rfl rfl ?_
      show Steps p.tables e below (T5.setTop (mkF m 81 #[.val (.int p0), .val (.int p1), .val (.int (1 : Int32)), .val (.int (p1.toInt8.toInt32)), .val (.int (((p1.toUInt32 >>> ((8 : Int32) &&& 31).toUInt32).toInt32).toInt8.toInt32)), .val (.int (((p1.toUInt32 >>> ((16 : Int32) &&& 31).toUInt32).toInt32).toInt8.toInt32)), .val (.ref b3), .val (.ref r5)] [(.ref r5)])) _
      refine X5.arraylength hx (by exact Arr7.1) (State.isArrayOf_alike hZ.alike Arr7.2.1) (g := (mkF m 81 #[.val (.int p0), .val (.int p1), .val (.int (1 : Int32)), .val (.int (p1.toInt8.toInt32)), .val (.int (((p1.toUInt32 >>> ((8 : Int32) &&& 31).toUInt32).toInt32).toInt8.toInt32)), .val (.int (((p1.toUInt32 >>> ((16 : Int32) &&& 31).toUInt32).toInt32).toInt8.toInt32)), .val (.ref b3), .val (.ref r5)] [(.ref r5)])) rfl rfl (hb hby at_81) _ ?_
      rw [len_of Sr7 Mr7]
      show Steps p.tables e below (T5.setTop (mkF m 82 #[.val (.int p0), .val (.int p1), .val (.int (1 : Int32)), .val (.int (p1.toInt8.toInt32)), .val (.int (((p1.toUInt32 >>> ((8 : Int32) &&& 31).toUInt32).toInt32).toInt8.toInt32)), .val (.int (((p1.toUInt32 >>> ((16 : Int32) &&& 31).toUInt32).toInt32).toInt8.toInt32)), .val (.ref b3), .val (.ref r5)] [(.int (1 : Int32))])) _
      refine XS.iloadN X5.here hx rfl (hb hby at_82) rfl ?_
      show Steps p.tables e below (T5.setTop (mkF m 83 #[.val (.int p0), .val (.int p1), .val (.int (1 : Int32)), .val (.int (p1.toInt8.toInt32)), .val (.int (((p1.toUInt32 >>> ((8 : Int32) &&& 31).toUInt32).toInt32).toInt8.toInt32)), .val (.int (((p1.toUInt32 >>> ((16 : Int32) &&& 31).toUInt32).toInt32).toInt8.toInt32)), .val (.ref b3), .val (.ref r5)] [(.int (1 : Int32)), (.int (1 : Int32))])) _
      refine XS.icmpYes X5.here hx rfl (pc0 := 83) (pc' := 88) rfl (hb hby at_83) rfl (teq rfl).1 (by decide) (by decide) ?_
      show Steps p.tables e below (T5.setTop (mkF m 88 #[.val (.int p0), .val (.int p1), .val (.int (1 : Int32)), .val (.int (p1.toInt8.toInt32)), .val (.int (((p1.toUInt32 >>> ((8 : Int32) &&& 31).toUInt32).toInt32).toInt8.toInt32)), .val (.int (((p1.toUInt32 >>> ((16 : Int32) &&& 31).toUInt32).toInt32).toInt8.toInt32)), .val (.ref b3), .val (.ref r5)] [])) _
      refine XS.aload X5.here hx rfl (hb hby at_88) rfl rfl ?_
      show Steps p.tables e below (T5.setTop (mkF m 90 #[.val (.int p0), .val (.int p1), .val (.int (1 : Int32)), .val (.int (p1.toInt8.toInt32)), .val (.int (((p1.toUInt32 >>> ((8 : Int32) &&& 31).toUInt32).toInt32).toInt8.toInt32)), .val (.int (((p1.toUInt32 >>> ((16 : Int32) &&& 31).toUInt32).toInt32).toInt8.toInt32)), .val (.ref b3), .val (.ref r5)] [(.ref b3)])) _
      refine XS.iloadN X5.here hx rfl (hb hby at_90) rfl ?_
      show Steps p.tables e below (T5.setTop (mkF m 91 #[.val (.int p0), .val (.int p1), .val (.int (1 : Int32)), .val (.int (p1.toInt8.toInt32)), .val (.int (((p1.toUInt32 >>> ((8 : Int32) &&& 31).toUInt32).toInt32).toInt8.toInt32)), .val (.int (((p1.toUInt32 >>> ((16 : Int32) &&& 31).toUInt32).toInt32).toInt8.toInt32)), .val (.ref b3), .val (.ref r5)] [(.int (1 : Int32)), (.ref b3)])) _
      refine XS.iloadN X5.here hx rfl (hb hby at_91) rfl ?_
      show Steps p.tables e below (T5.setTop (mkF m 92 #[.val (.int p0), .val (.int p1), .val (.int (1 : Int32)), .val (.int (p1.toInt8.toInt32)), .val (.int (((p1.toUInt32 >>> ((8 : Int32) &&& 31).toUInt32).toInt32).toInt8.toInt32)), .val (.int (((p1.toUInt32 >>> ((16 : Int32) &&& 31).toUInt32).toInt32).toInt8.toInt32)), .val (.ref b3), .val (.ref r5)] [(.int (p1.toInt8.toInt32)), (.int (1 : Int32)), (.ref b3)])) _
      refine XS.iload X5.here hx rfl (hb hby at_92) rfl ?_
      show Steps p.tables e below (T5.setTop (mkF m 94 #[.val (.int p0), .val (.int p1), .val (.int (1 : Int32)), .val (.int (p1.toInt8.toInt32)), .val (.int (((p1.toUInt32 >>> ((8 : Int32) &&& 31).toUInt32).toInt32).toInt8.toInt32)), .val (.int (((p1.toUInt32 >>> ((16 : Int32) &&& 31).toUInt32).toInt32).toInt8.toInt32)), .val (.ref b3), .val (.ref r5)] [(.int (((p1.toUInt32 >>> ((8 : Int32) &&& 31).toUInt32).toInt32).toInt8.toInt32)), (.int (p1.toInt8.toInt32)), (.int (1 : Int32)), (.ref b3)])) _
      refine XS.iload X5.here hx rfl (hb hby at_94) rfl ?_
      show Steps p.tables e below (T5.setTop (mkF m 96 #[.val (.int p0), .val (.int p1), .val (.int (1 : Int32)), .val (.int (p1.toInt8.toInt32)), .val (.int (((p1.toUInt32 >>> ((8 : Int32) &&& 31).toUInt32).toInt32).toInt8.toInt32)), .val (.int (((p1.toUInt32 >>> ((16 : Int32) &&& 31).toUInt32).toInt32).toInt8.toInt32)), .val (.ref b3), .val (.ref r5)] [(.int (((p1.toUInt32 >>> ((16 : Int32) &&& 31).toUInt32).toInt32).toInt8.toInt32)), (.int (((p1.toUInt32 >>> ((8 : Int32) &&& 31).toUInt32).toInt32).toInt8.toInt32)), (.int (p1.toInt8.toInt32)), (.int (1 : Int32)), (.ref b3)])) _
      refine XS.iconst X5.here hx rfl (hb hby at_96) ?_
      show Steps p.tables e below (T5.setTop (mkF m 97 #[.val (.int p0), .val (.int p1), .val (.int (1 : Int32)), .val (.int (p1.toInt8.toInt32)), .val (.int (((p1.toUInt32 >>> ((8 : Int32) &&& 31).toUInt32).toInt32).toInt8.toInt32)), .val (.int (((p1.toUInt32 >>> ((16 : Int32) &&& 31).toUInt32).toInt32).toInt8.toInt32)), .val (.ref b3), .val (.ref r5)] [(.int (0 : Int32)), (.int (((p1.toUInt32 >>> ((16 : Int32) &&& 31).toUInt32).toInt32).toInt8.toInt32)), (.int (((p1.toUInt32 >>> ((8 : Int32) &&& 31).toUInt32).toInt32).toInt8.toInt32)), (.int (p1.toInt8.toInt32)), (.int (1 : Int32)), (.ref b3)])) _
      refine st8 _ ?_
      show Steps p.tables e below (T8.setTop (mkF m 100 #[.val (.int p0), .val (.int p1), .val (.int (1 : Int32)), .val (.int (p1.toInt8.toInt32)), .val (.int (((p1.toUInt32 >>> ((8 : Int32) &&& 31).toUInt32).toInt32).toInt8.toInt32)), .val (.int (((p1.toUInt32 >>> ((16 : Int32) &&& 31).toUInt32).toInt32).toInt8.toInt32)), .val (.ref b3), .val (.ref r5)] [(.int (1 : Int32))])) _
      refine XS.ifYes X8.here hx rfl (pc0 := 100) (pc' := 105) rfl (hb hby at_100) rfl ((if0 _ _).trans (feq (by decide)).2) (by decide) (by decide) ?_
      show Steps p.tables e below (T8.setTop (mkF m 105 #[.val (.int p0), .val (.int p1), .val (.int (1 : Int32)), .val (.int (p1.toInt8.toInt32)), .val (.int (((p1.toUInt32 >>> ((8 : Int32) &&& 31).toUInt32).toInt32).toInt8.toInt32)), .val (.int (((p1.toUInt32 >>> ((16 : Int32) &&& 31).toUInt32).toInt32).toInt8.toInt32)), .val (.ref b3), .val (.ref r5)] [])) _
      refine XS.aload X8.here hx rfl (hb hby at_105) rfl rfl ?_
      show Steps p.tables e below (T8.setTop (mkF m 107 #[.val (.int p0), .val (.int p1), .val (.int (1 : Int32)), .val (.int (p1.toInt8.toInt32)), .val (.int (((p1.toUInt32 >>> ((8 : Int32) &&& 31).toUInt32).toInt32).toInt8.toInt32)), .val (.int (((p1.toUInt32 >>> ((16 : Int32) &&& 31).toUInt32).toInt32).toInt8.toInt32)), .val (.ref b3), .val (.ref r5)] [(.ref r5)])) _
      refine XS.iloadN X8.here hx rfl (hb hby at_107) rfl ?_
      show Steps p.tables e below (T8.setTop (mkF m 108 #[.val (.int p0), .val (.int p1), .val (.int (1 : Int32)), .val (.int (p1.toInt8.toInt32)), .val (.int (((p1.toUInt32 >>> ((8 : Int32) &&& 31).toUInt32).toInt32).toInt8.toInt32)), .val (.int (((p1.toUInt32 >>> ((16 : Int32) &&& 31).toUInt32).toInt32).toInt8.toInt32)), .val (.ref b3), .val (.ref r5)] [(.int (1 : Int32)), (.ref r5)])) _
      refine XS.iloadN X8.here hx rfl (hb hby at_108) rfl ?_
      show Steps p.tables e below (T8.setTop (mkF m 109 #[.val (.int p0), .val (.int p1), .val (.int (1 : Int32)), .val (.int (p1.toInt8.toInt32)), .val (.int (((p1.toUInt32 >>> ((8 : Int32) &&& 31).toUInt32).toInt32).toInt8.toInt32)), .val (.int (((p1.toUInt32 >>> ((16 : Int32) &&& 31).toUInt32).toInt32).toInt8.toInt32)), .val (.ref b3), .val (.ref r5)] [(.int (p1.toInt8.toInt32)), (.int (1 : Int32)), (.ref r5)])) _
      refine XS.iload X8.here hx rfl (hb hby at_109) rfl ?_
      show Steps p.tables e below (T8.setTop (mkF m 111 #[.val (.int p0), .val (.int p1), .val (.int (1 : Int32)), .val (.int (p1.toInt8.toInt32)), .val (.int (((p1.toUInt32 >>> ((8 : Int32) &&& 31).toUInt32).toInt32).toInt8.toInt32)), .val (.int (((p1.toUInt32 >>> ((16 : Int32) &&& 31).toUInt32).toInt32).toInt8.toInt32)), .val (.ref b3), .val (.ref r5)] [(.int (((p1.toUInt32 >>> ((8 : Int32) &&& 31).toUInt32).toInt32).toInt8.toInt32)), (.int (p1.toInt8.toInt32)), (.int (1 : Int32)), (.ref r5)])) _
      refine XS.iload X8.here hx rfl (hb hby at_111) rfl ?_
      show Steps p.tables e below (T8.setTop (mkF m 113 #[.val (.int p0), .val (.int p1), .val (.int (1 : Int32)), .val (.int (p1.toInt8.toInt32)), .val (.int (((p1.toUInt32 >>> ((8 : Int32) &&& 31).toUInt32).toInt32).toInt8.toInt32)), .val (.int (((p1.toUInt32 >>> ((16 : Int32) &&& 31).toUInt32).toInt32).toInt8.toInt32)), .val (.ref b3), .val (.ref r5)] [(.int (((p1.toUInt32 >>> ((16 : Int32) &&& 31).toUInt32).toInt32).toInt8.toInt32)), (.int (((p1.toUInt32 >>> ((8 : Int32) &&& 31).toUInt32).toInt32).toInt8.toInt32)), (.int (p1.toInt8.toInt32)), (.int (1 : Int32)), (.ref r5)])) _
      refine XS.iconst X8.here hx rfl (hb hby at_113) ?_
      show Steps p.tables e below (T8.setTop (mkF m 114 #[.val (.int p0), .val (.int p1), .val (.int (1 : Int32)), .val (.int (p1.toInt8.toInt32)), .val (.int (((p1.toUInt32 >>> ((8 : Int32) &&& 31).toUInt32).toInt32).toInt8.toInt32)), .val (.int (((p1.toUInt32 >>> ((16 : Int32) &&& 31).toUInt32).toInt32).toInt8.toInt32)), .val (.ref b3), .val (.ref r5)] [(.int (1 : Int32)), (.int (((p1.toUInt32 >>> ((16 : Int32) &&& 31).toUInt32).toInt32).toInt8.toInt32)), (.int (((p1.toUInt32 >>> ((8 : Int32) &&& 31).toUInt32).toInt32).toInt8.toInt32)), (.int (p1.toInt8.toInt32)), (.int (1 : Int32)), (.ref r5)])) _
      refine st11 _ ?_
      show Steps p.tables e below (T11.setTop (mkF m 117 #[.val (.int p0), .val (.int p1), .val (.int (1 : Int32)), .val (.int (p1.toInt8.toInt32)), .val (.int (((p1.toUInt32 >>> ((8 : Int32) &&& 31).toUInt32).toInt32).toInt8.toInt32)), .val (.int (((p1.toUInt32 >>> ((16 : Int32) &&& 31).toUInt32).toInt32).toInt8.toInt32)), .val (.ref b3), .val (.ref r5)] [(.int (1 : Int32))])) _
      exact q)
    obtain ⟨fs, hr, hrun, hended, hW, hsame⟩ := X11.leave (v := some (.int (1 : Int32))) (fun h => by rw [Bd.returns] at h; cases h)
    refine ⟨_, _, k0 _ (k12 _ ?_), hrun, hended, _, _, rfl, ?_, ⟨_, rfl⟩, hW, hsame.mono (by decide) (by decide)⟩
    · show Steps p.tables e below (T11.setTop (mkF m 117 #[.val (.int p0), .val (.int p1), .val (.int (1 : Int32)), .val (.int (p1.toInt8.toInt32)), .val (.int (((p1.toUInt32 >>> ((8 : Int32) &&& 31).toUInt32).toInt32).toInt8.toInt32)), .val (.int (((p1.toUInt32 >>> ((16 : Int32) &&& 31).toUInt32).toInt32).toInt8.toInt32)), .val (.ref b3), .val (.ref r5)] [(.int (1 : Int32))])) _
      exact retN X11 hx (t := .boolean) Bd.returns (by simp) (hb hby at_117) hr
    · show Q0 Z p0 p1 h0 n0 _ T11.heap _
      rw [e11]
      exact ⟨rfl, N11⟩
  ·
    have k13 : own_To p e below s₁ (mkF m 6 #[.val (.int p0), .val (.int p1), .val (.int (2 : Int32)), .unset, .unset, .unset, .unset, .unset] []) s₁ (mkF m 0 #[.val (.int p0), .val (.int p1), .unset, .unset, .unset, .unset, .unset, .unset] []) := by rw [hn] at k1; exact k1
    obtain ⟨T14, h14, kk14, X14, e14, E14, A14, EA14, st14⟩ := newPE X0 hx hZ (hw _ (List.mem_of_getElem? (i := 0) rfl)) e0 (g := (mkF m 24 #[.val (.int p0), .val (.int p1), .val (.int (2 : Int32)), .val (.int (p1.toInt8.toInt32)), .val (.int (((p1.toUInt32 >>> ((8 : Int32) &&& 31).toUInt32).toInt32).toInt8.toInt32)), .val (.int (((p1.toUInt32 >>> ((16 : Int32) &&& 31).toUInt32).toInt32).toInt8.toInt32)), .unset, .unset] [(.int (2 : Int32))])) rfl (hb hby at_24) rfl (by decide) (cap := 2) (by decide) (by decide) (by decide) (by decide) (ad := "[B") rfl
    obtain ⟨b14, g14⟩ : ∃ z, z = h0.size := ⟨_, rfl⟩
    rw [← g14] at A14 EA14 st14
    have ge_b14 : n0 ≤ b14 := Nat.le_trans Z0 (Nat.le_of_eq g14.symm)
    have K15 : Keep h0 h0 [] := (Keep.refl h0 [])
    have sz_b14 : h0.size ≤ b14 := Nat.le_trans K15.1 (Nat.le_of_eq g14.symm)
    have V14 : Arv Z h14 b14 kk14 .byte (2 : Int32) [(.int (0 : Int32)), (.int (0 : Int32))] (.int (0 : Int32)) := (Arv.new A14 (by decide)).pad (pad_rep [] (.int (0 : Int32)) 2)
    obtain ⟨clr16, Arr16, qr16, Sr16, Mr16, Hhr16, Gr16⟩ := id V14
    have hinr16 : ¬ ((0 : Int32) < 0 ∨ clr16.slots.size ≤ ((0 : Int32)).toNatClampNeg) := inb_of Sr16 ⟨by decide, by decide⟩
    obtain ⟨T17, h17, X17, e17, W17, st17⟩ := stB X14 hx hZ e14 Arr16 (j := (0 : Int32)) hinr16 (g := (mkF m 37 #[.val (.int p0), .val (.int p1), .val (.int (2 : Int32)), .val (.int (p1.toInt8.toInt32)), .val (.int (((p1.toUInt32 >>> ((8 : Int32) &&& 31).toUInt32).toInt32).toInt8.toInt32)), .val (.int (((p1.toUInt32 >>> ((16 : Int32) &&& 31).toUInt32).toInt32).toInt8.toInt32)), .val (.ref b14), .unset] [(.int (p1.toInt8.toInt32)), (.int (0 : Int32)), (.ref b14)])) rfl rfl (hb hby at_37)
    have N17 := Fr.snoc X17 N0 ge_b14
    have V17 : Arv Z h17 b14 kk14 .byte (2 : Int32) [(.int (p1.toInt8.toInt32)), (.int (0 : Int32))] (.int (0 : Int32)) := by
      have q := Arv.set Arr16 qr16 Sr16 Mr16 Hhr16 Gr16 (fits_nar_byte _) W17 0 rfl (Nat.le_of_ble_eq_true rfl)
      rw [own_nar] at q; exact q
    have K19 : Keep h0 h17 [] := ((K15.ext E14).wr W17 (Or.inr sz_b14))
    have F20 := (EA14.wr W17)
    obtain ⟨_, _, ⟨T18, L18, kk18, n18⟩, -, X18, ⟨Lc18, hQ18, l18, y18, z18⟩, st18⟩ := Jvm.LawKit.callS X17 hx (y := (⟨"com/example/feeddb/feeddb/core/Keys", "pastNamePrefix", "([B)[B"⟩ : MethodName)) hown (mvT hZ (hw _ (List.mem_of_getElem? (i := 1) rfl))) (mvT hZ (hw _ (List.mem_of_getElem? (i := 2) rfl))) (mvT hZ (hw _ (List.mem_of_getElem? (i := 3) rfl))) (mvT hZ (hw _ (List.mem_of_getElem? (i := 4) rfl))) (by decide) (backOf (W := 0) (rm1 l Z a0 hw [] b14 kk14 (2 : Int32) [(.int (p1.toInt8.toInt32)), (.int (0 : Int32))] h17 n0 (Nat.le_trans Z0 K19.1) V17 F20 (by decide) (by decide) (Nat.le_of_ble_eq_true rfl)) hZ (hw _ (List.mem_of_getElem? (i := 4) rfl)) (hw _ (List.mem_of_getElem? (i := 3) rfl)) (by decide) (by decide)) (g := (mkF m 62 #[.val (.int p0), .val (.int p1), .val (.int (2 : Int32)), .val (.int (p1.toInt8.toInt32)), .val (.int (((p1.toUInt32 >>> ((8 : Int32) &&& 31).toUInt32).toInt32).toInt8.toInt32)), .val (.int (((p1.toUInt32 >>> ((16 : Int32) &&& 31).toUInt32).toInt32).toInt8.toInt32)), .val (.ref b14), .unset] [(.ref b14)])) rfl (by rw [hml]; rfl) (argsL := [(.ref b14)]) (rest := []) (lenOf own_pd1 rfl) rfl (by show 2 * 0 + _ ≤ _; exact Nat.le_of_eq rfl) (hb hby at_62) (fun _ _ => ⟨rfl, e17, (by decide : 1 + 1 ≤ _), (by decide : 2 + 4 ≤ _)⟩)
    dsimp only [Pt.U, Pt.locs, Pt.cells, Pt.slots] at X18 l18 y18 z18 st18 hQ18
    subst l18 y18 z18
    obtain ⟨r18, rfl, N18q, K18, ne18, ge_r18, V18⟩ := hQ18
    have N18 := Fr.app N17 N18q
    have W18 : Arv Z T18.heap r18 kk14 .byte (2 : Int32) [(.int (p1.toInt8.toInt32)), (.int (1 : Int32))] (.int (0 : Int32)) := V18
    obtain ⟨clr21, Arr21, qr21, Sr21, Mr21, Hhr21, Gr21⟩ := id W18
    have K23 : Keep h0 T18.heap [] := (K19.trans K18 all0)
    have F24 := (V17.keep K18 nin0)
    obtain ⟨_, _, ⟨T22, L22, kk22, n22⟩, -, X22, ⟨Lc22, hQ22, l22, y22, z22⟩, st22⟩ := Jvm.LawKit.callS X18 hx (y := (⟨"com/example/feeddb/feeddb/core/KeysPastNamePrefixPinLaw", "same", "([BIBBBB)Z"⟩ : MethodName)) hown (mvT hZ (hw _ (List.mem_of_getElem? (i := 14) rfl))) (mvT hZ (hw _ (List.mem_of_getElem? (i := 15) rfl))) (mvT hZ (hw _ (List.mem_of_getElem? (i := 16) rfl))) (mvT hZ (hw _ (List.mem_of_getElem? (i := 17) rfl))) (by decide) (backOf (W := 0) (rmsame2 l Z a0 hw [] b14 (p1.toInt8.toInt32) (((p1.toUInt32 >>> ((8 : Int32) &&& 31).toUInt32).toInt32).toInt8.toInt32) (((p1.toUInt32 >>> ((16 : Int32) &&& 31).toUInt32).toInt32).toInt8.toInt32) (0 : Int32) kk14 T18.heap n0 (Nat.le_trans Z0 K23.1) F24) hZ (hw _ (List.mem_of_getElem? (i := 17) rfl)) (hw _ (List.mem_of_getElem? (i := 16) rfl)) (by decide) (by decide)) (g := (mkF m 97 #[.val (.int p0), .val (.int p1), .val (.int (2 : Int32)), .val (.int (p1.toInt8.toInt32)), .val (.int (((p1.toUInt32 >>> ((8 : Int32) &&& 31).toUInt32).toInt32).toInt8.toInt32)), .val (.int (((p1.toUInt32 >>> ((16 : Int32) &&& 31).toUInt32).toInt32).toInt8.toInt32)), .val (.ref b14), .val (.ref r18)] [(.int (0 : Int32)), (.int (((p1.toUInt32 >>> ((16 : Int32) &&& 31).toUInt32).toInt32).toInt8.toInt32)), (.int (((p1.toUInt32 >>> ((8 : Int32) &&& 31).toUInt32).toInt32).toInt8.toInt32)), (.int (p1.toInt8.toInt32)), (.int (2 : Int32)), (.ref b14)])) rfl (by rw [hml]; rfl) (argsL := [(.ref b14), (.int (2 : Int32)), (.int (p1.toInt8.toInt32)), (.int (((p1.toUInt32 >>> ((8 : Int32) &&& 31).toUInt32).toInt32).toInt8.toInt32)), (.int (((p1.toUInt32 >>> ((16 : Int32) &&& 31).toUInt32).toInt32).toInt8.toInt32)), (.int (0 : Int32))]) (rest := []) (lenOf own_pd2 rfl) rfl (by show 2 * 0 + _ ≤ _; exact Nat.le_of_eq rfl) (hb hby at_97) (fun _ _ => ⟨rfl, rfl, (by decide : 2 + 0 ≤ _), (by decide : 6 + 0 ≤ _)⟩)
    dsimp only [Pt.U, Pt.locs, Pt.cells, Pt.slots] at X22 l22 y22 z22 st22 hQ22
    subst l22 y22 z22
    obtain ⟨rfl, N22q, e22⟩ := hQ22
    have N22 := Fr.app N18 N22q
    obtain ⟨_, _, ⟨T25, L25, kk25, n25⟩, -, X25, ⟨Lc25, hQ25, l25, y25, z25⟩, st25⟩ := Jvm.LawKit.callS X22 hx (y := (⟨"com/example/feeddb/feeddb/core/KeysPastNamePrefixPinLaw", "same", "([BIBBBB)Z"⟩ : MethodName)) hown (mvT hZ (hw _ (List.mem_of_getElem? (i := 14) rfl))) (mvT hZ (hw _ (List.mem_of_getElem? (i := 15) rfl))) (mvT hZ (hw _ (List.mem_of_getElem? (i := 16) rfl))) (mvT hZ (hw _ (List.mem_of_getElem? (i := 17) rfl))) (by decide) (backOf (W := 0) (rmsame2 l Z a0 hw [] r18 (p1.toInt8.toInt32) (((p1.toUInt32 >>> ((8 : Int32) &&& 31).toUInt32).toInt32).toInt8.toInt32) (((p1.toUInt32 >>> ((16 : Int32) &&& 31).toUInt32).toInt32).toInt8.toInt32) (1 : Int32) kk14 T18.heap n0 (Nat.le_trans Z0 K23.1) W18) hZ (hw _ (List.mem_of_getElem? (i := 17) rfl)) (hw _ (List.mem_of_getElem? (i := 16) rfl)) (by decide) (by decide)) (g := (mkF m 114 #[.val (.int p0), .val (.int p1), .val (.int (2 : Int32)), .val (.int (p1.toInt8.toInt32)), .val (.int (((p1.toUInt32 >>> ((8 : Int32) &&& 31).toUInt32).toInt32).toInt8.toInt32)), .val (.int (((p1.toUInt32 >>> ((16 : Int32) &&& 31).toUInt32).toInt32).toInt8.toInt32)), .val (.ref b14), .val (.ref r18)] [(.int (1 : Int32)), (.int (((p1.toUInt32 >>> ((16 : Int32) &&& 31).toUInt32).toInt32).toInt8.toInt32)), (.int (((p1.toUInt32 >>> ((8 : Int32) &&& 31).toUInt32).toInt32).toInt8.toInt32)), (.int (p1.toInt8.toInt32)), (.int (2 : Int32)), (.ref r18)])) rfl (by rw [hml]; rfl) (argsL := [(.ref r18), (.int (2 : Int32)), (.int (p1.toInt8.toInt32)), (.int (((p1.toUInt32 >>> ((8 : Int32) &&& 31).toUInt32).toInt32).toInt8.toInt32)), (.int (((p1.toUInt32 >>> ((16 : Int32) &&& 31).toUInt32).toInt32).toInt8.toInt32)), (.int (1 : Int32))]) (rest := []) (lenOf own_pd2 rfl) rfl (by show 2 * 0 + _ ≤ _; exact Nat.le_of_eq rfl) (hb hby at_114) (fun _ _ => ⟨rfl, e22, (by decide : 2 + 0 ≤ _), (by decide : 6 + 0 ≤ _)⟩)
    dsimp only [Pt.U, Pt.locs, Pt.cells, Pt.slots] at X25 l25 y25 z25 st25 hQ25
    subst l25 y25 z25
    obtain ⟨rfl, N25q, e25⟩ := hQ25
    have N25 := Fr.app N22 N25q
    have k26 : own_To p e below T25 (mkF m 117 #[.val (.int p0), .val (.int p1), .val (.int (2 : Int32)), .val (.int (p1.toInt8.toInt32)), .val (.int (((p1.toUInt32 >>> ((8 : Int32) &&& 31).toUInt32).toInt32).toInt8.toInt32)), .val (.int (((p1.toUInt32 >>> ((16 : Int32) &&& 31).toUInt32).toInt32).toInt8.toInt32)), .val (.ref b14), .val (.ref r18)] [(.int (1 : Int32))]) s₁ (mkF m 0 #[.val (.int p0), .val (.int p1), .unset, .unset, .unset, .unset, .unset, .unset] []) := fun t q => k13 t (by
      refine XS.iloadN X0.here hx rfl (hb hby at_6) rfl ?_
      show Steps p.tables e below (s₁.setTop (mkF m 7 #[.val (.int p0), .val (.int p1), .val (.int (2 : Int32)), .unset, .unset, .unset, .unset, .unset] [(.int p1)])) _
      refine XS.i2b X0.here hx rfl (hb hby at_7) rfl ?_
      show Steps p.tables e below (s₁.setTop (mkF m 8 #[.val (.int p0), .val (.int p1), .val (.int (2 : Int32)), .unset, .unset, .unset, .unset, .unset] [(.int (p1.toInt8.toInt32))])) _
      refine XS.istoreN X0.here hx rfl (hb hby at_8) rfl (l' := #[.val (.int p0), .val (.int p1), .val (.int (2 : Int32)), .val (.int (p1.toInt8.toInt32)), .unset, .unset, .unset, .unset]) rfl ?_
      show Steps p.tables e below (s₁.setTop (mkF m 9 #[.val (.int p0), .val (.int p1), .val (.int (2 : Int32)), .val (.int (p1.toInt8.toInt32)), .unset, .unset, .unset, .unset] [])) _
      refine XS.iloadN X0.here hx rfl (hb hby at_9) rfl ?_
      show Steps p.tables e below (s₁.setTop (mkF m 10 #[.val (.int p0), .val (.int p1), .val (.int (2 : Int32)), .val (.int (p1.toInt8.toInt32)), .unset, .unset, .unset, .unset] [(.int p1)])) _
      refine XS.bipush X0.here hx rfl (hb hby at_10) ?_
      show Steps p.tables e below (s₁.setTop (mkF m 12 #[.val (.int p0), .val (.int p1), .val (.int (2 : Int32)), .val (.int (p1.toInt8.toInt32)), .unset, .unset, .unset, .unset] [(.int (8 : Int32)), (.int p1)])) _
      refine XS.iushr X0.here hx rfl (hb hby at_12) rfl ?_
      show Steps p.tables e below (s₁.setTop (mkF m 13 #[.val (.int p0), .val (.int p1), .val (.int (2 : Int32)), .val (.int (p1.toInt8.toInt32)), .unset, .unset, .unset, .unset] [(.int ((p1.toUInt32 >>> ((8 : Int32) &&& 31).toUInt32).toInt32))])) _
      refine XS.i2b X0.here hx rfl (hb hby at_13) rfl ?_
      show Steps p.tables e below (s₁.setTop (mkF m 14 #[.val (.int p0), .val (.int p1), .val (.int (2 : Int32)), .val (.int (p1.toInt8.toInt32)), .unset, .unset, .unset, .unset] [(.int (((p1.toUInt32 >>> ((8 : Int32) &&& 31).toUInt32).toInt32).toInt8.toInt32))])) _
      refine XS.istore X0.here hx rfl (hb hby at_14) rfl (l' := #[.val (.int p0), .val (.int p1), .val (.int (2 : Int32)), .val (.int (p1.toInt8.toInt32)), .val (.int (((p1.toUInt32 >>> ((8 : Int32) &&& 31).toUInt32).toInt32).toInt8.toInt32)), .unset, .unset, .unset]) rfl ?_
      show Steps p.tables e below (s₁.setTop (mkF m 16 #[.val (.int p0), .val (.int p1), .val (.int (2 : Int32)), .val (.int (p1.toInt8.toInt32)), .val (.int (((p1.toUInt32 >>> ((8 : Int32) &&& 31).toUInt32).toInt32).toInt8.toInt32)), .unset, .unset, .unset] [])) _
      refine XS.iloadN X0.here hx rfl (hb hby at_16) rfl ?_
      show Steps p.tables e below (s₁.setTop (mkF m 17 #[.val (.int p0), .val (.int p1), .val (.int (2 : Int32)), .val (.int (p1.toInt8.toInt32)), .val (.int (((p1.toUInt32 >>> ((8 : Int32) &&& 31).toUInt32).toInt32).toInt8.toInt32)), .unset, .unset, .unset] [(.int p1)])) _
      refine XS.bipush X0.here hx rfl (hb hby at_17) ?_
      show Steps p.tables e below (s₁.setTop (mkF m 19 #[.val (.int p0), .val (.int p1), .val (.int (2 : Int32)), .val (.int (p1.toInt8.toInt32)), .val (.int (((p1.toUInt32 >>> ((8 : Int32) &&& 31).toUInt32).toInt32).toInt8.toInt32)), .unset, .unset, .unset] [(.int (16 : Int32)), (.int p1)])) _
      refine XS.iushr X0.here hx rfl (hb hby at_19) rfl ?_
      show Steps p.tables e below (s₁.setTop (mkF m 20 #[.val (.int p0), .val (.int p1), .val (.int (2 : Int32)), .val (.int (p1.toInt8.toInt32)), .val (.int (((p1.toUInt32 >>> ((8 : Int32) &&& 31).toUInt32).toInt32).toInt8.toInt32)), .unset, .unset, .unset] [(.int ((p1.toUInt32 >>> ((16 : Int32) &&& 31).toUInt32).toInt32))])) _
      refine XS.i2b X0.here hx rfl (hb hby at_20) rfl ?_
      show Steps p.tables e below (s₁.setTop (mkF m 21 #[.val (.int p0), .val (.int p1), .val (.int (2 : Int32)), .val (.int (p1.toInt8.toInt32)), .val (.int (((p1.toUInt32 >>> ((8 : Int32) &&& 31).toUInt32).toInt32).toInt8.toInt32)), .unset, .unset, .unset] [(.int (((p1.toUInt32 >>> ((16 : Int32) &&& 31).toUInt32).toInt32).toInt8.toInt32))])) _
      refine XS.istore X0.here hx rfl (hb hby at_21) rfl (l' := #[.val (.int p0), .val (.int p1), .val (.int (2 : Int32)), .val (.int (p1.toInt8.toInt32)), .val (.int (((p1.toUInt32 >>> ((8 : Int32) &&& 31).toUInt32).toInt32).toInt8.toInt32)), .val (.int (((p1.toUInt32 >>> ((16 : Int32) &&& 31).toUInt32).toInt32).toInt8.toInt32)), .unset, .unset]) rfl ?_
      show Steps p.tables e below (s₁.setTop (mkF m 23 #[.val (.int p0), .val (.int p1), .val (.int (2 : Int32)), .val (.int (p1.toInt8.toInt32)), .val (.int (((p1.toUInt32 >>> ((8 : Int32) &&& 31).toUInt32).toInt32).toInt8.toInt32)), .val (.int (((p1.toUInt32 >>> ((16 : Int32) &&& 31).toUInt32).toInt32).toInt8.toInt32)), .unset, .unset] [])) _
      refine XS.iloadN X0.here hx rfl (hb hby at_23) rfl ?_
      show Steps p.tables e below (s₁.setTop (mkF m 24 #[.val (.int p0), .val (.int p1), .val (.int (2 : Int32)), .val (.int (p1.toInt8.toInt32)), .val (.int (((p1.toUInt32 >>> ((8 : Int32) &&& 31).toUInt32).toInt32).toInt8.toInt32)), .val (.int (((p1.toUInt32 >>> ((16 : Int32) &&& 31).toUInt32).toInt32).toInt8.toInt32)), .unset, .unset] [(.int (2 : Int32))])) _
      refine st14 _ ?_
      show Steps p.tables e below (T14.setTop (mkF m 26 #[.val (.int p0), .val (.int p1), .val (.int (2 : Int32)), .val (.int (p1.toInt8.toInt32)), .val (.int (((p1.toUInt32 >>> ((8 : Int32) &&& 31).toUInt32).toInt32).toInt8.toInt32)), .val (.int (((p1.toUInt32 >>> ((16 : Int32) &&& 31).toUInt32).toInt32).toInt8.toInt32)), .unset, .unset] [(.ref b14)])) _
      refine XS.astore X14.here hx rfl (hb hby at_26) rfl rfl (l' := #[.val (.int p0), .val (.int p1), .val (.int (2 : Int32)), .val (.int (p1.toInt8.toInt32)), .val (.int (((p1.toUInt32 >>> ((8 : Int32) &&& 31).toUInt32).toInt32).toInt8.toInt32)), .val (.int (((p1.toUInt32 >>> ((16 : Int32) &&& 31).toUInt32).toInt32).toInt8.toInt32)), .val (.ref b14), .unset]) rfl ?_
      show Steps p.tables e below (T14.setTop (mkF m 28 #[.val (.int p0), .val (.int p1), .val (.int (2 : Int32)), .val (.int (p1.toInt8.toInt32)), .val (.int (((p1.toUInt32 >>> ((8 : Int32) &&& 31).toUInt32).toInt32).toInt8.toInt32)), .val (.int (((p1.toUInt32 >>> ((16 : Int32) &&& 31).toUInt32).toInt32).toInt8.toInt32)), .val (.ref b14), .unset] [])) _
      refine XS.iloadN X14.here hx rfl (hb hby at_28) rfl ?_
      show Steps p.tables e below (T14.setTop (mkF m 29 #[.val (.int p0), .val (.int p1), .val (.int (2 : Int32)), .val (.int (p1.toInt8.toInt32)), .val (.int (((p1.toUInt32 >>> ((8 : Int32) &&& 31).toUInt32).toInt32).toInt8.toInt32)), .val (.int (((p1.toUInt32 >>> ((16 : Int32) &&& 31).toUInt32).toInt32).toInt8.toInt32)), .val (.ref b14), .unset] [(.int (2 : Int32))])) _
      refine XS.iconst X14.here hx rfl (hb hby at_29) ?_
      show Steps p.tables e below (T14.setTop (mkF m 30 #[.val (.int p0), .val (.int p1), .val (.int (2 : Int32)), .val (.int (p1.toInt8.toInt32)), .val (.int (((p1.toUInt32 >>> ((8 : Int32) &&& 31).toUInt32).toInt32).toInt8.toInt32)), .val (.int (((p1.toUInt32 >>> ((16 : Int32) &&& 31).toUInt32).toInt32).toInt8.toInt32)), .val (.ref b14), .unset] [(.int (1 : Int32)), (.int (2 : Int32))])) _
      refine XS.icmpNo X14.here hx rfl (hb hby at_30) rfl (tlt (by decide)).2.2.2 ?_
      show Steps p.tables e below (T14.setTop (mkF m 33 #[.val (.int p0), .val (.int p1), .val (.int (2 : Int32)), .val (.int (p1.toInt8.toInt32)), .val (.int (((p1.toUInt32 >>> ((8 : Int32) &&& 31).toUInt32).toInt32).toInt8.toInt32)), .val (.int (((p1.toUInt32 >>> ((16 : Int32) &&& 31).toUInt32).toInt32).toInt8.toInt32)), .val (.ref b14), .unset] [])) _
      refine XS.aload X14.here hx rfl (hb hby at_33) rfl rfl ?_
      show Steps p.tables e below (T14.setTop (mkF m 35 #[.val (.int p0), .val (.int p1), .val (.int (2 : Int32)), .val (.int (p1.toInt8.toInt32)), .val (.int (((p1.toUInt32 >>> ((8 : Int32) &&& 31).toUInt32).toInt32).toInt8.toInt32)), .val (.int (((p1.toUInt32 >>> ((16 : Int32) &&& 31).toUInt32).toInt32).toInt8.toInt32)), .val (.ref b14), .unset] [(.ref b14)])) _
      refine XS.iconst X14.here hx rfl (hb hby at_35) ?_
      show Steps p.tables e below (T14.setTop (mkF m 36 #[.val (.int p0), .val (.int p1), .val (.int (2 : Int32)), .val (.int (p1.toInt8.toInt32)), .val (.int (((p1.toUInt32 >>> ((8 : Int32) &&& 31).toUInt32).toInt32).toInt8.toInt32)), .val (.int (((p1.toUInt32 >>> ((16 : Int32) &&& 31).toUInt32).toInt32).toInt8.toInt32)), .val (.ref b14), .unset] [(.int (0 : Int32)), (.ref b14)])) _
      refine XS.iloadN X14.here hx rfl (hb hby at_36) rfl ?_
      show Steps p.tables e below (T14.setTop (mkF m 37 #[.val (.int p0), .val (.int p1), .val (.int (2 : Int32)), .val (.int (p1.toInt8.toInt32)), .val (.int (((p1.toUInt32 >>> ((8 : Int32) &&& 31).toUInt32).toInt32).toInt8.toInt32)), .val (.int (((p1.toUInt32 >>> ((16 : Int32) &&& 31).toUInt32).toInt32).toInt8.toInt32)), .val (.ref b14), .unset] [(.int (p1.toInt8.toInt32)), (.int (0 : Int32)), (.ref b14)])) _
      refine st17 _ ?_
      show Steps p.tables e below (T17.setTop (mkF m 38 #[.val (.int p0), .val (.int p1), .val (.int (2 : Int32)), .val (.int (p1.toInt8.toInt32)), .val (.int (((p1.toUInt32 >>> ((8 : Int32) &&& 31).toUInt32).toInt32).toInt8.toInt32)), .val (.int (((p1.toUInt32 >>> ((16 : Int32) &&& 31).toUInt32).toInt32).toInt8.toInt32)), .val (.ref b14), .unset] [])) _
      refine XS.iloadN X17.here hx rfl (hb hby at_38) rfl ?_
      show Steps p.tables e below (T17.setTop (mkF m 39 #[.val (.int p0), .val (.int p1), .val (.int (2 : Int32)), .val (.int (p1.toInt8.toInt32)), .val (.int (((p1.toUInt32 >>> ((8 : Int32) &&& 31).toUInt32).toInt32).toInt8.toInt32)), .val (.int (((p1.toUInt32 >>> ((16 : Int32) &&& 31).toUInt32).toInt32).toInt8.toInt32)), .val (.ref b14), .unset] [(.int (2 : Int32))])) _
      refine XS.iconst X17.here hx rfl (hb hby at_39) ?_
      show Steps p.tables e below (T17.setTop (mkF m 40 #[.val (.int p0), .val (.int p1), .val (.int (2 : Int32)), .val (.int (p1.toInt8.toInt32)), .val (.int (((p1.toUInt32 >>> ((8 : Int32) &&& 31).toUInt32).toInt32).toInt8.toInt32)), .val (.int (((p1.toUInt32 >>> ((16 : Int32) &&& 31).toUInt32).toInt32).toInt8.toInt32)), .val (.ref b14), .unset] [(.int (2 : Int32)), (.int (2 : Int32))])) _
      refine XS.icmpYes X17.here hx rfl (pc0 := 40) (pc' := 49) rfl (hb hby at_40) rfl (flt (by decide)).2.2.2 (by decide) (by decide) ?_
      show Steps p.tables e below (T17.setTop (mkF m 49 #[.val (.int p0), .val (.int p1), .val (.int (2 : Int32)), .val (.int (p1.toInt8.toInt32)), .val (.int (((p1.toUInt32 >>> ((8 : Int32) &&& 31).toUInt32).toInt32).toInt8.toInt32)), .val (.int (((p1.toUInt32 >>> ((16 : Int32) &&& 31).toUInt32).toInt32).toInt8.toInt32)), .val (.ref b14), .unset] [])) _
      refine XS.iloadN X17.here hx rfl (hb hby at_49) rfl ?_
      show Steps p.tables e below (T17.setTop (mkF m 50 #[.val (.int p0), .val (.int p1), .val (.int (2 : Int32)), .val (.int (p1.toInt8.toInt32)), .val (.int (((p1.toUInt32 >>> ((8 : Int32) &&& 31).toUInt32).toInt32).toInt8.toInt32)), .val (.int (((p1.toUInt32 >>> ((16 : Int32) &&& 31).toUInt32).toInt32).toInt8.toInt32)), .val (.ref b14), .unset] [(.int (2 : Int32))])) _
      refine XS.iconst X17.here hx rfl (hb hby at_50) ?_
      show Steps p.tables e below (T17.setTop (mkF m 51 #[.val (.int p0), .val (.int p1), .val (.int (2 : Int32)), .val (.int (p1.toInt8.toInt32)), .val (.int (((p1.toUInt32 >>> ((8 : Int32) &&& 31).toUInt32).toInt32).toInt8.toInt32)), .val (.int (((p1.toUInt32 >>> ((16 : Int32) &&& 31).toUInt32).toInt32).toInt8.toInt32)), .val (.ref b14), .unset] [(.int (3 : Int32)), (.int (2 : Int32))])) _
      refine XS.icmpYes X17.here hx rfl (pc0 := 51) (pc' := 60) rfl (hb hby at_51) rfl (flt (by decide)).2.2.2 (by decide) (by decide) ?_
      show Steps p.tables e below (T17.setTop (mkF m 60 #[.val (.int p0), .val (.int p1), .val (.int (2 : Int32)), .val (.int (p1.toInt8.toInt32)), .val (.int (((p1.toUInt32 >>> ((8 : Int32) &&& 31).toUInt32).toInt32).toInt8.toInt32)), .val (.int (((p1.toUInt32 >>> ((16 : Int32) &&& 31).toUInt32).toInt32).toInt8.toInt32)), .val (.ref b14), .unset] [])) _
      refine XS.aload X17.here hx rfl (hb hby at_60) rfl rfl ?_
      show Steps p.tables e below (T17.setTop (mkF m 62 #[.val (.int p0), .val (.int p1), .val (.int (2 : Int32)), .val (.int (p1.toInt8.toInt32)), .val (.int (((p1.toUInt32 >>> ((8 : Int32) &&& 31).toUInt32).toInt32).toInt8.toInt32)), .val (.int (((p1.toUInt32 >>> ((16 : Int32) &&& 31).toUInt32).toInt32).toInt8.toInt32)), .val (.ref b14), .unset] [(.ref b14)])) _
      refine st18 _ ?_
      show Steps p.tables e below (T18.setTop (mkF m 65 #[.val (.int p0), .val (.int p1), .val (.int (2 : Int32)), .val (.int (p1.toInt8.toInt32)), .val (.int (((p1.toUInt32 >>> ((8 : Int32) &&& 31).toUInt32).toInt32).toInt8.toInt32)), .val (.int (((p1.toUInt32 >>> ((16 : Int32) &&& 31).toUInt32).toInt32).toInt8.toInt32)), .val (.ref b14), .unset] [(.ref r18)])) _
      refine XS.astore X18.here hx rfl (hb hby at_65) rfl rfl (l' := #[.val (.int p0), .val (.int p1), .val (.int (2 : Int32)), .val (.int (p1.toInt8.toInt32)), .val (.int (((p1.toUInt32 >>> ((8 : Int32) &&& 31).toUInt32).toInt32).toInt8.toInt32)), .val (.int (((p1.toUInt32 >>> ((16 : Int32) &&& 31).toUInt32).toInt32).toInt8.toInt32)), .val (.ref b14), .val (.ref r18)]) rfl ?_
      show Steps p.tables e below (T18.setTop (mkF m 67 #[.val (.int p0), .val (.int p1), .val (.int (2 : Int32)), .val (.int (p1.toInt8.toInt32)), .val (.int (((p1.toUInt32 >>> ((8 : Int32) &&& 31).toUInt32).toInt32).toInt8.toInt32)), .val (.int (((p1.toUInt32 >>> ((16 : Int32) &&& 31).toUInt32).toInt32).toInt8.toInt32)), .val (.ref b14), .val (.ref r18)] [])) _
      refine XS.aload X18.here hx rfl (hb hby at_67) rfl rfl ?_
      show Steps p.tables e below (T18.setTop (mkF m 69 #[.val (.int p0), .val (.int p1), .val (.int (2 : Int32)), .val (.int (p1.toInt8.toInt32)), .val (.int (((p1.toUInt32 >>> ((8 : Int32) &&& 31).toUInt32).toInt32).toInt8.toInt32)), .val (.int (((p1.toUInt32 >>> ((16 : Int32) &&& 31).toUInt32).toInt32).toInt8.toInt32)), .val (.ref b14), .val (.ref r18)] [(.ref r18)])) _
      refine XS.ifnullNo X18.here hx rfl (hb hby at_69) rfl ?_
      show Steps p.tables e below (T18.setTop (mkF m 72 #[.val (.int p0), .val (.int p1), .val (.int (2 : Int32)), .val (.int (p1.toInt8.toInt32)), .val (.int (((p1.toUInt32 >>> ((8 : Int32) &&& 31).toUInt32).toInt32).toInt8.toInt32)), .val (.int (((p1.toUInt32 >>> ((16 : Int32) &&& 31).toUInt32).toInt32).toInt8.toInt32)), .val (.ref b14), .val (.ref r18)] [])) _
      refine XS.aload X18.here hx rfl (hb hby at_72) rfl rfl ?_
      show Steps p.tables e below (T18.setTop (mkF m 74 #[.val (.int p0), .val (.int p1), .val (.int (2 : Int32)), .val (.int (p1.toInt8.toInt32)), .val (.int (((p1.toUInt32 >>> ((8 : Int32) &&& 31).toUInt32).toInt32).toInt8.toInt32)), .val (.int (((p1.toUInt32 >>> ((16 : Int32) &&& 31).toUInt32).toInt32).toInt8.toInt32)), .val (.ref b14), .val (.ref r18)] [(.ref r18)])) _
      refine XS.aload X18.here hx rfl (hb hby at_74) rfl rfl ?_
      show Steps p.tables e below (T18.setTop (mkF m 76 #[.val (.int p0), .val (.int p1), .val (.int (2 : Int32)), .val (.int (p1.toInt8.toInt32)), .val (.int (((p1.toUInt32 >>> ((8 : Int32) &&& 31).toUInt32).toInt32).toInt8.toInt32)), .val (.int (((p1.toUInt32 >>> ((16 : Int32) &&& 31).toUInt32).toInt32).toInt8.toInt32)), .val (.ref b14), .val (.ref r18)] [(.ref b14), (.ref r18)])) _
      refine Jvm.RoadKit.acmp (g := (mkF m 76 #[.val (.int p0), .val (.int p1), .val (.int (2 : Int32)), .val (.int (p1.toInt8.toInt32)), .val (.int (((p1.toUInt32 >>> ((8 : Int32) &&& 31).toUInt32).toInt32).toInt8.toInt32)), .val (.int (((p1.toUInt32 >>> ((16 : Int32) &&& 31).toUInt32).toInt32).toInt8.toInt32)), .val (.ref b14), .val (.ref r18)] [(.ref b14), (.ref r18)])) X18 hx rfl rfl rfl (pc0 := 76) (pc' := 79) (same := false) rfl (hb hby at_76) rfl (decide_eq_false fun q => ne18 (Value.ref.inj q)) (by decide) (by decide) ?_
      show Steps p.tables e below (T18.setTop (mkF m 79 #[.val (.int p0), .val (.int p1), .val (.int (2 : Int32)), .val (.int (p1.toInt8.toInt32)), .val (.int (((p1.toUInt32 >>> ((8 : Int32) &&& 31).toUInt32).toInt32).toInt8.toInt32)), .val (.int (((p1.toUInt32 >>> ((16 : Int32) &&& 31).toUInt32).toInt32).toInt8.toInt32)), .val (.ref b14), .val (.ref r18)] [])) _
      refine XS.aload X18.here hx rfl (hb hby at_79) rfl rfl ?_
      show Steps p.tables e below (T18.setTop (mkF m 81 #[.val (.int p0), .val (.int p1), .val (.int (2 : Int32)), .val (.int (p1.toInt8.toInt32)), .val (.int (((p1.toUInt32 >>> ((8 : Int32) &&& 31).toUInt32).toInt32).toInt8.toInt32)), .val (.int (((p1.toUInt32 >>> ((16 : Int32) &&& 31).toUInt32).toInt32).toInt8.toInt32)), .val (.ref b14), .val (.ref r18)] [(.ref r18)])) _
      refine X18.arraylength hx (by exact Arr21.1) (State.isArrayOf_alike hZ.alike Arr21.2.1) (g := (mkF m 81 #[.val (.int p0), .val (.int p1), .val (.int (2 : Int32)), .val (.int (p1.toInt8.toInt32)), .val (.int (((p1.toUInt32 >>> ((8 : Int32) &&& 31).toUInt32).toInt32).toInt8.toInt32)), .val (.int (((p1.toUInt32 >>> ((16 : Int32) &&& 31).toUInt32).toInt32).toInt8.toInt32)), .val (.ref b14), .val (.ref r18)] [(.ref r18)])) rfl rfl (hb hby at_81) _ ?_
      rw [len_of Sr21 Mr21]
      show Steps p.tables e below (T18.setTop (mkF m 82 #[.val (.int p0), .val (.int p1), .val (.int (2 : Int32)), .val (.int (p1.toInt8.toInt32)), .val (.int (((p1.toUInt32 >>> ((8 : Int32) &&& 31).toUInt32).toInt32).toInt8.toInt32)), .val (.int (((p1.toUInt32 >>> ((16 : Int32) &&& 31).toUInt32).toInt32).toInt8.toInt32)), .val (.ref b14), .val (.ref r18)] [(.int (2 : Int32))])) _
      refine XS.iloadN X18.here hx rfl (hb hby at_82) rfl ?_
      show Steps p.tables e below (T18.setTop (mkF m 83 #[.val (.int p0), .val (.int p1), .val (.int (2 : Int32)), .val (.int (p1.toInt8.toInt32)), .val (.int (((p1.toUInt32 >>> ((8 : Int32) &&& 31).toUInt32).toInt32).toInt8.toInt32)), .val (.int (((p1.toUInt32 >>> ((16 : Int32) &&& 31).toUInt32).toInt32).toInt8.toInt32)), .val (.ref b14), .val (.ref r18)] [(.int (2 : Int32)), (.int (2 : Int32))])) _
      refine XS.icmpYes X18.here hx rfl (pc0 := 83) (pc' := 88) rfl (hb hby at_83) rfl (teq rfl).1 (by decide) (by decide) ?_
      show Steps p.tables e below (T18.setTop (mkF m 88 #[.val (.int p0), .val (.int p1), .val (.int (2 : Int32)), .val (.int (p1.toInt8.toInt32)), .val (.int (((p1.toUInt32 >>> ((8 : Int32) &&& 31).toUInt32).toInt32).toInt8.toInt32)), .val (.int (((p1.toUInt32 >>> ((16 : Int32) &&& 31).toUInt32).toInt32).toInt8.toInt32)), .val (.ref b14), .val (.ref r18)] [])) _
      refine XS.aload X18.here hx rfl (hb hby at_88) rfl rfl ?_
      show Steps p.tables e below (T18.setTop (mkF m 90 #[.val (.int p0), .val (.int p1), .val (.int (2 : Int32)), .val (.int (p1.toInt8.toInt32)), .val (.int (((p1.toUInt32 >>> ((8 : Int32) &&& 31).toUInt32).toInt32).toInt8.toInt32)), .val (.int (((p1.toUInt32 >>> ((16 : Int32) &&& 31).toUInt32).toInt32).toInt8.toInt32)), .val (.ref b14), .val (.ref r18)] [(.ref b14)])) _
      refine XS.iloadN X18.here hx rfl (hb hby at_90) rfl ?_
      show Steps p.tables e below (T18.setTop (mkF m 91 #[.val (.int p0), .val (.int p1), .val (.int (2 : Int32)), .val (.int (p1.toInt8.toInt32)), .val (.int (((p1.toUInt32 >>> ((8 : Int32) &&& 31).toUInt32).toInt32).toInt8.toInt32)), .val (.int (((p1.toUInt32 >>> ((16 : Int32) &&& 31).toUInt32).toInt32).toInt8.toInt32)), .val (.ref b14), .val (.ref r18)] [(.int (2 : Int32)), (.ref b14)])) _
      refine XS.iloadN X18.here hx rfl (hb hby at_91) rfl ?_
      show Steps p.tables e below (T18.setTop (mkF m 92 #[.val (.int p0), .val (.int p1), .val (.int (2 : Int32)), .val (.int (p1.toInt8.toInt32)), .val (.int (((p1.toUInt32 >>> ((8 : Int32) &&& 31).toUInt32).toInt32).toInt8.toInt32)), .val (.int (((p1.toUInt32 >>> ((16 : Int32) &&& 31).toUInt32).toInt32).toInt8.toInt32)), .val (.ref b14), .val (.ref r18)] [(.int (p1.toInt8.toInt32)), (.int (2 : Int32)), (.ref b14)])) _
      refine XS.iload X18.here hx rfl (hb hby at_92) rfl ?_
      show Steps p.tables e below (T18.setTop (mkF m 94 #[.val (.int p0), .val (.int p1), .val (.int (2 : Int32)), .val (.int (p1.toInt8.toInt32)), .val (.int (((p1.toUInt32 >>> ((8 : Int32) &&& 31).toUInt32).toInt32).toInt8.toInt32)), .val (.int (((p1.toUInt32 >>> ((16 : Int32) &&& 31).toUInt32).toInt32).toInt8.toInt32)), .val (.ref b14), .val (.ref r18)] [(.int (((p1.toUInt32 >>> ((8 : Int32) &&& 31).toUInt32).toInt32).toInt8.toInt32)), (.int (p1.toInt8.toInt32)), (.int (2 : Int32)), (.ref b14)])) _
      refine XS.iload X18.here hx rfl (hb hby at_94) rfl ?_
      show Steps p.tables e below (T18.setTop (mkF m 96 #[.val (.int p0), .val (.int p1), .val (.int (2 : Int32)), .val (.int (p1.toInt8.toInt32)), .val (.int (((p1.toUInt32 >>> ((8 : Int32) &&& 31).toUInt32).toInt32).toInt8.toInt32)), .val (.int (((p1.toUInt32 >>> ((16 : Int32) &&& 31).toUInt32).toInt32).toInt8.toInt32)), .val (.ref b14), .val (.ref r18)] [(.int (((p1.toUInt32 >>> ((16 : Int32) &&& 31).toUInt32).toInt32).toInt8.toInt32)), (.int (((p1.toUInt32 >>> ((8 : Int32) &&& 31).toUInt32).toInt32).toInt8.toInt32)), (.int (p1.toInt8.toInt32)), (.int (2 : Int32)), (.ref b14)])) _
      refine XS.iconst X18.here hx rfl (hb hby at_96) ?_
      show Steps p.tables e below (T18.setTop (mkF m 97 #[.val (.int p0), .val (.int p1), .val (.int (2 : Int32)), .val (.int (p1.toInt8.toInt32)), .val (.int (((p1.toUInt32 >>> ((8 : Int32) &&& 31).toUInt32).toInt32).toInt8.toInt32)), .val (.int (((p1.toUInt32 >>> ((16 : Int32) &&& 31).toUInt32).toInt32).toInt8.toInt32)), .val (.ref b14), .val (.ref r18)] [(.int (0 : Int32)), (.int (((p1.toUInt32 >>> ((16 : Int32) &&& 31).toUInt32).toInt32).toInt8.toInt32)), (.int (((p1.toUInt32 >>> ((8 : Int32) &&& 31).toUInt32).toInt32).toInt8.toInt32)), (.int (p1.toInt8.toInt32)), (.int (2 : Int32)), (.ref b14)])) _
      refine st22 _ ?_
      show Steps p.tables e below (T22.setTop (mkF m 100 #[.val (.int p0), .val (.int p1), .val (.int (2 : Int32)), .val (.int (p1.toInt8.toInt32)), .val (.int (((p1.toUInt32 >>> ((8 : Int32) &&& 31).toUInt32).toInt32).toInt8.toInt32)), .val (.int (((p1.toUInt32 >>> ((16 : Int32) &&& 31).toUInt32).toInt32).toInt8.toInt32)), .val (.ref b14), .val (.ref r18)] [(.int (1 : Int32))])) _
      refine XS.ifYes X22.here hx rfl (pc0 := 100) (pc' := 105) rfl (hb hby at_100) rfl ((if0 _ _).trans (feq (by decide)).2) (by decide) (by decide) ?_
      show Steps p.tables e below (T22.setTop (mkF m 105 #[.val (.int p0), .val (.int p1), .val (.int (2 : Int32)), .val (.int (p1.toInt8.toInt32)), .val (.int (((p1.toUInt32 >>> ((8 : Int32) &&& 31).toUInt32).toInt32).toInt8.toInt32)), .val (.int (((p1.toUInt32 >>> ((16 : Int32) &&& 31).toUInt32).toInt32).toInt8.toInt32)), .val (.ref b14), .val (.ref r18)] [])) _
      refine XS.aload X22.here hx rfl (hb hby at_105) rfl rfl ?_
      show Steps p.tables e below (T22.setTop (mkF m 107 #[.val (.int p0), .val (.int p1), .val (.int (2 : Int32)), .val (.int (p1.toInt8.toInt32)), .val (.int (((p1.toUInt32 >>> ((8 : Int32) &&& 31).toUInt32).toInt32).toInt8.toInt32)), .val (.int (((p1.toUInt32 >>> ((16 : Int32) &&& 31).toUInt32).toInt32).toInt8.toInt32)), .val (.ref b14), .val (.ref r18)] [(.ref r18)])) _
      refine XS.iloadN X22.here hx rfl (hb hby at_107) rfl ?_
      show Steps p.tables e below (T22.setTop (mkF m 108 #[.val (.int p0), .val (.int p1), .val (.int (2 : Int32)), .val (.int (p1.toInt8.toInt32)), .val (.int (((p1.toUInt32 >>> ((8 : Int32) &&& 31).toUInt32).toInt32).toInt8.toInt32)), .val (.int (((p1.toUInt32 >>> ((16 : Int32) &&& 31).toUInt32).toInt32).toInt8.toInt32)), .val (.ref b14), .val (.ref r18)] [(.int (2 : Int32)), (.ref r18)])) _
      refine XS.iloadN X22.here hx rfl (hb hby at_108) rfl ?_
      show Steps p.tables e below (T22.setTop (mkF m 109 #[.val (.int p0), .val (.int p1), .val (.int (2 : Int32)), .val (.int (p1.toInt8.toInt32)), .val (.int (((p1.toUInt32 >>> ((8 : Int32) &&& 31).toUInt32).toInt32).toInt8.toInt32)), .val (.int (((p1.toUInt32 >>> ((16 : Int32) &&& 31).toUInt32).toInt32).toInt8.toInt32)), .val (.ref b14), .val (.ref r18)] [(.int (p1.toInt8.toInt32)), (.int (2 : Int32)), (.ref r18)])) _
      refine XS.iload X22.here hx rfl (hb hby at_109) rfl ?_
      show Steps p.tables e below (T22.setTop (mkF m 111 #[.val (.int p0), .val (.int p1), .val (.int (2 : Int32)), .val (.int (p1.toInt8.toInt32)), .val (.int (((p1.toUInt32 >>> ((8 : Int32) &&& 31).toUInt32).toInt32).toInt8.toInt32)), .val (.int (((p1.toUInt32 >>> ((16 : Int32) &&& 31).toUInt32).toInt32).toInt8.toInt32)), .val (.ref b14), .val (.ref r18)] [(.int (((p1.toUInt32 >>> ((8 : Int32) &&& 31).toUInt32).toInt32).toInt8.toInt32)), (.int (p1.toInt8.toInt32)), (.int (2 : Int32)), (.ref r18)])) _
      refine XS.iload X22.here hx rfl (hb hby at_111) rfl ?_
      show Steps p.tables e below (T22.setTop (mkF m 113 #[.val (.int p0), .val (.int p1), .val (.int (2 : Int32)), .val (.int (p1.toInt8.toInt32)), .val (.int (((p1.toUInt32 >>> ((8 : Int32) &&& 31).toUInt32).toInt32).toInt8.toInt32)), .val (.int (((p1.toUInt32 >>> ((16 : Int32) &&& 31).toUInt32).toInt32).toInt8.toInt32)), .val (.ref b14), .val (.ref r18)] [(.int (((p1.toUInt32 >>> ((16 : Int32) &&& 31).toUInt32).toInt32).toInt8.toInt32)), (.int (((p1.toUInt32 >>> ((8 : Int32) &&& 31).toUInt32).toInt32).toInt8.toInt32)), (.int (p1.toInt8.toInt32)), (.int (2 : Int32)), (.ref r18)])) _
      refine XS.iconst X22.here hx rfl (hb hby at_113) ?_
      show Steps p.tables e below (T22.setTop (mkF m 114 #[.val (.int p0), .val (.int p1), .val (.int (2 : Int32)), .val (.int (p1.toInt8.toInt32)), .val (.int (((p1.toUInt32 >>> ((8 : Int32) &&& 31).toUInt32).toInt32).toInt8.toInt32)), .val (.int (((p1.toUInt32 >>> ((16 : Int32) &&& 31).toUInt32).toInt32).toInt8.toInt32)), .val (.ref b14), .val (.ref r18)] [(.int (1 : Int32)), (.int (((p1.toUInt32 >>> ((16 : Int32) &&& 31).toUInt32).toInt32).toInt8.toInt32)), (.int (((p1.toUInt32 >>> ((8 : Int32) &&& 31).toUInt32).toInt32).toInt8.toInt32)), (.int (p1.toInt8.toInt32)), (.int (2 : Int32)), (.ref r18)])) _
      refine st25 _ ?_
      show Steps p.tables e below (T25.setTop (mkF m 117 #[.val (.int p0), .val (.int p1), .val (.int (2 : Int32)), .val (.int (p1.toInt8.toInt32)), .val (.int (((p1.toUInt32 >>> ((8 : Int32) &&& 31).toUInt32).toInt32).toInt8.toInt32)), .val (.int (((p1.toUInt32 >>> ((16 : Int32) &&& 31).toUInt32).toInt32).toInt8.toInt32)), .val (.ref b14), .val (.ref r18)] [(.int (1 : Int32))])) _
      exact q)
    obtain ⟨fs, hr, hrun, hended, hW, hsame⟩ := X25.leave (v := some (.int (1 : Int32))) (fun h => by rw [Bd.returns] at h; cases h)
    refine ⟨_, _, k0 _ (k26 _ ?_), hrun, hended, _, _, rfl, ?_, ⟨_, rfl⟩, hW, hsame.mono (by decide) (by decide)⟩
    · show Steps p.tables e below (T25.setTop (mkF m 117 #[.val (.int p0), .val (.int p1), .val (.int (2 : Int32)), .val (.int (p1.toInt8.toInt32)), .val (.int (((p1.toUInt32 >>> ((8 : Int32) &&& 31).toUInt32).toInt32).toInt8.toInt32)), .val (.int (((p1.toUInt32 >>> ((16 : Int32) &&& 31).toUInt32).toInt32).toInt8.toInt32)), .val (.ref b14), .val (.ref r18)] [(.int (1 : Int32))])) _
      exact retN X25 hx (t := .boolean) Bd.returns (by simp) (hb hby at_117) hr
    · show Q0 Z p0 p1 h0 n0 _ T25.heap _
      rw [e25]
      exact ⟨rfl, N25⟩
  ·
    have k27 : own_To p e below s₁ (mkF m 6 #[.val (.int p0), .val (.int p1), .val (.int (3 : Int32)), .unset, .unset, .unset, .unset, .unset] []) s₁ (mkF m 0 #[.val (.int p0), .val (.int p1), .unset, .unset, .unset, .unset, .unset, .unset] []) := by rw [hn] at k1; exact k1
    obtain ⟨T28, h28, kk28, X28, e28, E28, A28, EA28, st28⟩ := newPE X0 hx hZ (hw _ (List.mem_of_getElem? (i := 0) rfl)) e0 (g := (mkF m 24 #[.val (.int p0), .val (.int p1), .val (.int (3 : Int32)), .val (.int (p1.toInt8.toInt32)), .val (.int (((p1.toUInt32 >>> ((8 : Int32) &&& 31).toUInt32).toInt32).toInt8.toInt32)), .val (.int (((p1.toUInt32 >>> ((16 : Int32) &&& 31).toUInt32).toInt32).toInt8.toInt32)), .unset, .unset] [(.int (3 : Int32))])) rfl (hb hby at_24) rfl (by decide) (cap := 3) (by decide) (by decide) (by decide) (by decide) (ad := "[B") rfl
    obtain ⟨b28, g28⟩ : ∃ z, z = h0.size := ⟨_, rfl⟩
    rw [← g28] at A28 EA28 st28
    have ge_b28 : n0 ≤ b28 := Nat.le_trans Z0 (Nat.le_of_eq g28.symm)
    have K29 : Keep h0 h0 [] := (Keep.refl h0 [])
    have sz_b28 : h0.size ≤ b28 := Nat.le_trans K29.1 (Nat.le_of_eq g28.symm)
    have V28 : Arv Z h28 b28 kk28 .byte (3 : Int32) [(.int (0 : Int32)), (.int (0 : Int32)), (.int (0 : Int32))] (.int (0 : Int32)) := (Arv.new A28 (by decide)).pad (pad_rep [] (.int (0 : Int32)) 3)
    obtain ⟨clr30, Arr30, qr30, Sr30, Mr30, Hhr30, Gr30⟩ := id V28
    have hinr30 : ¬ ((0 : Int32) < 0 ∨ clr30.slots.size ≤ ((0 : Int32)).toNatClampNeg) := inb_of Sr30 ⟨by decide, by decide⟩
    obtain ⟨T31, h31, X31, e31, W31, st31⟩ := stB X28 hx hZ e28 Arr30 (j := (0 : Int32)) hinr30 (g := (mkF m 37 #[.val (.int p0), .val (.int p1), .val (.int (3 : Int32)), .val (.int (p1.toInt8.toInt32)), .val (.int (((p1.toUInt32 >>> ((8 : Int32) &&& 31).toUInt32).toInt32).toInt8.toInt32)), .val (.int (((p1.toUInt32 >>> ((16 : Int32) &&& 31).toUInt32).toInt32).toInt8.toInt32)), .val (.ref b28), .unset] [(.int (p1.toInt8.toInt32)), (.int (0 : Int32)), (.ref b28)])) rfl rfl (hb hby at_37)
    have N31 := Fr.snoc X31 N0 ge_b28
    have V31 : Arv Z h31 b28 kk28 .byte (3 : Int32) [(.int (p1.toInt8.toInt32)), (.int (0 : Int32)), (.int (0 : Int32))] (.int (0 : Int32)) := by
      have q := Arv.set Arr30 qr30 Sr30 Mr30 Hhr30 Gr30 (fits_nar_byte _) W31 0 rfl (Nat.le_of_ble_eq_true rfl)
      rw [own_nar] at q; exact q
    obtain ⟨clr32, Arr32, qr32, Sr32, Mr32, Hhr32, Gr32⟩ := id V31
    have hinr32 : ¬ ((1 : Int32) < 0 ∨ clr32.slots.size ≤ ((1 : Int32)).toNatClampNeg) := inb_of Sr32 ⟨by decide, by decide⟩
    obtain ⟨T33, h33, X33, e33, W33, st33⟩ := stB X31 hx hZ e31 Arr32 (j := (1 : Int32)) hinr32 (g := (mkF m 48 #[.val (.int p0), .val (.int p1), .val (.int (3 : Int32)), .val (.int (p1.toInt8.toInt32)), .val (.int (((p1.toUInt32 >>> ((8 : Int32) &&& 31).toUInt32).toInt32).toInt8.toInt32)), .val (.int (((p1.toUInt32 >>> ((16 : Int32) &&& 31).toUInt32).toInt32).toInt8.toInt32)), .val (.ref b28), .unset] [(.int (((p1.toUInt32 >>> ((8 : Int32) &&& 31).toUInt32).toInt32).toInt8.toInt32)), (.int (1 : Int32)), (.ref b28)])) rfl rfl (hb hby at_48)
    have N33 := Fr.snoc X33 N31 ge_b28
    have V33 : Arv Z h33 b28 kk28 .byte (3 : Int32) [(.int (p1.toInt8.toInt32)), (.int (((p1.toUInt32 >>> ((8 : Int32) &&& 31).toUInt32).toInt32).toInt8.toInt32)), (.int (0 : Int32))] (.int (0 : Int32)) := by
      have q := Arv.set Arr32 qr32 Sr32 Mr32 Hhr32 Gr32 (fits_nar_byte _) W33 1 rfl (Nat.le_of_ble_eq_true rfl)
      rw [own_nar] at q; exact q
    have K35 : Keep h0 h33 [] := (((K29.ext E28).wr W31 (Or.inr sz_b28)).wr W33 (Or.inr sz_b28))
    have F36 := ((EA28.wr W31).wr W33)
    obtain ⟨_, _, ⟨T34, L34, kk34, n34⟩, -, X34, ⟨Lc34, hQ34, l34, y34, z34⟩, st34⟩ := Jvm.LawKit.callS X33 hx (y := (⟨"com/example/feeddb/feeddb/core/Keys", "pastNamePrefix", "([B)[B"⟩ : MethodName)) hown (mvT hZ (hw _ (List.mem_of_getElem? (i := 1) rfl))) (mvT hZ (hw _ (List.mem_of_getElem? (i := 2) rfl))) (mvT hZ (hw _ (List.mem_of_getElem? (i := 3) rfl))) (mvT hZ (hw _ (List.mem_of_getElem? (i := 4) rfl))) (by decide) (backOf (W := 0) (rm1 l Z a0 hw [] b28 kk28 (3 : Int32) [(.int (p1.toInt8.toInt32)), (.int (((p1.toUInt32 >>> ((8 : Int32) &&& 31).toUInt32).toInt32).toInt8.toInt32)), (.int (0 : Int32))] h33 n0 (Nat.le_trans Z0 K35.1) V33 F36 (by decide) (by decide) (Nat.le_of_ble_eq_true rfl)) hZ (hw _ (List.mem_of_getElem? (i := 4) rfl)) (hw _ (List.mem_of_getElem? (i := 3) rfl)) (by decide) (by decide)) (g := (mkF m 62 #[.val (.int p0), .val (.int p1), .val (.int (3 : Int32)), .val (.int (p1.toInt8.toInt32)), .val (.int (((p1.toUInt32 >>> ((8 : Int32) &&& 31).toUInt32).toInt32).toInt8.toInt32)), .val (.int (((p1.toUInt32 >>> ((16 : Int32) &&& 31).toUInt32).toInt32).toInt8.toInt32)), .val (.ref b28), .unset] [(.ref b28)])) rfl (by rw [hml]; rfl) (argsL := [(.ref b28)]) (rest := []) (lenOf own_pd1 rfl) rfl (by show 2 * 0 + _ ≤ _; exact Nat.le_of_eq rfl) (hb hby at_62) (fun _ _ => ⟨rfl, e33, (by decide : 1 + 1 ≤ _), (by decide : 3 + 4 ≤ _)⟩)
    dsimp only [Pt.U, Pt.locs, Pt.cells, Pt.slots] at X34 l34 y34 z34 st34 hQ34
    subst l34 y34 z34
    obtain ⟨r34, rfl, N34q, K34, ne34, ge_r34, V34⟩ := hQ34
    have N34 := Fr.app N33 N34q
    have W34 : Arv Z T34.heap r34 kk28 .byte (3 : Int32) [(.int (p1.toInt8.toInt32)), (.int (((p1.toUInt32 >>> ((8 : Int32) &&& 31).toUInt32).toInt32).toInt8.toInt32)), (.int (1 : Int32))] (.int (0 : Int32)) := V34
    obtain ⟨clr37, Arr37, qr37, Sr37, Mr37, Hhr37, Gr37⟩ := id W34
    have K39 : Keep h0 T34.heap [] := (K35.trans K34 all0)
    have F40 := (V33.keep K34 nin0)
    obtain ⟨_, _, ⟨T38, L38, kk38, n38⟩, -, X38, ⟨Lc38, hQ38, l38, y38, z38⟩, st38⟩ := Jvm.LawKit.callS X34 hx (y := (⟨"com/example/feeddb/feeddb/core/KeysPastNamePrefixPinLaw", "same", "([BIBBBB)Z"⟩ : MethodName)) hown (mvT hZ (hw _ (List.mem_of_getElem? (i := 14) rfl))) (mvT hZ (hw _ (List.mem_of_getElem? (i := 15) rfl))) (mvT hZ (hw _ (List.mem_of_getElem? (i := 16) rfl))) (mvT hZ (hw _ (List.mem_of_getElem? (i := 17) rfl))) (by decide) (backOf (W := 0) (rmsame3 l Z a0 hw [] b28 (p1.toInt8.toInt32) (((p1.toUInt32 >>> ((8 : Int32) &&& 31).toUInt32).toInt32).toInt8.toInt32) (((p1.toUInt32 >>> ((16 : Int32) &&& 31).toUInt32).toInt32).toInt8.toInt32) (0 : Int32) kk28 T34.heap n0 (Nat.le_trans Z0 K39.1) F40) hZ (hw _ (List.mem_of_getElem? (i := 17) rfl)) (hw _ (List.mem_of_getElem? (i := 16) rfl)) (by decide) (by decide)) (g := (mkF m 97 #[.val (.int p0), .val (.int p1), .val (.int (3 : Int32)), .val (.int (p1.toInt8.toInt32)), .val (.int (((p1.toUInt32 >>> ((8 : Int32) &&& 31).toUInt32).toInt32).toInt8.toInt32)), .val (.int (((p1.toUInt32 >>> ((16 : Int32) &&& 31).toUInt32).toInt32).toInt8.toInt32)), .val (.ref b28), .val (.ref r34)] [(.int (0 : Int32)), (.int (((p1.toUInt32 >>> ((16 : Int32) &&& 31).toUInt32).toInt32).toInt8.toInt32)), (.int (((p1.toUInt32 >>> ((8 : Int32) &&& 31).toUInt32).toInt32).toInt8.toInt32)), (.int (p1.toInt8.toInt32)), (.int (3 : Int32)), (.ref b28)])) rfl (by rw [hml]; rfl) (argsL := [(.ref b28), (.int (3 : Int32)), (.int (p1.toInt8.toInt32)), (.int (((p1.toUInt32 >>> ((8 : Int32) &&& 31).toUInt32).toInt32).toInt8.toInt32)), (.int (((p1.toUInt32 >>> ((16 : Int32) &&& 31).toUInt32).toInt32).toInt8.toInt32)), (.int (0 : Int32))]) (rest := []) (lenOf own_pd2 rfl) rfl (by show 2 * 0 + _ ≤ _; exact Nat.le_of_eq rfl) (hb hby at_97) (fun _ _ => ⟨rfl, rfl, (by decide : 2 + 0 ≤ _), (by decide : 7 + 0 ≤ _)⟩)
    dsimp only [Pt.U, Pt.locs, Pt.cells, Pt.slots] at X38 l38 y38 z38 st38 hQ38
    subst l38 y38 z38
    obtain ⟨rfl, N38q, e38⟩ := hQ38
    have N38 := Fr.app N34 N38q
    obtain ⟨_, _, ⟨T41, L41, kk41, n41⟩, -, X41, ⟨Lc41, hQ41, l41, y41, z41⟩, st41⟩ := Jvm.LawKit.callS X38 hx (y := (⟨"com/example/feeddb/feeddb/core/KeysPastNamePrefixPinLaw", "same", "([BIBBBB)Z"⟩ : MethodName)) hown (mvT hZ (hw _ (List.mem_of_getElem? (i := 14) rfl))) (mvT hZ (hw _ (List.mem_of_getElem? (i := 15) rfl))) (mvT hZ (hw _ (List.mem_of_getElem? (i := 16) rfl))) (mvT hZ (hw _ (List.mem_of_getElem? (i := 17) rfl))) (by decide) (backOf (W := 0) (rmsame3 l Z a0 hw [] r34 (p1.toInt8.toInt32) (((p1.toUInt32 >>> ((8 : Int32) &&& 31).toUInt32).toInt32).toInt8.toInt32) (((p1.toUInt32 >>> ((16 : Int32) &&& 31).toUInt32).toInt32).toInt8.toInt32) (1 : Int32) kk28 T34.heap n0 (Nat.le_trans Z0 K39.1) W34) hZ (hw _ (List.mem_of_getElem? (i := 17) rfl)) (hw _ (List.mem_of_getElem? (i := 16) rfl)) (by decide) (by decide)) (g := (mkF m 114 #[.val (.int p0), .val (.int p1), .val (.int (3 : Int32)), .val (.int (p1.toInt8.toInt32)), .val (.int (((p1.toUInt32 >>> ((8 : Int32) &&& 31).toUInt32).toInt32).toInt8.toInt32)), .val (.int (((p1.toUInt32 >>> ((16 : Int32) &&& 31).toUInt32).toInt32).toInt8.toInt32)), .val (.ref b28), .val (.ref r34)] [(.int (1 : Int32)), (.int (((p1.toUInt32 >>> ((16 : Int32) &&& 31).toUInt32).toInt32).toInt8.toInt32)), (.int (((p1.toUInt32 >>> ((8 : Int32) &&& 31).toUInt32).toInt32).toInt8.toInt32)), (.int (p1.toInt8.toInt32)), (.int (3 : Int32)), (.ref r34)])) rfl (by rw [hml]; rfl) (argsL := [(.ref r34), (.int (3 : Int32)), (.int (p1.toInt8.toInt32)), (.int (((p1.toUInt32 >>> ((8 : Int32) &&& 31).toUInt32).toInt32).toInt8.toInt32)), (.int (((p1.toUInt32 >>> ((16 : Int32) &&& 31).toUInt32).toInt32).toInt8.toInt32)), (.int (1 : Int32))]) (rest := []) (lenOf own_pd2 rfl) rfl (by show 2 * 0 + _ ≤ _; exact Nat.le_of_eq rfl) (hb hby at_114) (fun _ _ => ⟨rfl, e38, (by decide : 2 + 0 ≤ _), (by decide : 7 + 0 ≤ _)⟩)
    dsimp only [Pt.U, Pt.locs, Pt.cells, Pt.slots] at X41 l41 y41 z41 st41 hQ41
    subst l41 y41 z41
    obtain ⟨rfl, N41q, e41⟩ := hQ41
    have N41 := Fr.app N38 N41q
    have k42 : own_To p e below T41 (mkF m 117 #[.val (.int p0), .val (.int p1), .val (.int (3 : Int32)), .val (.int (p1.toInt8.toInt32)), .val (.int (((p1.toUInt32 >>> ((8 : Int32) &&& 31).toUInt32).toInt32).toInt8.toInt32)), .val (.int (((p1.toUInt32 >>> ((16 : Int32) &&& 31).toUInt32).toInt32).toInt8.toInt32)), .val (.ref b28), .val (.ref r34)] [(.int (1 : Int32))]) s₁ (mkF m 0 #[.val (.int p0), .val (.int p1), .unset, .unset, .unset, .unset, .unset, .unset] []) := fun t q => k27 t (by
      refine XS.iloadN X0.here hx rfl (hb hby at_6) rfl ?_
      show Steps p.tables e below (s₁.setTop (mkF m 7 #[.val (.int p0), .val (.int p1), .val (.int (3 : Int32)), .unset, .unset, .unset, .unset, .unset] [(.int p1)])) _
      refine XS.i2b X0.here hx rfl (hb hby at_7) rfl ?_
      show Steps p.tables e below (s₁.setTop (mkF m 8 #[.val (.int p0), .val (.int p1), .val (.int (3 : Int32)), .unset, .unset, .unset, .unset, .unset] [(.int (p1.toInt8.toInt32))])) _
      refine XS.istoreN X0.here hx rfl (hb hby at_8) rfl (l' := #[.val (.int p0), .val (.int p1), .val (.int (3 : Int32)), .val (.int (p1.toInt8.toInt32)), .unset, .unset, .unset, .unset]) rfl ?_
      show Steps p.tables e below (s₁.setTop (mkF m 9 #[.val (.int p0), .val (.int p1), .val (.int (3 : Int32)), .val (.int (p1.toInt8.toInt32)), .unset, .unset, .unset, .unset] [])) _
      refine XS.iloadN X0.here hx rfl (hb hby at_9) rfl ?_
      show Steps p.tables e below (s₁.setTop (mkF m 10 #[.val (.int p0), .val (.int p1), .val (.int (3 : Int32)), .val (.int (p1.toInt8.toInt32)), .unset, .unset, .unset, .unset] [(.int p1)])) _
      refine XS.bipush X0.here hx rfl (hb hby at_10) ?_
      show Steps p.tables e below (s₁.setTop (mkF m 12 #[.val (.int p0), .val (.int p1), .val (.int (3 : Int32)), .val (.int (p1.toInt8.toInt32)), .unset, .unset, .unset, .unset] [(.int (8 : Int32)), (.int p1)])) _
      refine XS.iushr X0.here hx rfl (hb hby at_12) rfl ?_
      show Steps p.tables e below (s₁.setTop (mkF m 13 #[.val (.int p0), .val (.int p1), .val (.int (3 : Int32)), .val (.int (p1.toInt8.toInt32)), .unset, .unset, .unset, .unset] [(.int ((p1.toUInt32 >>> ((8 : Int32) &&& 31).toUInt32).toInt32))])) _
      refine XS.i2b X0.here hx rfl (hb hby at_13) rfl ?_
      show Steps p.tables e below (s₁.setTop (mkF m 14 #[.val (.int p0), .val (.int p1), .val (.int (3 : Int32)), .val (.int (p1.toInt8.toInt32)), .unset, .unset, .unset, .unset] [(.int (((p1.toUInt32 >>> ((8 : Int32) &&& 31).toUInt32).toInt32).toInt8.toInt32))])) _
      refine XS.istore X0.here hx rfl (hb hby at_14) rfl (l' := #[.val (.int p0), .val (.int p1), .val (.int (3 : Int32)), .val (.int (p1.toInt8.toInt32)), .val (.int (((p1.toUInt32 >>> ((8 : Int32) &&& 31).toUInt32).toInt32).toInt8.toInt32)), .unset, .unset, .unset]) rfl ?_
      show Steps p.tables e below (s₁.setTop (mkF m 16 #[.val (.int p0), .val (.int p1), .val (.int (3 : Int32)), .val (.int (p1.toInt8.toInt32)), .val (.int (((p1.toUInt32 >>> ((8 : Int32) &&& 31).toUInt32).toInt32).toInt8.toInt32)), .unset, .unset, .unset] [])) _
      refine XS.iloadN X0.here hx rfl (hb hby at_16) rfl ?_
      show Steps p.tables e below (s₁.setTop (mkF m 17 #[.val (.int p0), .val (.int p1), .val (.int (3 : Int32)), .val (.int (p1.toInt8.toInt32)), .val (.int (((p1.toUInt32 >>> ((8 : Int32) &&& 31).toUInt32).toInt32).toInt8.toInt32)), .unset, .unset, .unset] [(.int p1)])) _
      refine XS.bipush X0.here hx rfl (hb hby at_17) ?_
      show Steps p.tables e below (s₁.setTop (mkF m 19 #[.val (.int p0), .val (.int p1), .val (.int (3 : Int32)), .val (.int (p1.toInt8.toInt32)), .val (.int (((p1.toUInt32 >>> ((8 : Int32) &&& 31).toUInt32).toInt32).toInt8.toInt32)), .unset, .unset, .unset] [(.int (16 : Int32)), (.int p1)])) _
      refine XS.iushr X0.here hx rfl (hb hby at_19) rfl ?_
      show Steps p.tables e below (s₁.setTop (mkF m 20 #[.val (.int p0), .val (.int p1), .val (.int (3 : Int32)), .val (.int (p1.toInt8.toInt32)), .val (.int (((p1.toUInt32 >>> ((8 : Int32) &&& 31).toUInt32).toInt32).toInt8.toInt32)), .unset, .unset, .unset] [(.int ((p1.toUInt32 >>> ((16 : Int32) &&& 31).toUInt32).toInt32))])) _
      refine XS.i2b X0.here hx rfl (hb hby at_20) rfl ?_
      show Steps p.tables e below (s₁.setTop (mkF m 21 #[.val (.int p0), .val (.int p1), .val (.int (3 : Int32)), .val (.int (p1.toInt8.toInt32)), .val (.int (((p1.toUInt32 >>> ((8 : Int32) &&& 31).toUInt32).toInt32).toInt8.toInt32)), .unset, .unset, .unset] [(.int (((p1.toUInt32 >>> ((16 : Int32) &&& 31).toUInt32).toInt32).toInt8.toInt32))])) _
      refine XS.istore X0.here hx rfl (hb hby at_21) rfl (l' := #[.val (.int p0), .val (.int p1), .val (.int (3 : Int32)), .val (.int (p1.toInt8.toInt32)), .val (.int (((p1.toUInt32 >>> ((8 : Int32) &&& 31).toUInt32).toInt32).toInt8.toInt32)), .val (.int (((p1.toUInt32 >>> ((16 : Int32) &&& 31).toUInt32).toInt32).toInt8.toInt32)), .unset, .unset]) rfl ?_
      show Steps p.tables e below (s₁.setTop (mkF m 23 #[.val (.int p0), .val (.int p1), .val (.int (3 : Int32)), .val (.int (p1.toInt8.toInt32)), .val (.int (((p1.toUInt32 >>> ((8 : Int32) &&& 31).toUInt32).toInt32).toInt8.toInt32)), .val (.int (((p1.toUInt32 >>> ((16 : Int32) &&& 31).toUInt32).toInt32).toInt8.toInt32)), .unset, .unset] [])) _
      refine XS.iloadN X0.here hx rfl (hb hby at_23) rfl ?_
      show Steps p.tables e below (s₁.setTop (mkF m 24 #[.val (.int p0), .val (.int p1), .val (.int (3 : Int32)), .val (.int (p1.toInt8.toInt32)), .val (.int (((p1.toUInt32 >>> ((8 : Int32) &&& 31).toUInt32).toInt32).toInt8.toInt32)), .val (.int (((p1.toUInt32 >>> ((16 : Int32) &&& 31).toUInt32).toInt32).toInt8.toInt32)), .unset, .unset] [(.int (3 : Int32))])) _
      refine st28 _ ?_
      show Steps p.tables e below (T28.setTop (mkF m 26 #[.val (.int p0), .val (.int p1), .val (.int (3 : Int32)), .val (.int (p1.toInt8.toInt32)), .val (.int (((p1.toUInt32 >>> ((8 : Int32) &&& 31).toUInt32).toInt32).toInt8.toInt32)), .val (.int (((p1.toUInt32 >>> ((16 : Int32) &&& 31).toUInt32).toInt32).toInt8.toInt32)), .unset, .unset] [(.ref b28)])) _
      refine XS.astore X28.here hx rfl (hb hby at_26) rfl rfl (l' := #[.val (.int p0), .val (.int p1), .val (.int (3 : Int32)), .val (.int (p1.toInt8.toInt32)), .val (.int (((p1.toUInt32 >>> ((8 : Int32) &&& 31).toUInt32).toInt32).toInt8.toInt32)), .val (.int (((p1.toUInt32 >>> ((16 : Int32) &&& 31).toUInt32).toInt32).toInt8.toInt32)), .val (.ref b28), .unset]) rfl ?_
      show Steps p.tables e below (T28.setTop (mkF m 28 #[.val (.int p0), .val (.int p1), .val (.int (3 : Int32)), .val (.int (p1.toInt8.toInt32)), .val (.int (((p1.toUInt32 >>> ((8 : Int32) &&& 31).toUInt32).toInt32).toInt8.toInt32)), .val (.int (((p1.toUInt32 >>> ((16 : Int32) &&& 31).toUInt32).toInt32).toInt8.toInt32)), .val (.ref b28), .unset] [])) _
      refine XS.iloadN X28.here hx rfl (hb hby at_28) rfl ?_
      show Steps p.tables e below (T28.setTop (mkF m 29 #[.val (.int p0), .val (.int p1), .val (.int (3 : Int32)), .val (.int (p1.toInt8.toInt32)), .val (.int (((p1.toUInt32 >>> ((8 : Int32) &&& 31).toUInt32).toInt32).toInt8.toInt32)), .val (.int (((p1.toUInt32 >>> ((16 : Int32) &&& 31).toUInt32).toInt32).toInt8.toInt32)), .val (.ref b28), .unset] [(.int (3 : Int32))])) _
      refine XS.iconst X28.here hx rfl (hb hby at_29) ?_
      show Steps p.tables e below (T28.setTop (mkF m 30 #[.val (.int p0), .val (.int p1), .val (.int (3 : Int32)), .val (.int (p1.toInt8.toInt32)), .val (.int (((p1.toUInt32 >>> ((8 : Int32) &&& 31).toUInt32).toInt32).toInt8.toInt32)), .val (.int (((p1.toUInt32 >>> ((16 : Int32) &&& 31).toUInt32).toInt32).toInt8.toInt32)), .val (.ref b28), .unset] [(.int (1 : Int32)), (.int (3 : Int32))])) _
      refine XS.icmpNo X28.here hx rfl (hb hby at_30) rfl (tlt (by decide)).2.2.2 ?_
      show Steps p.tables e below (T28.setTop (mkF m 33 #[.val (.int p0), .val (.int p1), .val (.int (3 : Int32)), .val (.int (p1.toInt8.toInt32)), .val (.int (((p1.toUInt32 >>> ((8 : Int32) &&& 31).toUInt32).toInt32).toInt8.toInt32)), .val (.int (((p1.toUInt32 >>> ((16 : Int32) &&& 31).toUInt32).toInt32).toInt8.toInt32)), .val (.ref b28), .unset] [])) _
      refine XS.aload X28.here hx rfl (hb hby at_33) rfl rfl ?_
      show Steps p.tables e below (T28.setTop (mkF m 35 #[.val (.int p0), .val (.int p1), .val (.int (3 : Int32)), .val (.int (p1.toInt8.toInt32)), .val (.int (((p1.toUInt32 >>> ((8 : Int32) &&& 31).toUInt32).toInt32).toInt8.toInt32)), .val (.int (((p1.toUInt32 >>> ((16 : Int32) &&& 31).toUInt32).toInt32).toInt8.toInt32)), .val (.ref b28), .unset] [(.ref b28)])) _
      refine XS.iconst X28.here hx rfl (hb hby at_35) ?_
      show Steps p.tables e below (T28.setTop (mkF m 36 #[.val (.int p0), .val (.int p1), .val (.int (3 : Int32)), .val (.int (p1.toInt8.toInt32)), .val (.int (((p1.toUInt32 >>> ((8 : Int32) &&& 31).toUInt32).toInt32).toInt8.toInt32)), .val (.int (((p1.toUInt32 >>> ((16 : Int32) &&& 31).toUInt32).toInt32).toInt8.toInt32)), .val (.ref b28), .unset] [(.int (0 : Int32)), (.ref b28)])) _
      refine XS.iloadN X28.here hx rfl (hb hby at_36) rfl ?_
      show Steps p.tables e below (T28.setTop (mkF m 37 #[.val (.int p0), .val (.int p1), .val (.int (3 : Int32)), .val (.int (p1.toInt8.toInt32)), .val (.int (((p1.toUInt32 >>> ((8 : Int32) &&& 31).toUInt32).toInt32).toInt8.toInt32)), .val (.int (((p1.toUInt32 >>> ((16 : Int32) &&& 31).toUInt32).toInt32).toInt8.toInt32)), .val (.ref b28), .unset] [(.int (p1.toInt8.toInt32)), (.int (0 : Int32)), (.ref b28)])) _
      refine st31 _ ?_
      show Steps p.tables e below (T31.setTop (mkF m 38 #[.val (.int p0), .val (.int p1), .val (.int (3 : Int32)), .val (.int (p1.toInt8.toInt32)), .val (.int (((p1.toUInt32 >>> ((8 : Int32) &&& 31).toUInt32).toInt32).toInt8.toInt32)), .val (.int (((p1.toUInt32 >>> ((16 : Int32) &&& 31).toUInt32).toInt32).toInt8.toInt32)), .val (.ref b28), .unset] [])) _
      refine XS.iloadN X31.here hx rfl (hb hby at_38) rfl ?_
      show Steps p.tables e below (T31.setTop (mkF m 39 #[.val (.int p0), .val (.int p1), .val (.int (3 : Int32)), .val (.int (p1.toInt8.toInt32)), .val (.int (((p1.toUInt32 >>> ((8 : Int32) &&& 31).toUInt32).toInt32).toInt8.toInt32)), .val (.int (((p1.toUInt32 >>> ((16 : Int32) &&& 31).toUInt32).toInt32).toInt8.toInt32)), .val (.ref b28), .unset] [(.int (3 : Int32))])) _
      refine XS.iconst X31.here hx rfl (hb hby at_39) ?_
      show Steps p.tables e below (T31.setTop (mkF m 40 #[.val (.int p0), .val (.int p1), .val (.int (3 : Int32)), .val (.int (p1.toInt8.toInt32)), .val (.int (((p1.toUInt32 >>> ((8 : Int32) &&& 31).toUInt32).toInt32).toInt8.toInt32)), .val (.int (((p1.toUInt32 >>> ((16 : Int32) &&& 31).toUInt32).toInt32).toInt8.toInt32)), .val (.ref b28), .unset] [(.int (2 : Int32)), (.int (3 : Int32))])) _
      refine XS.icmpNo X31.here hx rfl (hb hby at_40) rfl (tlt (by decide)).2.2.2 ?_
      show Steps p.tables e below (T31.setTop (mkF m 43 #[.val (.int p0), .val (.int p1), .val (.int (3 : Int32)), .val (.int (p1.toInt8.toInt32)), .val (.int (((p1.toUInt32 >>> ((8 : Int32) &&& 31).toUInt32).toInt32).toInt8.toInt32)), .val (.int (((p1.toUInt32 >>> ((16 : Int32) &&& 31).toUInt32).toInt32).toInt8.toInt32)), .val (.ref b28), .unset] [])) _
      refine XS.aload X31.here hx rfl (hb hby at_43) rfl rfl ?_
      show Steps p.tables e below (T31.setTop (mkF m 45 #[.val (.int p0), .val (.int p1), .val (.int (3 : Int32)), .val (.int (p1.toInt8.toInt32)), .val (.int (((p1.toUInt32 >>> ((8 : Int32) &&& 31).toUInt32).toInt32).toInt8.toInt32)), .val (.int (((p1.toUInt32 >>> ((16 : Int32) &&& 31).toUInt32).toInt32).toInt8.toInt32)), .val (.ref b28), .unset] [(.ref b28)])) _
      refine XS.iconst X31.here hx rfl (hb hby at_45) ?_
      show Steps p.tables e below (T31.setTop (mkF m 46 #[.val (.int p0), .val (.int p1), .val (.int (3 : Int32)), .val (.int (p1.toInt8.toInt32)), .val (.int (((p1.toUInt32 >>> ((8 : Int32) &&& 31).toUInt32).toInt32).toInt8.toInt32)), .val (.int (((p1.toUInt32 >>> ((16 : Int32) &&& 31).toUInt32).toInt32).toInt8.toInt32)), .val (.ref b28), .unset] [(.int (1 : Int32)), (.ref b28)])) _
      refine XS.iload X31.here hx rfl (hb hby at_46) rfl ?_
      show Steps p.tables e below (T31.setTop (mkF m 48 #[.val (.int p0), .val (.int p1), .val (.int (3 : Int32)), .val (.int (p1.toInt8.toInt32)), .val (.int (((p1.toUInt32 >>> ((8 : Int32) &&& 31).toUInt32).toInt32).toInt8.toInt32)), .val (.int (((p1.toUInt32 >>> ((16 : Int32) &&& 31).toUInt32).toInt32).toInt8.toInt32)), .val (.ref b28), .unset] [(.int (((p1.toUInt32 >>> ((8 : Int32) &&& 31).toUInt32).toInt32).toInt8.toInt32)), (.int (1 : Int32)), (.ref b28)])) _
      refine st33 _ ?_
      show Steps p.tables e below (T33.setTop (mkF m 49 #[.val (.int p0), .val (.int p1), .val (.int (3 : Int32)), .val (.int (p1.toInt8.toInt32)), .val (.int (((p1.toUInt32 >>> ((8 : Int32) &&& 31).toUInt32).toInt32).toInt8.toInt32)), .val (.int (((p1.toUInt32 >>> ((16 : Int32) &&& 31).toUInt32).toInt32).toInt8.toInt32)), .val (.ref b28), .unset] [])) _
      refine XS.iloadN X33.here hx rfl (hb hby at_49) rfl ?_
      show Steps p.tables e below (T33.setTop (mkF m 50 #[.val (.int p0), .val (.int p1), .val (.int (3 : Int32)), .val (.int (p1.toInt8.toInt32)), .val (.int (((p1.toUInt32 >>> ((8 : Int32) &&& 31).toUInt32).toInt32).toInt8.toInt32)), .val (.int (((p1.toUInt32 >>> ((16 : Int32) &&& 31).toUInt32).toInt32).toInt8.toInt32)), .val (.ref b28), .unset] [(.int (3 : Int32))])) _
      refine XS.iconst X33.here hx rfl (hb hby at_50) ?_
      show Steps p.tables e below (T33.setTop (mkF m 51 #[.val (.int p0), .val (.int p1), .val (.int (3 : Int32)), .val (.int (p1.toInt8.toInt32)), .val (.int (((p1.toUInt32 >>> ((8 : Int32) &&& 31).toUInt32).toInt32).toInt8.toInt32)), .val (.int (((p1.toUInt32 >>> ((16 : Int32) &&& 31).toUInt32).toInt32).toInt8.toInt32)), .val (.ref b28), .unset] [(.int (3 : Int32)), (.int (3 : Int32))])) _
      refine XS.icmpYes X33.here hx rfl (pc0 := 51) (pc' := 60) rfl (hb hby at_51) rfl (flt (by decide)).2.2.2 (by decide) (by decide) ?_
      show Steps p.tables e below (T33.setTop (mkF m 60 #[.val (.int p0), .val (.int p1), .val (.int (3 : Int32)), .val (.int (p1.toInt8.toInt32)), .val (.int (((p1.toUInt32 >>> ((8 : Int32) &&& 31).toUInt32).toInt32).toInt8.toInt32)), .val (.int (((p1.toUInt32 >>> ((16 : Int32) &&& 31).toUInt32).toInt32).toInt8.toInt32)), .val (.ref b28), .unset] [])) _
      refine XS.aload X33.here hx rfl (hb hby at_60) rfl rfl ?_
      show Steps p.tables e below (T33.setTop (mkF m 62 #[.val (.int p0), .val (.int p1), .val (.int (3 : Int32)), .val (.int (p1.toInt8.toInt32)), .val (.int (((p1.toUInt32 >>> ((8 : Int32) &&& 31).toUInt32).toInt32).toInt8.toInt32)), .val (.int (((p1.toUInt32 >>> ((16 : Int32) &&& 31).toUInt32).toInt32).toInt8.toInt32)), .val (.ref b28), .unset] [(.ref b28)])) _
      refine st34 _ ?_
      show Steps p.tables e below (T34.setTop (mkF m 65 #[.val (.int p0), .val (.int p1), .val (.int (3 : Int32)), .val (.int (p1.toInt8.toInt32)), .val (.int (((p1.toUInt32 >>> ((8 : Int32) &&& 31).toUInt32).toInt32).toInt8.toInt32)), .val (.int (((p1.toUInt32 >>> ((16 : Int32) &&& 31).toUInt32).toInt32).toInt8.toInt32)), .val (.ref b28), .unset] [(.ref r34)])) _
      refine XS.astore X34.here hx rfl (hb hby at_65) rfl rfl (l' := #[.val (.int p0), .val (.int p1), .val (.int (3 : Int32)), .val (.int (p1.toInt8.toInt32)), .val (.int (((p1.toUInt32 >>> ((8 : Int32) &&& 31).toUInt32).toInt32).toInt8.toInt32)), .val (.int (((p1.toUInt32 >>> ((16 : Int32) &&& 31).toUInt32).toInt32).toInt8.toInt32)), .val (.ref b28), .val (.ref r34)]) rfl ?_
      show Steps p.tables e below (T34.setTop (mkF m 67 #[.val (.int p0), .val (.int p1), .val (.int (3 : Int32)), .val (.int (p1.toInt8.toInt32)), .val (.int (((p1.toUInt32 >>> ((8 : Int32) &&& 31).toUInt32).toInt32).toInt8.toInt32)), .val (.int (((p1.toUInt32 >>> ((16 : Int32) &&& 31).toUInt32).toInt32).toInt8.toInt32)), .val (.ref b28), .val (.ref r34)] [])) _
      refine XS.aload X34.here hx rfl (hb hby at_67) rfl rfl ?_
      show Steps p.tables e below (T34.setTop (mkF m 69 #[.val (.int p0), .val (.int p1), .val (.int (3 : Int32)), .val (.int (p1.toInt8.toInt32)), .val (.int (((p1.toUInt32 >>> ((8 : Int32) &&& 31).toUInt32).toInt32).toInt8.toInt32)), .val (.int (((p1.toUInt32 >>> ((16 : Int32) &&& 31).toUInt32).toInt32).toInt8.toInt32)), .val (.ref b28), .val (.ref r34)] [(.ref r34)])) _
      refine XS.ifnullNo X34.here hx rfl (hb hby at_69) rfl ?_
      show Steps p.tables e below (T34.setTop (mkF m 72 #[.val (.int p0), .val (.int p1), .val (.int (3 : Int32)), .val (.int (p1.toInt8.toInt32)), .val (.int (((p1.toUInt32 >>> ((8 : Int32) &&& 31).toUInt32).toInt32).toInt8.toInt32)), .val (.int (((p1.toUInt32 >>> ((16 : Int32) &&& 31).toUInt32).toInt32).toInt8.toInt32)), .val (.ref b28), .val (.ref r34)] [])) _
      refine XS.aload X34.here hx rfl (hb hby at_72) rfl rfl ?_
      show Steps p.tables e below (T34.setTop (mkF m 74 #[.val (.int p0), .val (.int p1), .val (.int (3 : Int32)), .val (.int (p1.toInt8.toInt32)), .val (.int (((p1.toUInt32 >>> ((8 : Int32) &&& 31).toUInt32).toInt32).toInt8.toInt32)), .val (.int (((p1.toUInt32 >>> ((16 : Int32) &&& 31).toUInt32).toInt32).toInt8.toInt32)), .val (.ref b28), .val (.ref r34)] [(.ref r34)])) _
      refine XS.aload X34.here hx rfl (hb hby at_74) rfl rfl ?_
      show Steps p.tables e below (T34.setTop (mkF m 76 #[.val (.int p0), .val (.int p1), .val (.int (3 : Int32)), .val (.int (p1.toInt8.toInt32)), .val (.int (((p1.toUInt32 >>> ((8 : Int32) &&& 31).toUInt32).toInt32).toInt8.toInt32)), .val (.int (((p1.toUInt32 >>> ((16 : Int32) &&& 31).toUInt32).toInt32).toInt8.toInt32)), .val (.ref b28), .val (.ref r34)] [(.ref b28), (.ref r34)])) _
      refine Jvm.RoadKit.acmp (g := (mkF m 76 #[.val (.int p0), .val (.int p1), .val (.int (3 : Int32)), .val (.int (p1.toInt8.toInt32)), .val (.int (((p1.toUInt32 >>> ((8 : Int32) &&& 31).toUInt32).toInt32).toInt8.toInt32)), .val (.int (((p1.toUInt32 >>> ((16 : Int32) &&& 31).toUInt32).toInt32).toInt8.toInt32)), .val (.ref b28), .val (.ref r34)] [(.ref b28), (.ref r34)])) X34 hx rfl rfl rfl (pc0 := 76) (pc' := 79) (same := false) rfl (hb hby at_76) rfl (decide_eq_false fun q => ne34 (Value.ref.inj q)) (by decide) (by decide) ?_
      show Steps p.tables e below (T34.setTop (mkF m 79 #[.val (.int p0), .val (.int p1), .val (.int (3 : Int32)), .val (.int (p1.toInt8.toInt32)), .val (.int (((p1.toUInt32 >>> ((8 : Int32) &&& 31).toUInt32).toInt32).toInt8.toInt32)), .val (.int (((p1.toUInt32 >>> ((16 : Int32) &&& 31).toUInt32).toInt32).toInt8.toInt32)), .val (.ref b28), .val (.ref r34)] [])) _
      refine XS.aload X34.here hx rfl (hb hby at_79) rfl rfl ?_
      show Steps p.tables e below (T34.setTop (mkF m 81 #[.val (.int p0), .val (.int p1), .val (.int (3 : Int32)), .val (.int (p1.toInt8.toInt32)), .val (.int (((p1.toUInt32 >>> ((8 : Int32) &&& 31).toUInt32).toInt32).toInt8.toInt32)), .val (.int (((p1.toUInt32 >>> ((16 : Int32) &&& 31).toUInt32).toInt32).toInt8.toInt32)), .val (.ref b28), .val (.ref r34)] [(.ref r34)])) _
      refine X34.arraylength hx (by exact Arr37.1) (State.isArrayOf_alike hZ.alike Arr37.2.1) (g := (mkF m 81 #[.val (.int p0), .val (.int p1), .val (.int (3 : Int32)), .val (.int (p1.toInt8.toInt32)), .val (.int (((p1.toUInt32 >>> ((8 : Int32) &&& 31).toUInt32).toInt32).toInt8.toInt32)), .val (.int (((p1.toUInt32 >>> ((16 : Int32) &&& 31).toUInt32).toInt32).toInt8.toInt32)), .val (.ref b28), .val (.ref r34)] [(.ref r34)])) rfl rfl (hb hby at_81) _ ?_
      rw [len_of Sr37 Mr37]
      show Steps p.tables e below (T34.setTop (mkF m 82 #[.val (.int p0), .val (.int p1), .val (.int (3 : Int32)), .val (.int (p1.toInt8.toInt32)), .val (.int (((p1.toUInt32 >>> ((8 : Int32) &&& 31).toUInt32).toInt32).toInt8.toInt32)), .val (.int (((p1.toUInt32 >>> ((16 : Int32) &&& 31).toUInt32).toInt32).toInt8.toInt32)), .val (.ref b28), .val (.ref r34)] [(.int (3 : Int32))])) _
      refine XS.iloadN X34.here hx rfl (hb hby at_82) rfl ?_
      show Steps p.tables e below (T34.setTop (mkF m 83 #[.val (.int p0), .val (.int p1), .val (.int (3 : Int32)), .val (.int (p1.toInt8.toInt32)), .val (.int (((p1.toUInt32 >>> ((8 : Int32) &&& 31).toUInt32).toInt32).toInt8.toInt32)), .val (.int (((p1.toUInt32 >>> ((16 : Int32) &&& 31).toUInt32).toInt32).toInt8.toInt32)), .val (.ref b28), .val (.ref r34)] [(.int (3 : Int32)), (.int (3 : Int32))])) _
      refine XS.icmpYes X34.here hx rfl (pc0 := 83) (pc' := 88) rfl (hb hby at_83) rfl (teq rfl).1 (by decide) (by decide) ?_
      show Steps p.tables e below (T34.setTop (mkF m 88 #[.val (.int p0), .val (.int p1), .val (.int (3 : Int32)), .val (.int (p1.toInt8.toInt32)), .val (.int (((p1.toUInt32 >>> ((8 : Int32) &&& 31).toUInt32).toInt32).toInt8.toInt32)), .val (.int (((p1.toUInt32 >>> ((16 : Int32) &&& 31).toUInt32).toInt32).toInt8.toInt32)), .val (.ref b28), .val (.ref r34)] [])) _
      refine XS.aload X34.here hx rfl (hb hby at_88) rfl rfl ?_
      show Steps p.tables e below (T34.setTop (mkF m 90 #[.val (.int p0), .val (.int p1), .val (.int (3 : Int32)), .val (.int (p1.toInt8.toInt32)), .val (.int (((p1.toUInt32 >>> ((8 : Int32) &&& 31).toUInt32).toInt32).toInt8.toInt32)), .val (.int (((p1.toUInt32 >>> ((16 : Int32) &&& 31).toUInt32).toInt32).toInt8.toInt32)), .val (.ref b28), .val (.ref r34)] [(.ref b28)])) _
      refine XS.iloadN X34.here hx rfl (hb hby at_90) rfl ?_
      show Steps p.tables e below (T34.setTop (mkF m 91 #[.val (.int p0), .val (.int p1), .val (.int (3 : Int32)), .val (.int (p1.toInt8.toInt32)), .val (.int (((p1.toUInt32 >>> ((8 : Int32) &&& 31).toUInt32).toInt32).toInt8.toInt32)), .val (.int (((p1.toUInt32 >>> ((16 : Int32) &&& 31).toUInt32).toInt32).toInt8.toInt32)), .val (.ref b28), .val (.ref r34)] [(.int (3 : Int32)), (.ref b28)])) _
      refine XS.iloadN X34.here hx rfl (hb hby at_91) rfl ?_
      show Steps p.tables e below (T34.setTop (mkF m 92 #[.val (.int p0), .val (.int p1), .val (.int (3 : Int32)), .val (.int (p1.toInt8.toInt32)), .val (.int (((p1.toUInt32 >>> ((8 : Int32) &&& 31).toUInt32).toInt32).toInt8.toInt32)), .val (.int (((p1.toUInt32 >>> ((16 : Int32) &&& 31).toUInt32).toInt32).toInt8.toInt32)), .val (.ref b28), .val (.ref r34)] [(.int (p1.toInt8.toInt32)), (.int (3 : Int32)), (.ref b28)])) _
      refine XS.iload X34.here hx rfl (hb hby at_92) rfl ?_
      show Steps p.tables e below (T34.setTop (mkF m 94 #[.val (.int p0), .val (.int p1), .val (.int (3 : Int32)), .val (.int (p1.toInt8.toInt32)), .val (.int (((p1.toUInt32 >>> ((8 : Int32) &&& 31).toUInt32).toInt32).toInt8.toInt32)), .val (.int (((p1.toUInt32 >>> ((16 : Int32) &&& 31).toUInt32).toInt32).toInt8.toInt32)), .val (.ref b28), .val (.ref r34)] [(.int (((p1.toUInt32 >>> ((8 : Int32) &&& 31).toUInt32).toInt32).toInt8.toInt32)), (.int (p1.toInt8.toInt32)), (.int (3 : Int32)), (.ref b28)])) _
      refine XS.iload X34.here hx rfl (hb hby at_94) rfl ?_
      show Steps p.tables e below (T34.setTop (mkF m 96 #[.val (.int p0), .val (.int p1), .val (.int (3 : Int32)), .val (.int (p1.toInt8.toInt32)), .val (.int (((p1.toUInt32 >>> ((8 : Int32) &&& 31).toUInt32).toInt32).toInt8.toInt32)), .val (.int (((p1.toUInt32 >>> ((16 : Int32) &&& 31).toUInt32).toInt32).toInt8.toInt32)), .val (.ref b28), .val (.ref r34)] [(.int (((p1.toUInt32 >>> ((16 : Int32) &&& 31).toUInt32).toInt32).toInt8.toInt32)), (.int (((p1.toUInt32 >>> ((8 : Int32) &&& 31).toUInt32).toInt32).toInt8.toInt32)), (.int (p1.toInt8.toInt32)), (.int (3 : Int32)), (.ref b28)])) _
      refine XS.iconst X34.here hx rfl (hb hby at_96) ?_
      show Steps p.tables e below (T34.setTop (mkF m 97 #[.val (.int p0), .val (.int p1), .val (.int (3 : Int32)), .val (.int (p1.toInt8.toInt32)), .val (.int (((p1.toUInt32 >>> ((8 : Int32) &&& 31).toUInt32).toInt32).toInt8.toInt32)), .val (.int (((p1.toUInt32 >>> ((16 : Int32) &&& 31).toUInt32).toInt32).toInt8.toInt32)), .val (.ref b28), .val (.ref r34)] [(.int (0 : Int32)), (.int (((p1.toUInt32 >>> ((16 : Int32) &&& 31).toUInt32).toInt32).toInt8.toInt32)), (.int (((p1.toUInt32 >>> ((8 : Int32) &&& 31).toUInt32).toInt32).toInt8.toInt32)), (.int (p1.toInt8.toInt32)), (.int (3 : Int32)), (.ref b28)])) _
      refine st38 _ ?_
      show Steps p.tables e below (T38.setTop (mkF m 100 #[.val (.int p0), .val (.int p1), .val (.int (3 : Int32)), .val (.int (p1.toInt8.toInt32)), .val (.int (((p1.toUInt32 >>> ((8 : Int32) &&& 31).toUInt32).toInt32).toInt8.toInt32)), .val (.int (((p1.toUInt32 >>> ((16 : Int32) &&& 31).toUInt32).toInt32).toInt8.toInt32)), .val (.ref b28), .val (.ref r34)] [(.int (1 : Int32))])) _
      refine XS.ifYes X38.here hx rfl (pc0 := 100) (pc' := 105) rfl (hb hby at_100) rfl ((if0 _ _).trans (feq (by decide)).2) (by decide) (by decide) ?_
      show Steps p.tables e below (T38.setTop (mkF m 105 #[.val (.int p0), .val (.int p1), .val (.int (3 : Int32)), .val (.int (p1.toInt8.toInt32)), .val (.int (((p1.toUInt32 >>> ((8 : Int32) &&& 31).toUInt32).toInt32).toInt8.toInt32)), .val (.int (((p1.toUInt32 >>> ((16 : Int32) &&& 31).toUInt32).toInt32).toInt8.toInt32)), .val (.ref b28), .val (.ref r34)] [])) _
      refine XS.aload X38.here hx rfl (hb hby at_105) rfl rfl ?_
      show Steps p.tables e below (T38.setTop (mkF m 107 #[.val (.int p0), .val (.int p1), .val (.int (3 : Int32)), .val (.int (p1.toInt8.toInt32)), .val (.int (((p1.toUInt32 >>> ((8 : Int32) &&& 31).toUInt32).toInt32).toInt8.toInt32)), .val (.int (((p1.toUInt32 >>> ((16 : Int32) &&& 31).toUInt32).toInt32).toInt8.toInt32)), .val (.ref b28), .val (.ref r34)] [(.ref r34)])) _
      refine XS.iloadN X38.here hx rfl (hb hby at_107) rfl ?_
      show Steps p.tables e below (T38.setTop (mkF m 108 #[.val (.int p0), .val (.int p1), .val (.int (3 : Int32)), .val (.int (p1.toInt8.toInt32)), .val (.int (((p1.toUInt32 >>> ((8 : Int32) &&& 31).toUInt32).toInt32).toInt8.toInt32)), .val (.int (((p1.toUInt32 >>> ((16 : Int32) &&& 31).toUInt32).toInt32).toInt8.toInt32)), .val (.ref b28), .val (.ref r34)] [(.int (3 : Int32)), (.ref r34)])) _
      refine XS.iloadN X38.here hx rfl (hb hby at_108) rfl ?_
      show Steps p.tables e below (T38.setTop (mkF m 109 #[.val (.int p0), .val (.int p1), .val (.int (3 : Int32)), .val (.int (p1.toInt8.toInt32)), .val (.int (((p1.toUInt32 >>> ((8 : Int32) &&& 31).toUInt32).toInt32).toInt8.toInt32)), .val (.int (((p1.toUInt32 >>> ((16 : Int32) &&& 31).toUInt32).toInt32).toInt8.toInt32)), .val (.ref b28), .val (.ref r34)] [(.int (p1.toInt8.toInt32)), (.int (3 : Int32)), (.ref r34)])) _
      refine XS.iload X38.here hx rfl (hb hby at_109) rfl ?_
      show Steps p.tables e below (T38.setTop (mkF m 111 #[.val (.int p0), .val (.int p1), .val (.int (3 : Int32)), .val (.int (p1.toInt8.toInt32)), .val (.int (((p1.toUInt32 >>> ((8 : Int32) &&& 31).toUInt32).toInt32).toInt8.toInt32)), .val (.int (((p1.toUInt32 >>> ((16 : Int32) &&& 31).toUInt32).toInt32).toInt8.toInt32)), .val (.ref b28), .val (.ref r34)] [(.int (((p1.toUInt32 >>> ((8 : Int32) &&& 31).toUInt32).toInt32).toInt8.toInt32)), (.int (p1.toInt8.toInt32)), (.int (3 : Int32)), (.ref r34)])) _
      refine XS.iload X38.here hx rfl (hb hby at_111) rfl ?_
      show Steps p.tables e below (T38.setTop (mkF m 113 #[.val (.int p0), .val (.int p1), .val (.int (3 : Int32)), .val (.int (p1.toInt8.toInt32)), .val (.int (((p1.toUInt32 >>> ((8 : Int32) &&& 31).toUInt32).toInt32).toInt8.toInt32)), .val (.int (((p1.toUInt32 >>> ((16 : Int32) &&& 31).toUInt32).toInt32).toInt8.toInt32)), .val (.ref b28), .val (.ref r34)] [(.int (((p1.toUInt32 >>> ((16 : Int32) &&& 31).toUInt32).toInt32).toInt8.toInt32)), (.int (((p1.toUInt32 >>> ((8 : Int32) &&& 31).toUInt32).toInt32).toInt8.toInt32)), (.int (p1.toInt8.toInt32)), (.int (3 : Int32)), (.ref r34)])) _
      refine XS.iconst X38.here hx rfl (hb hby at_113) ?_
      show Steps p.tables e below (T38.setTop (mkF m 114 #[.val (.int p0), .val (.int p1), .val (.int (3 : Int32)), .val (.int (p1.toInt8.toInt32)), .val (.int (((p1.toUInt32 >>> ((8 : Int32) &&& 31).toUInt32).toInt32).toInt8.toInt32)), .val (.int (((p1.toUInt32 >>> ((16 : Int32) &&& 31).toUInt32).toInt32).toInt8.toInt32)), .val (.ref b28), .val (.ref r34)] [(.int (1 : Int32)), (.int (((p1.toUInt32 >>> ((16 : Int32) &&& 31).toUInt32).toInt32).toInt8.toInt32)), (.int (((p1.toUInt32 >>> ((8 : Int32) &&& 31).toUInt32).toInt32).toInt8.toInt32)), (.int (p1.toInt8.toInt32)), (.int (3 : Int32)), (.ref r34)])) _
      refine st41 _ ?_
      show Steps p.tables e below (T41.setTop (mkF m 117 #[.val (.int p0), .val (.int p1), .val (.int (3 : Int32)), .val (.int (p1.toInt8.toInt32)), .val (.int (((p1.toUInt32 >>> ((8 : Int32) &&& 31).toUInt32).toInt32).toInt8.toInt32)), .val (.int (((p1.toUInt32 >>> ((16 : Int32) &&& 31).toUInt32).toInt32).toInt8.toInt32)), .val (.ref b28), .val (.ref r34)] [(.int (1 : Int32))])) _
      exact q)
    obtain ⟨fs, hr, hrun, hended, hW, hsame⟩ := X41.leave (v := some (.int (1 : Int32))) (fun h => by rw [Bd.returns] at h; cases h)
    refine ⟨_, _, k0 _ (k42 _ ?_), hrun, hended, _, _, rfl, ?_, ⟨_, rfl⟩, hW, hsame.mono (by decide) (by decide)⟩
    · show Steps p.tables e below (T41.setTop (mkF m 117 #[.val (.int p0), .val (.int p1), .val (.int (3 : Int32)), .val (.int (p1.toInt8.toInt32)), .val (.int (((p1.toUInt32 >>> ((8 : Int32) &&& 31).toUInt32).toInt32).toInt8.toInt32)), .val (.int (((p1.toUInt32 >>> ((16 : Int32) &&& 31).toUInt32).toInt32).toInt8.toInt32)), .val (.ref b28), .val (.ref r34)] [(.int (1 : Int32))])) _
      exact retN X41 hx (t := .boolean) Bd.returns (by simp) (hb hby at_117) hr
    · show Q0 Z p0 p1 h0 n0 _ T41.heap _
      rw [e41]
      exact ⟨rfl, N41⟩
  ·
    have k43 : own_To p e below s₁ (mkF m 6 #[.val (.int p0), .val (.int p1), .val (.int (4 : Int32)), .unset, .unset, .unset, .unset, .unset] []) s₁ (mkF m 0 #[.val (.int p0), .val (.int p1), .unset, .unset, .unset, .unset, .unset, .unset] []) := by rw [hn] at k1; exact k1
    obtain ⟨T44, h44, kk44, X44, e44, E44, A44, EA44, st44⟩ := newPE X0 hx hZ (hw _ (List.mem_of_getElem? (i := 0) rfl)) e0 (g := (mkF m 24 #[.val (.int p0), .val (.int p1), .val (.int (4 : Int32)), .val (.int (p1.toInt8.toInt32)), .val (.int (((p1.toUInt32 >>> ((8 : Int32) &&& 31).toUInt32).toInt32).toInt8.toInt32)), .val (.int (((p1.toUInt32 >>> ((16 : Int32) &&& 31).toUInt32).toInt32).toInt8.toInt32)), .unset, .unset] [(.int (4 : Int32))])) rfl (hb hby at_24) rfl (by decide) (cap := 4) (by decide) (by decide) (by decide) (by decide) (ad := "[B") rfl
    obtain ⟨b44, g44⟩ : ∃ z, z = h0.size := ⟨_, rfl⟩
    rw [← g44] at A44 EA44 st44
    have ge_b44 : n0 ≤ b44 := Nat.le_trans Z0 (Nat.le_of_eq g44.symm)
    have K45 : Keep h0 h0 [] := (Keep.refl h0 [])
    have sz_b44 : h0.size ≤ b44 := Nat.le_trans K45.1 (Nat.le_of_eq g44.symm)
    have V44 : Arv Z h44 b44 kk44 .byte (4 : Int32) [(.int (0 : Int32)), (.int (0 : Int32)), (.int (0 : Int32)), (.int (0 : Int32))] (.int (0 : Int32)) := (Arv.new A44 (by decide)).pad (pad_rep [] (.int (0 : Int32)) 4)
    obtain ⟨clr46, Arr46, qr46, Sr46, Mr46, Hhr46, Gr46⟩ := id V44
    have hinr46 : ¬ ((0 : Int32) < 0 ∨ clr46.slots.size ≤ ((0 : Int32)).toNatClampNeg) := inb_of Sr46 ⟨by decide, by decide⟩
    obtain ⟨T47, h47, X47, e47, W47, st47⟩ := stB X44 hx hZ e44 Arr46 (j := (0 : Int32)) hinr46 (g := (mkF m 37 #[.val (.int p0), .val (.int p1), .val (.int (4 : Int32)), .val (.int (p1.toInt8.toInt32)), .val (.int (((p1.toUInt32 >>> ((8 : Int32) &&& 31).toUInt32).toInt32).toInt8.toInt32)), .val (.int (((p1.toUInt32 >>> ((16 : Int32) &&& 31).toUInt32).toInt32).toInt8.toInt32)), .val (.ref b44), .unset] [(.int (p1.toInt8.toInt32)), (.int (0 : Int32)), (.ref b44)])) rfl rfl (hb hby at_37)
    have N47 := Fr.snoc X47 N0 ge_b44
    have V47 : Arv Z h47 b44 kk44 .byte (4 : Int32) [(.int (p1.toInt8.toInt32)), (.int (0 : Int32)), (.int (0 : Int32)), (.int (0 : Int32))] (.int (0 : Int32)) := by
      have q := Arv.set Arr46 qr46 Sr46 Mr46 Hhr46 Gr46 (fits_nar_byte _) W47 0 rfl (Nat.le_of_ble_eq_true rfl)
      rw [own_nar] at q; exact q
    obtain ⟨clr48, Arr48, qr48, Sr48, Mr48, Hhr48, Gr48⟩ := id V47
    have hinr48 : ¬ ((1 : Int32) < 0 ∨ clr48.slots.size ≤ ((1 : Int32)).toNatClampNeg) := inb_of Sr48 ⟨by decide, by decide⟩
    obtain ⟨T49, h49, X49, e49, W49, st49⟩ := stB X47 hx hZ e47 Arr48 (j := (1 : Int32)) hinr48 (g := (mkF m 48 #[.val (.int p0), .val (.int p1), .val (.int (4 : Int32)), .val (.int (p1.toInt8.toInt32)), .val (.int (((p1.toUInt32 >>> ((8 : Int32) &&& 31).toUInt32).toInt32).toInt8.toInt32)), .val (.int (((p1.toUInt32 >>> ((16 : Int32) &&& 31).toUInt32).toInt32).toInt8.toInt32)), .val (.ref b44), .unset] [(.int (((p1.toUInt32 >>> ((8 : Int32) &&& 31).toUInt32).toInt32).toInt8.toInt32)), (.int (1 : Int32)), (.ref b44)])) rfl rfl (hb hby at_48)
    have N49 := Fr.snoc X49 N47 ge_b44
    have V49 : Arv Z h49 b44 kk44 .byte (4 : Int32) [(.int (p1.toInt8.toInt32)), (.int (((p1.toUInt32 >>> ((8 : Int32) &&& 31).toUInt32).toInt32).toInt8.toInt32)), (.int (0 : Int32)), (.int (0 : Int32))] (.int (0 : Int32)) := by
      have q := Arv.set Arr48 qr48 Sr48 Mr48 Hhr48 Gr48 (fits_nar_byte _) W49 1 rfl (Nat.le_of_ble_eq_true rfl)
      rw [own_nar] at q; exact q
    obtain ⟨clr50, Arr50, qr50, Sr50, Mr50, Hhr50, Gr50⟩ := id V49
    have hinr50 : ¬ ((2 : Int32) < 0 ∨ clr50.slots.size ≤ ((2 : Int32)).toNatClampNeg) := inb_of Sr50 ⟨by decide, by decide⟩
    obtain ⟨T51, h51, X51, e51, W51, st51⟩ := stB X49 hx hZ e49 Arr50 (j := (2 : Int32)) hinr50 (g := (mkF m 59 #[.val (.int p0), .val (.int p1), .val (.int (4 : Int32)), .val (.int (p1.toInt8.toInt32)), .val (.int (((p1.toUInt32 >>> ((8 : Int32) &&& 31).toUInt32).toInt32).toInt8.toInt32)), .val (.int (((p1.toUInt32 >>> ((16 : Int32) &&& 31).toUInt32).toInt32).toInt8.toInt32)), .val (.ref b44), .unset] [(.int (((p1.toUInt32 >>> ((16 : Int32) &&& 31).toUInt32).toInt32).toInt8.toInt32)), (.int (2 : Int32)), (.ref b44)])) rfl rfl (hb hby at_59)
    have N51 := Fr.snoc X51 N49 ge_b44
    have V51 : Arv Z h51 b44 kk44 .byte (4 : Int32) [(.int (p1.toInt8.toInt32)), (.int (((p1.toUInt32 >>> ((8 : Int32) &&& 31).toUInt32).toInt32).toInt8.toInt32)), (.int (((p1.toUInt32 >>> ((16 : Int32) &&& 31).toUInt32).toInt32).toInt8.toInt32)), (.int (0 : Int32))] (.int (0 : Int32)) := by
      have q := Arv.set Arr50 qr50 Sr50 Mr50 Hhr50 Gr50 (fits_nar_byte _) W51 2 rfl (Nat.le_of_ble_eq_true rfl)
      rw [own_nar] at q; exact q
    have K53 : Keep h0 h51 [] := ((((K45.ext E44).wr W47 (Or.inr sz_b44)).wr W49 (Or.inr sz_b44)).wr W51 (Or.inr sz_b44))
    have F54 := (((EA44.wr W47).wr W49).wr W51)
    obtain ⟨_, _, ⟨T52, L52, kk52, n52⟩, -, X52, ⟨Lc52, hQ52, l52, y52, z52⟩, st52⟩ := Jvm.LawKit.callS X51 hx (y := (⟨"com/example/feeddb/feeddb/core/Keys", "pastNamePrefix", "([B)[B"⟩ : MethodName)) hown (mvT hZ (hw _ (List.mem_of_getElem? (i := 1) rfl))) (mvT hZ (hw _ (List.mem_of_getElem? (i := 2) rfl))) (mvT hZ (hw _ (List.mem_of_getElem? (i := 3) rfl))) (mvT hZ (hw _ (List.mem_of_getElem? (i := 4) rfl))) (by decide) (backOf (W := 0) (rm1 l Z a0 hw [] b44 kk44 (4 : Int32) [(.int (p1.toInt8.toInt32)), (.int (((p1.toUInt32 >>> ((8 : Int32) &&& 31).toUInt32).toInt32).toInt8.toInt32)), (.int (((p1.toUInt32 >>> ((16 : Int32) &&& 31).toUInt32).toInt32).toInt8.toInt32)), (.int (0 : Int32))] h51 n0 (Nat.le_trans Z0 K53.1) V51 F54 (by decide) (by decide) (Nat.le_of_ble_eq_true rfl)) hZ (hw _ (List.mem_of_getElem? (i := 4) rfl)) (hw _ (List.mem_of_getElem? (i := 3) rfl)) (by decide) (by decide)) (g := (mkF m 62 #[.val (.int p0), .val (.int p1), .val (.int (4 : Int32)), .val (.int (p1.toInt8.toInt32)), .val (.int (((p1.toUInt32 >>> ((8 : Int32) &&& 31).toUInt32).toInt32).toInt8.toInt32)), .val (.int (((p1.toUInt32 >>> ((16 : Int32) &&& 31).toUInt32).toInt32).toInt8.toInt32)), .val (.ref b44), .unset] [(.ref b44)])) rfl (by rw [hml]; rfl) (argsL := [(.ref b44)]) (rest := []) (lenOf own_pd1 rfl) rfl (by show 2 * 0 + _ ≤ _; exact Nat.le_of_eq rfl) (hb hby at_62) (fun _ _ => ⟨rfl, e51, (by decide : 1 + 1 ≤ _), (by decide : 4 + 4 ≤ _)⟩)
    dsimp only [Pt.U, Pt.locs, Pt.cells, Pt.slots] at X52 l52 y52 z52 st52 hQ52
    subst l52 y52 z52
    obtain ⟨r52, rfl, N52q, K52, ne52, ge_r52, V52⟩ := hQ52
    have N52 := Fr.app N51 N52q
    have W52 : Arv Z T52.heap r52 kk44 .byte (4 : Int32) [(.int (p1.toInt8.toInt32)), (.int (((p1.toUInt32 >>> ((8 : Int32) &&& 31).toUInt32).toInt32).toInt8.toInt32)), (.int (((p1.toUInt32 >>> ((16 : Int32) &&& 31).toUInt32).toInt32).toInt8.toInt32)), (.int (1 : Int32))] (.int (0 : Int32)) := V52
    obtain ⟨clr55, Arr55, qr55, Sr55, Mr55, Hhr55, Gr55⟩ := id W52
    have K57 : Keep h0 T52.heap [] := (K53.trans K52 all0)
    have F58 := (V51.keep K52 nin0)
    obtain ⟨_, _, ⟨T56, L56, kk56, n56⟩, -, X56, ⟨Lc56, hQ56, l56, y56, z56⟩, st56⟩ := Jvm.LawKit.callS X52 hx (y := (⟨"com/example/feeddb/feeddb/core/KeysPastNamePrefixPinLaw", "same", "([BIBBBB)Z"⟩ : MethodName)) hown (mvT hZ (hw _ (List.mem_of_getElem? (i := 14) rfl))) (mvT hZ (hw _ (List.mem_of_getElem? (i := 15) rfl))) (mvT hZ (hw _ (List.mem_of_getElem? (i := 16) rfl))) (mvT hZ (hw _ (List.mem_of_getElem? (i := 17) rfl))) (by decide) (backOf (W := 0) (rmsame4 l Z a0 hw [] b44 (p1.toInt8.toInt32) (((p1.toUInt32 >>> ((8 : Int32) &&& 31).toUInt32).toInt32).toInt8.toInt32) (((p1.toUInt32 >>> ((16 : Int32) &&& 31).toUInt32).toInt32).toInt8.toInt32) (0 : Int32) kk44 T52.heap n0 (Nat.le_trans Z0 K57.1) F58) hZ (hw _ (List.mem_of_getElem? (i := 17) rfl)) (hw _ (List.mem_of_getElem? (i := 16) rfl)) (by decide) (by decide)) (g := (mkF m 97 #[.val (.int p0), .val (.int p1), .val (.int (4 : Int32)), .val (.int (p1.toInt8.toInt32)), .val (.int (((p1.toUInt32 >>> ((8 : Int32) &&& 31).toUInt32).toInt32).toInt8.toInt32)), .val (.int (((p1.toUInt32 >>> ((16 : Int32) &&& 31).toUInt32).toInt32).toInt8.toInt32)), .val (.ref b44), .val (.ref r52)] [(.int (0 : Int32)), (.int (((p1.toUInt32 >>> ((16 : Int32) &&& 31).toUInt32).toInt32).toInt8.toInt32)), (.int (((p1.toUInt32 >>> ((8 : Int32) &&& 31).toUInt32).toInt32).toInt8.toInt32)), (.int (p1.toInt8.toInt32)), (.int (4 : Int32)), (.ref b44)])) rfl (by rw [hml]; rfl) (argsL := [(.ref b44), (.int (4 : Int32)), (.int (p1.toInt8.toInt32)), (.int (((p1.toUInt32 >>> ((8 : Int32) &&& 31).toUInt32).toInt32).toInt8.toInt32)), (.int (((p1.toUInt32 >>> ((16 : Int32) &&& 31).toUInt32).toInt32).toInt8.toInt32)), (.int (0 : Int32))]) (rest := []) (lenOf own_pd2 rfl) rfl (by show 2 * 0 + _ ≤ _; exact Nat.le_of_eq rfl) (hb hby at_97) (fun _ _ => ⟨rfl, rfl, (by decide : 2 + 0 ≤ _), (by decide : 8 + 0 ≤ _)⟩)
    dsimp only [Pt.U, Pt.locs, Pt.cells, Pt.slots] at X56 l56 y56 z56 st56 hQ56
    subst l56 y56 z56
    obtain ⟨rfl, N56q, e56⟩ := hQ56
    have N56 := Fr.app N52 N56q
    obtain ⟨_, _, ⟨T59, L59, kk59, n59⟩, -, X59, ⟨Lc59, hQ59, l59, y59, z59⟩, st59⟩ := Jvm.LawKit.callS X56 hx (y := (⟨"com/example/feeddb/feeddb/core/KeysPastNamePrefixPinLaw", "same", "([BIBBBB)Z"⟩ : MethodName)) hown (mvT hZ (hw _ (List.mem_of_getElem? (i := 14) rfl))) (mvT hZ (hw _ (List.mem_of_getElem? (i := 15) rfl))) (mvT hZ (hw _ (List.mem_of_getElem? (i := 16) rfl))) (mvT hZ (hw _ (List.mem_of_getElem? (i := 17) rfl))) (by decide) (backOf (W := 0) (rmsame4 l Z a0 hw [] r52 (p1.toInt8.toInt32) (((p1.toUInt32 >>> ((8 : Int32) &&& 31).toUInt32).toInt32).toInt8.toInt32) (((p1.toUInt32 >>> ((16 : Int32) &&& 31).toUInt32).toInt32).toInt8.toInt32) (1 : Int32) kk44 T52.heap n0 (Nat.le_trans Z0 K57.1) W52) hZ (hw _ (List.mem_of_getElem? (i := 17) rfl)) (hw _ (List.mem_of_getElem? (i := 16) rfl)) (by decide) (by decide)) (g := (mkF m 114 #[.val (.int p0), .val (.int p1), .val (.int (4 : Int32)), .val (.int (p1.toInt8.toInt32)), .val (.int (((p1.toUInt32 >>> ((8 : Int32) &&& 31).toUInt32).toInt32).toInt8.toInt32)), .val (.int (((p1.toUInt32 >>> ((16 : Int32) &&& 31).toUInt32).toInt32).toInt8.toInt32)), .val (.ref b44), .val (.ref r52)] [(.int (1 : Int32)), (.int (((p1.toUInt32 >>> ((16 : Int32) &&& 31).toUInt32).toInt32).toInt8.toInt32)), (.int (((p1.toUInt32 >>> ((8 : Int32) &&& 31).toUInt32).toInt32).toInt8.toInt32)), (.int (p1.toInt8.toInt32)), (.int (4 : Int32)), (.ref r52)])) rfl (by rw [hml]; rfl) (argsL := [(.ref r52), (.int (4 : Int32)), (.int (p1.toInt8.toInt32)), (.int (((p1.toUInt32 >>> ((8 : Int32) &&& 31).toUInt32).toInt32).toInt8.toInt32)), (.int (((p1.toUInt32 >>> ((16 : Int32) &&& 31).toUInt32).toInt32).toInt8.toInt32)), (.int (1 : Int32))]) (rest := []) (lenOf own_pd2 rfl) rfl (by show 2 * 0 + _ ≤ _; exact Nat.le_of_eq rfl) (hb hby at_114) (fun _ _ => ⟨rfl, e56, (by decide : 2 + 0 ≤ _), (by decide : 8 + 0 ≤ _)⟩)
    dsimp only [Pt.U, Pt.locs, Pt.cells, Pt.slots] at X59 l59 y59 z59 st59 hQ59
    subst l59 y59 z59
    obtain ⟨rfl, N59q, e59⟩ := hQ59
    have N59 := Fr.app N56 N59q
    have k60 : own_To p e below T59 (mkF m 117 #[.val (.int p0), .val (.int p1), .val (.int (4 : Int32)), .val (.int (p1.toInt8.toInt32)), .val (.int (((p1.toUInt32 >>> ((8 : Int32) &&& 31).toUInt32).toInt32).toInt8.toInt32)), .val (.int (((p1.toUInt32 >>> ((16 : Int32) &&& 31).toUInt32).toInt32).toInt8.toInt32)), .val (.ref b44), .val (.ref r52)] [(.int (1 : Int32))]) s₁ (mkF m 0 #[.val (.int p0), .val (.int p1), .unset, .unset, .unset, .unset, .unset, .unset] []) := fun t q => k43 t (by
      refine XS.iloadN X0.here hx rfl (hb hby at_6) rfl ?_
      show Steps p.tables e below (s₁.setTop (mkF m 7 #[.val (.int p0), .val (.int p1), .val (.int (4 : Int32)), .unset, .unset, .unset, .unset, .unset] [(.int p1)])) _
      refine XS.i2b X0.here hx rfl (hb hby at_7) rfl ?_
      show Steps p.tables e below (s₁.setTop (mkF m 8 #[.val (.int p0), .val (.int p1), .val (.int (4 : Int32)), .unset, .unset, .unset, .unset, .unset] [(.int (p1.toInt8.toInt32))])) _
      refine XS.istoreN X0.here hx rfl (hb hby at_8) rfl (l' := #[.val (.int p0), .val (.int p1), .val (.int (4 : Int32)), .val (.int (p1.toInt8.toInt32)), .unset, .unset, .unset, .unset]) rfl ?_
      show Steps p.tables e below (s₁.setTop (mkF m 9 #[.val (.int p0), .val (.int p1), .val (.int (4 : Int32)), .val (.int (p1.toInt8.toInt32)), .unset, .unset, .unset, .unset] [])) _
      refine XS.iloadN X0.here hx rfl (hb hby at_9) rfl ?_
      show Steps p.tables e below (s₁.setTop (mkF m 10 #[.val (.int p0), .val (.int p1), .val (.int (4 : Int32)), .val (.int (p1.toInt8.toInt32)), .unset, .unset, .unset, .unset] [(.int p1)])) _
      refine XS.bipush X0.here hx rfl (hb hby at_10) ?_
      show Steps p.tables e below (s₁.setTop (mkF m 12 #[.val (.int p0), .val (.int p1), .val (.int (4 : Int32)), .val (.int (p1.toInt8.toInt32)), .unset, .unset, .unset, .unset] [(.int (8 : Int32)), (.int p1)])) _
      refine XS.iushr X0.here hx rfl (hb hby at_12) rfl ?_
      show Steps p.tables e below (s₁.setTop (mkF m 13 #[.val (.int p0), .val (.int p1), .val (.int (4 : Int32)), .val (.int (p1.toInt8.toInt32)), .unset, .unset, .unset, .unset] [(.int ((p1.toUInt32 >>> ((8 : Int32) &&& 31).toUInt32).toInt32))])) _
      refine XS.i2b X0.here hx rfl (hb hby at_13) rfl ?_
      show Steps p.tables e below (s₁.setTop (mkF m 14 #[.val (.int p0), .val (.int p1), .val (.int (4 : Int32)), .val (.int (p1.toInt8.toInt32)), .unset, .unset, .unset, .unset] [(.int (((p1.toUInt32 >>> ((8 : Int32) &&& 31).toUInt32).toInt32).toInt8.toInt32))])) _
      refine XS.istore X0.here hx rfl (hb hby at_14) rfl (l' := #[.val (.int p0), .val (.int p1), .val (.int (4 : Int32)), .val (.int (p1.toInt8.toInt32)), .val (.int (((p1.toUInt32 >>> ((8 : Int32) &&& 31).toUInt32).toInt32).toInt8.toInt32)), .unset, .unset, .unset]) rfl ?_
      show Steps p.tables e below (s₁.setTop (mkF m 16 #[.val (.int p0), .val (.int p1), .val (.int (4 : Int32)), .val (.int (p1.toInt8.toInt32)), .val (.int (((p1.toUInt32 >>> ((8 : Int32) &&& 31).toUInt32).toInt32).toInt8.toInt32)), .unset, .unset, .unset] [])) _
      refine XS.iloadN X0.here hx rfl (hb hby at_16) rfl ?_
      show Steps p.tables e below (s₁.setTop (mkF m 17 #[.val (.int p0), .val (.int p1), .val (.int (4 : Int32)), .val (.int (p1.toInt8.toInt32)), .val (.int (((p1.toUInt32 >>> ((8 : Int32) &&& 31).toUInt32).toInt32).toInt8.toInt32)), .unset, .unset, .unset] [(.int p1)])) _
      refine XS.bipush X0.here hx rfl (hb hby at_17) ?_
      show Steps p.tables e below (s₁.setTop (mkF m 19 #[.val (.int p0), .val (.int p1), .val (.int (4 : Int32)), .val (.int (p1.toInt8.toInt32)), .val (.int (((p1.toUInt32 >>> ((8 : Int32) &&& 31).toUInt32).toInt32).toInt8.toInt32)), .unset, .unset, .unset] [(.int (16 : Int32)), (.int p1)])) _
      refine XS.iushr X0.here hx rfl (hb hby at_19) rfl ?_
      show Steps p.tables e below (s₁.setTop (mkF m 20 #[.val (.int p0), .val (.int p1), .val (.int (4 : Int32)), .val (.int (p1.toInt8.toInt32)), .val (.int (((p1.toUInt32 >>> ((8 : Int32) &&& 31).toUInt32).toInt32).toInt8.toInt32)), .unset, .unset, .unset] [(.int ((p1.toUInt32 >>> ((16 : Int32) &&& 31).toUInt32).toInt32))])) _
      refine XS.i2b X0.here hx rfl (hb hby at_20) rfl ?_
      show Steps p.tables e below (s₁.setTop (mkF m 21 #[.val (.int p0), .val (.int p1), .val (.int (4 : Int32)), .val (.int (p1.toInt8.toInt32)), .val (.int (((p1.toUInt32 >>> ((8 : Int32) &&& 31).toUInt32).toInt32).toInt8.toInt32)), .unset, .unset, .unset] [(.int (((p1.toUInt32 >>> ((16 : Int32) &&& 31).toUInt32).toInt32).toInt8.toInt32))])) _
      refine XS.istore X0.here hx rfl (hb hby at_21) rfl (l' := #[.val (.int p0), .val (.int p1), .val (.int (4 : Int32)), .val (.int (p1.toInt8.toInt32)), .val (.int (((p1.toUInt32 >>> ((8 : Int32) &&& 31).toUInt32).toInt32).toInt8.toInt32)), .val (.int (((p1.toUInt32 >>> ((16 : Int32) &&& 31).toUInt32).toInt32).toInt8.toInt32)), .unset, .unset]) rfl ?_
      show Steps p.tables e below (s₁.setTop (mkF m 23 #[.val (.int p0), .val (.int p1), .val (.int (4 : Int32)), .val (.int (p1.toInt8.toInt32)), .val (.int (((p1.toUInt32 >>> ((8 : Int32) &&& 31).toUInt32).toInt32).toInt8.toInt32)), .val (.int (((p1.toUInt32 >>> ((16 : Int32) &&& 31).toUInt32).toInt32).toInt8.toInt32)), .unset, .unset] [])) _
      refine XS.iloadN X0.here hx rfl (hb hby at_23) rfl ?_
      show Steps p.tables e below (s₁.setTop (mkF m 24 #[.val (.int p0), .val (.int p1), .val (.int (4 : Int32)), .val (.int (p1.toInt8.toInt32)), .val (.int (((p1.toUInt32 >>> ((8 : Int32) &&& 31).toUInt32).toInt32).toInt8.toInt32)), .val (.int (((p1.toUInt32 >>> ((16 : Int32) &&& 31).toUInt32).toInt32).toInt8.toInt32)), .unset, .unset] [(.int (4 : Int32))])) _
      refine st44 _ ?_
      show Steps p.tables e below (T44.setTop (mkF m 26 #[.val (.int p0), .val (.int p1), .val (.int (4 : Int32)), .val (.int (p1.toInt8.toInt32)), .val (.int (((p1.toUInt32 >>> ((8 : Int32) &&& 31).toUInt32).toInt32).toInt8.toInt32)), .val (.int (((p1.toUInt32 >>> ((16 : Int32) &&& 31).toUInt32).toInt32).toInt8.toInt32)), .unset, .unset] [(.ref b44)])) _
      refine XS.astore X44.here hx rfl (hb hby at_26) rfl rfl (l' := #[.val (.int p0), .val (.int p1), .val (.int (4 : Int32)), .val (.int (p1.toInt8.toInt32)), .val (.int (((p1.toUInt32 >>> ((8 : Int32) &&& 31).toUInt32).toInt32).toInt8.toInt32)), .val (.int (((p1.toUInt32 >>> ((16 : Int32) &&& 31).toUInt32).toInt32).toInt8.toInt32)), .val (.ref b44), .unset]) rfl ?_
      show Steps p.tables e below (T44.setTop (mkF m 28 #[.val (.int p0), .val (.int p1), .val (.int (4 : Int32)), .val (.int (p1.toInt8.toInt32)), .val (.int (((p1.toUInt32 >>> ((8 : Int32) &&& 31).toUInt32).toInt32).toInt8.toInt32)), .val (.int (((p1.toUInt32 >>> ((16 : Int32) &&& 31).toUInt32).toInt32).toInt8.toInt32)), .val (.ref b44), .unset] [])) _
      refine XS.iloadN X44.here hx rfl (hb hby at_28) rfl ?_
      show Steps p.tables e below (T44.setTop (mkF m 29 #[.val (.int p0), .val (.int p1), .val (.int (4 : Int32)), .val (.int (p1.toInt8.toInt32)), .val (.int (((p1.toUInt32 >>> ((8 : Int32) &&& 31).toUInt32).toInt32).toInt8.toInt32)), .val (.int (((p1.toUInt32 >>> ((16 : Int32) &&& 31).toUInt32).toInt32).toInt8.toInt32)), .val (.ref b44), .unset] [(.int (4 : Int32))])) _
      refine XS.iconst X44.here hx rfl (hb hby at_29) ?_
      show Steps p.tables e below (T44.setTop (mkF m 30 #[.val (.int p0), .val (.int p1), .val (.int (4 : Int32)), .val (.int (p1.toInt8.toInt32)), .val (.int (((p1.toUInt32 >>> ((8 : Int32) &&& 31).toUInt32).toInt32).toInt8.toInt32)), .val (.int (((p1.toUInt32 >>> ((16 : Int32) &&& 31).toUInt32).toInt32).toInt8.toInt32)), .val (.ref b44), .unset] [(.int (1 : Int32)), (.int (4 : Int32))])) _
      refine XS.icmpNo X44.here hx rfl (hb hby at_30) rfl (tlt (by decide)).2.2.2 ?_
      show Steps p.tables e below (T44.setTop (mkF m 33 #[.val (.int p0), .val (.int p1), .val (.int (4 : Int32)), .val (.int (p1.toInt8.toInt32)), .val (.int (((p1.toUInt32 >>> ((8 : Int32) &&& 31).toUInt32).toInt32).toInt8.toInt32)), .val (.int (((p1.toUInt32 >>> ((16 : Int32) &&& 31).toUInt32).toInt32).toInt8.toInt32)), .val (.ref b44), .unset] [])) _
      refine XS.aload X44.here hx rfl (hb hby at_33) rfl rfl ?_
      show Steps p.tables e below (T44.setTop (mkF m 35 #[.val (.int p0), .val (.int p1), .val (.int (4 : Int32)), .val (.int (p1.toInt8.toInt32)), .val (.int (((p1.toUInt32 >>> ((8 : Int32) &&& 31).toUInt32).toInt32).toInt8.toInt32)), .val (.int (((p1.toUInt32 >>> ((16 : Int32) &&& 31).toUInt32).toInt32).toInt8.toInt32)), .val (.ref b44), .unset] [(.ref b44)])) _
      refine XS.iconst X44.here hx rfl (hb hby at_35) ?_
      show Steps p.tables e below (T44.setTop (mkF m 36 #[.val (.int p0), .val (.int p1), .val (.int (4 : Int32)), .val (.int (p1.toInt8.toInt32)), .val (.int (((p1.toUInt32 >>> ((8 : Int32) &&& 31).toUInt32).toInt32).toInt8.toInt32)), .val (.int (((p1.toUInt32 >>> ((16 : Int32) &&& 31).toUInt32).toInt32).toInt8.toInt32)), .val (.ref b44), .unset] [(.int (0 : Int32)), (.ref b44)])) _
      refine XS.iloadN X44.here hx rfl (hb hby at_36) rfl ?_
      show Steps p.tables e below (T44.setTop (mkF m 37 #[.val (.int p0), .val (.int p1), .val (.int (4 : Int32)), .val (.int (p1.toInt8.toInt32)), .val (.int (((p1.toUInt32 >>> ((8 : Int32) &&& 31).toUInt32).toInt32).toInt8.toInt32)), .val (.int (((p1.toUInt32 >>> ((16 : Int32) &&& 31).toUInt32).toInt32).toInt8.toInt32)), .val (.ref b44), .unset] [(.int (p1.toInt8.toInt32)), (.int (0 : Int32)), (.ref b44)])) _
      refine st47 _ ?_
      show Steps p.tables e below (T47.setTop (mkF m 38 #[.val (.int p0), .val (.int p1), .val (.int (4 : Int32)), .val (.int (p1.toInt8.toInt32)), .val (.int (((p1.toUInt32 >>> ((8 : Int32) &&& 31).toUInt32).toInt32).toInt8.toInt32)), .val (.int (((p1.toUInt32 >>> ((16 : Int32) &&& 31).toUInt32).toInt32).toInt8.toInt32)), .val (.ref b44), .unset] [])) _
      refine XS.iloadN X47.here hx rfl (hb hby at_38) rfl ?_
      show Steps p.tables e below (T47.setTop (mkF m 39 #[.val (.int p0), .val (.int p1), .val (.int (4 : Int32)), .val (.int (p1.toInt8.toInt32)), .val (.int (((p1.toUInt32 >>> ((8 : Int32) &&& 31).toUInt32).toInt32).toInt8.toInt32)), .val (.int (((p1.toUInt32 >>> ((16 : Int32) &&& 31).toUInt32).toInt32).toInt8.toInt32)), .val (.ref b44), .unset] [(.int (4 : Int32))])) _
      refine XS.iconst X47.here hx rfl (hb hby at_39) ?_
      show Steps p.tables e below (T47.setTop (mkF m 40 #[.val (.int p0), .val (.int p1), .val (.int (4 : Int32)), .val (.int (p1.toInt8.toInt32)), .val (.int (((p1.toUInt32 >>> ((8 : Int32) &&& 31).toUInt32).toInt32).toInt8.toInt32)), .val (.int (((p1.toUInt32 >>> ((16 : Int32) &&& 31).toUInt32).toInt32).toInt8.toInt32)), .val (.ref b44), .unset] [(.int (2 : Int32)), (.int (4 : Int32))])) _
      refine XS.icmpNo X47.here hx rfl (hb hby at_40) rfl (tlt (by decide)).2.2.2 ?_
      show Steps p.tables e below (T47.setTop (mkF m 43 #[.val (.int p0), .val (.int p1), .val (.int (4 : Int32)), .val (.int (p1.toInt8.toInt32)), .val (.int (((p1.toUInt32 >>> ((8 : Int32) &&& 31).toUInt32).toInt32).toInt8.toInt32)), .val (.int (((p1.toUInt32 >>> ((16 : Int32) &&& 31).toUInt32).toInt32).toInt8.toInt32)), .val (.ref b44), .unset] [])) _
      refine XS.aload X47.here hx rfl (hb hby at_43) rfl rfl ?_
      show Steps p.tables e below (T47.setTop (mkF m 45 #[.val (.int p0), .val (.int p1), .val (.int (4 : Int32)), .val (.int (p1.toInt8.toInt32)), .val (.int (((p1.toUInt32 >>> ((8 : Int32) &&& 31).toUInt32).toInt32).toInt8.toInt32)), .val (.int (((p1.toUInt32 >>> ((16 : Int32) &&& 31).toUInt32).toInt32).toInt8.toInt32)), .val (.ref b44), .unset] [(.ref b44)])) _
      refine XS.iconst X47.here hx rfl (hb hby at_45) ?_
      show Steps p.tables e below (T47.setTop (mkF m 46 #[.val (.int p0), .val (.int p1), .val (.int (4 : Int32)), .val (.int (p1.toInt8.toInt32)), .val (.int (((p1.toUInt32 >>> ((8 : Int32) &&& 31).toUInt32).toInt32).toInt8.toInt32)), .val (.int (((p1.toUInt32 >>> ((16 : Int32) &&& 31).toUInt32).toInt32).toInt8.toInt32)), .val (.ref b44), .unset] [(.int (1 : Int32)), (.ref b44)])) _
      refine XS.iload X47.here hx rfl (hb hby at_46) rfl ?_
      show Steps p.tables e below (T47.setTop (mkF m 48 #[.val (.int p0), .val (.int p1), .val (.int (4 : Int32)), .val (.int (p1.toInt8.toInt32)), .val (.int (((p1.toUInt32 >>> ((8 : Int32) &&& 31).toUInt32).toInt32).toInt8.toInt32)), .val (.int (((p1.toUInt32 >>> ((16 : Int32) &&& 31).toUInt32).toInt32).toInt8.toInt32)), .val (.ref b44), .unset] [(.int (((p1.toUInt32 >>> ((8 : Int32) &&& 31).toUInt32).toInt32).toInt8.toInt32)), (.int (1 : Int32)), (.ref b44)])) _
      refine st49 _ ?_
      show Steps p.tables e below (T49.setTop (mkF m 49 #[.val (.int p0), .val (.int p1), .val (.int (4 : Int32)), .val (.int (p1.toInt8.toInt32)), .val (.int (((p1.toUInt32 >>> ((8 : Int32) &&& 31).toUInt32).toInt32).toInt8.toInt32)), .val (.int (((p1.toUInt32 >>> ((16 : Int32) &&& 31).toUInt32).toInt32).toInt8.toInt32)), .val (.ref b44), .unset] [])) _
      refine XS.iloadN X49.here hx rfl (hb hby at_49) rfl ?_
      show Steps p.tables e below (T49.setTop (mkF m 50 #[.val (.int p0), .val (.int p1), .val (.int (4 : Int32)), .val (.int (p1.toInt8.toInt32)), .val (.int (((p1.toUInt32 >>> ((8 : Int32) &&& 31).toUInt32).toInt32).toInt8.toInt32)), .val (.int (((p1.toUInt32 >>> ((16 : Int32) &&& 31).toUInt32).toInt32).toInt8.toInt32)), .val (.ref b44), .unset] [(.int (4 : Int32))])) _
      refine XS.iconst X49.here hx rfl (hb hby at_50) ?_
      show Steps p.tables e below (T49.setTop (mkF m 51 #[.val (.int p0), .val (.int p1), .val (.int (4 : Int32)), .val (.int (p1.toInt8.toInt32)), .val (.int (((p1.toUInt32 >>> ((8 : Int32) &&& 31).toUInt32).toInt32).toInt8.toInt32)), .val (.int (((p1.toUInt32 >>> ((16 : Int32) &&& 31).toUInt32).toInt32).toInt8.toInt32)), .val (.ref b44), .unset] [(.int (3 : Int32)), (.int (4 : Int32))])) _
      refine XS.icmpNo X49.here hx rfl (hb hby at_51) rfl (tlt (by decide)).2.2.2 ?_
      show Steps p.tables e below (T49.setTop (mkF m 54 #[.val (.int p0), .val (.int p1), .val (.int (4 : Int32)), .val (.int (p1.toInt8.toInt32)), .val (.int (((p1.toUInt32 >>> ((8 : Int32) &&& 31).toUInt32).toInt32).toInt8.toInt32)), .val (.int (((p1.toUInt32 >>> ((16 : Int32) &&& 31).toUInt32).toInt32).toInt8.toInt32)), .val (.ref b44), .unset] [])) _
      refine XS.aload X49.here hx rfl (hb hby at_54) rfl rfl ?_
      show Steps p.tables e below (T49.setTop (mkF m 56 #[.val (.int p0), .val (.int p1), .val (.int (4 : Int32)), .val (.int (p1.toInt8.toInt32)), .val (.int (((p1.toUInt32 >>> ((8 : Int32) &&& 31).toUInt32).toInt32).toInt8.toInt32)), .val (.int (((p1.toUInt32 >>> ((16 : Int32) &&& 31).toUInt32).toInt32).toInt8.toInt32)), .val (.ref b44), .unset] [(.ref b44)])) _
      refine XS.iconst X49.here hx rfl (hb hby at_56) ?_
      show Steps p.tables e below (T49.setTop (mkF m 57 #[.val (.int p0), .val (.int p1), .val (.int (4 : Int32)), .val (.int (p1.toInt8.toInt32)), .val (.int (((p1.toUInt32 >>> ((8 : Int32) &&& 31).toUInt32).toInt32).toInt8.toInt32)), .val (.int (((p1.toUInt32 >>> ((16 : Int32) &&& 31).toUInt32).toInt32).toInt8.toInt32)), .val (.ref b44), .unset] [(.int (2 : Int32)), (.ref b44)])) _
      refine XS.iload X49.here hx rfl (hb hby at_57) rfl ?_
      show Steps p.tables e below (T49.setTop (mkF m 59 #[.val (.int p0), .val (.int p1), .val (.int (4 : Int32)), .val (.int (p1.toInt8.toInt32)), .val (.int (((p1.toUInt32 >>> ((8 : Int32) &&& 31).toUInt32).toInt32).toInt8.toInt32)), .val (.int (((p1.toUInt32 >>> ((16 : Int32) &&& 31).toUInt32).toInt32).toInt8.toInt32)), .val (.ref b44), .unset] [(.int (((p1.toUInt32 >>> ((16 : Int32) &&& 31).toUInt32).toInt32).toInt8.toInt32)), (.int (2 : Int32)), (.ref b44)])) _
      refine st51 _ ?_
      show Steps p.tables e below (T51.setTop (mkF m 60 #[.val (.int p0), .val (.int p1), .val (.int (4 : Int32)), .val (.int (p1.toInt8.toInt32)), .val (.int (((p1.toUInt32 >>> ((8 : Int32) &&& 31).toUInt32).toInt32).toInt8.toInt32)), .val (.int (((p1.toUInt32 >>> ((16 : Int32) &&& 31).toUInt32).toInt32).toInt8.toInt32)), .val (.ref b44), .unset] [])) _
      refine XS.aload X51.here hx rfl (hb hby at_60) rfl rfl ?_
      show Steps p.tables e below (T51.setTop (mkF m 62 #[.val (.int p0), .val (.int p1), .val (.int (4 : Int32)), .val (.int (p1.toInt8.toInt32)), .val (.int (((p1.toUInt32 >>> ((8 : Int32) &&& 31).toUInt32).toInt32).toInt8.toInt32)), .val (.int (((p1.toUInt32 >>> ((16 : Int32) &&& 31).toUInt32).toInt32).toInt8.toInt32)), .val (.ref b44), .unset] [(.ref b44)])) _
      refine st52 _ ?_
      show Steps p.tables e below (T52.setTop (mkF m 65 #[.val (.int p0), .val (.int p1), .val (.int (4 : Int32)), .val (.int (p1.toInt8.toInt32)), .val (.int (((p1.toUInt32 >>> ((8 : Int32) &&& 31).toUInt32).toInt32).toInt8.toInt32)), .val (.int (((p1.toUInt32 >>> ((16 : Int32) &&& 31).toUInt32).toInt32).toInt8.toInt32)), .val (.ref b44), .unset] [(.ref r52)])) _
      refine XS.astore X52.here hx rfl (hb hby at_65) rfl rfl (l' := #[.val (.int p0), .val (.int p1), .val (.int (4 : Int32)), .val (.int (p1.toInt8.toInt32)), .val (.int (((p1.toUInt32 >>> ((8 : Int32) &&& 31).toUInt32).toInt32).toInt8.toInt32)), .val (.int (((p1.toUInt32 >>> ((16 : Int32) &&& 31).toUInt32).toInt32).toInt8.toInt32)), .val (.ref b44), .val (.ref r52)]) rfl ?_
      show Steps p.tables e below (T52.setTop (mkF m 67 #[.val (.int p0), .val (.int p1), .val (.int (4 : Int32)), .val (.int (p1.toInt8.toInt32)), .val (.int (((p1.toUInt32 >>> ((8 : Int32) &&& 31).toUInt32).toInt32).toInt8.toInt32)), .val (.int (((p1.toUInt32 >>> ((16 : Int32) &&& 31).toUInt32).toInt32).toInt8.toInt32)), .val (.ref b44), .val (.ref r52)] [])) _
      refine XS.aload X52.here hx rfl (hb hby at_67) rfl rfl ?_
      show Steps p.tables e below (T52.setTop (mkF m 69 #[.val (.int p0), .val (.int p1), .val (.int (4 : Int32)), .val (.int (p1.toInt8.toInt32)), .val (.int (((p1.toUInt32 >>> ((8 : Int32) &&& 31).toUInt32).toInt32).toInt8.toInt32)), .val (.int (((p1.toUInt32 >>> ((16 : Int32) &&& 31).toUInt32).toInt32).toInt8.toInt32)), .val (.ref b44), .val (.ref r52)] [(.ref r52)])) _
      refine XS.ifnullNo X52.here hx rfl (hb hby at_69) rfl ?_
      show Steps p.tables e below (T52.setTop (mkF m 72 #[.val (.int p0), .val (.int p1), .val (.int (4 : Int32)), .val (.int (p1.toInt8.toInt32)), .val (.int (((p1.toUInt32 >>> ((8 : Int32) &&& 31).toUInt32).toInt32).toInt8.toInt32)), .val (.int (((p1.toUInt32 >>> ((16 : Int32) &&& 31).toUInt32).toInt32).toInt8.toInt32)), .val (.ref b44), .val (.ref r52)] [])) _
      refine XS.aload X52.here hx rfl (hb hby at_72) rfl rfl ?_
      show Steps p.tables e below (T52.setTop (mkF m 74 #[.val (.int p0), .val (.int p1), .val (.int (4 : Int32)), .val (.int (p1.toInt8.toInt32)), .val (.int (((p1.toUInt32 >>> ((8 : Int32) &&& 31).toUInt32).toInt32).toInt8.toInt32)), .val (.int (((p1.toUInt32 >>> ((16 : Int32) &&& 31).toUInt32).toInt32).toInt8.toInt32)), .val (.ref b44), .val (.ref r52)] [(.ref r52)])) _
      refine XS.aload X52.here hx rfl (hb hby at_74) rfl rfl ?_
      show Steps p.tables e below (T52.setTop (mkF m 76 #[.val (.int p0), .val (.int p1), .val (.int (4 : Int32)), .val (.int (p1.toInt8.toInt32)), .val (.int (((p1.toUInt32 >>> ((8 : Int32) &&& 31).toUInt32).toInt32).toInt8.toInt32)), .val (.int (((p1.toUInt32 >>> ((16 : Int32) &&& 31).toUInt32).toInt32).toInt8.toInt32)), .val (.ref b44), .val (.ref r52)] [(.ref b44), (.ref r52)])) _
      refine Jvm.RoadKit.acmp (g := (mkF m 76 #[.val (.int p0), .val (.int p1), .val (.int (4 : Int32)), .val (.int (p1.toInt8.toInt32)), .val (.int (((p1.toUInt32 >>> ((8 : Int32) &&& 31).toUInt32).toInt32).toInt8.toInt32)), .val (.int (((p1.toUInt32 >>> ((16 : Int32) &&& 31).toUInt32).toInt32).toInt8.toInt32)), .val (.ref b44), .val (.ref r52)] [(.ref b44), (.ref r52)])) X52 hx rfl rfl rfl (pc0 := 76) (pc' := 79) (same := false) rfl (hb hby at_76) rfl (decide_eq_false fun q => ne52 (Value.ref.inj q)) (by decide) (by decide) ?_
      show Steps p.tables e below (T52.setTop (mkF m 79 #[.val (.int p0), .val (.int p1), .val (.int (4 : Int32)), .val (.int (p1.toInt8.toInt32)), .val (.int (((p1.toUInt32 >>> ((8 : Int32) &&& 31).toUInt32).toInt32).toInt8.toInt32)), .val (.int (((p1.toUInt32 >>> ((16 : Int32) &&& 31).toUInt32).toInt32).toInt8.toInt32)), .val (.ref b44), .val (.ref r52)] [])) _
      refine XS.aload X52.here hx rfl (hb hby at_79) rfl rfl ?_
      show Steps p.tables e below (T52.setTop (mkF m 81 #[.val (.int p0), .val (.int p1), .val (.int (4 : Int32)), .val (.int (p1.toInt8.toInt32)), .val (.int (((p1.toUInt32 >>> ((8 : Int32) &&& 31).toUInt32).toInt32).toInt8.toInt32)), .val (.int (((p1.toUInt32 >>> ((16 : Int32) &&& 31).toUInt32).toInt32).toInt8.toInt32)), .val (.ref b44), .val (.ref r52)] [(.ref r52)])) _
      refine X52.arraylength hx (by exact Arr55.1) (State.isArrayOf_alike hZ.alike Arr55.2.1) (g := (mkF m 81 #[.val (.int p0), .val (.int p1), .val (.int (4 : Int32)), .val (.int (p1.toInt8.toInt32)), .val (.int (((p1.toUInt32 >>> ((8 : Int32) &&& 31).toUInt32).toInt32).toInt8.toInt32)), .val (.int (((p1.toUInt32 >>> ((16 : Int32) &&& 31).toUInt32).toInt32).toInt8.toInt32)), .val (.ref b44), .val (.ref r52)] [(.ref r52)])) rfl rfl (hb hby at_81) _ ?_
      rw [len_of Sr55 Mr55]
      show Steps p.tables e below (T52.setTop (mkF m 82 #[.val (.int p0), .val (.int p1), .val (.int (4 : Int32)), .val (.int (p1.toInt8.toInt32)), .val (.int (((p1.toUInt32 >>> ((8 : Int32) &&& 31).toUInt32).toInt32).toInt8.toInt32)), .val (.int (((p1.toUInt32 >>> ((16 : Int32) &&& 31).toUInt32).toInt32).toInt8.toInt32)), .val (.ref b44), .val (.ref r52)] [(.int (4 : Int32))])) _
      refine XS.iloadN X52.here hx rfl (hb hby at_82) rfl ?_
      show Steps p.tables e below (T52.setTop (mkF m 83 #[.val (.int p0), .val (.int p1), .val (.int (4 : Int32)), .val (.int (p1.toInt8.toInt32)), .val (.int (((p1.toUInt32 >>> ((8 : Int32) &&& 31).toUInt32).toInt32).toInt8.toInt32)), .val (.int (((p1.toUInt32 >>> ((16 : Int32) &&& 31).toUInt32).toInt32).toInt8.toInt32)), .val (.ref b44), .val (.ref r52)] [(.int (4 : Int32)), (.int (4 : Int32))])) _
      refine XS.icmpYes X52.here hx rfl (pc0 := 83) (pc' := 88) rfl (hb hby at_83) rfl (teq rfl).1 (by decide) (by decide) ?_
      show Steps p.tables e below (T52.setTop (mkF m 88 #[.val (.int p0), .val (.int p1), .val (.int (4 : Int32)), .val (.int (p1.toInt8.toInt32)), .val (.int (((p1.toUInt32 >>> ((8 : Int32) &&& 31).toUInt32).toInt32).toInt8.toInt32)), .val (.int (((p1.toUInt32 >>> ((16 : Int32) &&& 31).toUInt32).toInt32).toInt8.toInt32)), .val (.ref b44), .val (.ref r52)] [])) _
      refine XS.aload X52.here hx rfl (hb hby at_88) rfl rfl ?_
      show Steps p.tables e below (T52.setTop (mkF m 90 #[.val (.int p0), .val (.int p1), .val (.int (4 : Int32)), .val (.int (p1.toInt8.toInt32)), .val (.int (((p1.toUInt32 >>> ((8 : Int32) &&& 31).toUInt32).toInt32).toInt8.toInt32)), .val (.int (((p1.toUInt32 >>> ((16 : Int32) &&& 31).toUInt32).toInt32).toInt8.toInt32)), .val (.ref b44), .val (.ref r52)] [(.ref b44)])) _
      refine XS.iloadN X52.here hx rfl (hb hby at_90) rfl ?_
      show Steps p.tables e below (T52.setTop (mkF m 91 #[.val (.int p0), .val (.int p1), .val (.int (4 : Int32)), .val (.int (p1.toInt8.toInt32)), .val (.int (((p1.toUInt32 >>> ((8 : Int32) &&& 31).toUInt32).toInt32).toInt8.toInt32)), .val (.int (((p1.toUInt32 >>> ((16 : Int32) &&& 31).toUInt32).toInt32).toInt8.toInt32)), .val (.ref b44), .val (.ref r52)] [(.int (4 : Int32)), (.ref b44)])) _
      refine XS.iloadN X52.here hx rfl (hb hby at_91) rfl ?_
      show Steps p.tables e below (T52.setTop (mkF m 92 #[.val (.int p0), .val (.int p1), .val (.int (4 : Int32)), .val (.int (p1.toInt8.toInt32)), .val (.int (((p1.toUInt32 >>> ((8 : Int32) &&& 31).toUInt32).toInt32).toInt8.toInt32)), .val (.int (((p1.toUInt32 >>> ((16 : Int32) &&& 31).toUInt32).toInt32).toInt8.toInt32)), .val (.ref b44), .val (.ref r52)] [(.int (p1.toInt8.toInt32)), (.int (4 : Int32)), (.ref b44)])) _
      refine XS.iload X52.here hx rfl (hb hby at_92) rfl ?_
      show Steps p.tables e below (T52.setTop (mkF m 94 #[.val (.int p0), .val (.int p1), .val (.int (4 : Int32)), .val (.int (p1.toInt8.toInt32)), .val (.int (((p1.toUInt32 >>> ((8 : Int32) &&& 31).toUInt32).toInt32).toInt8.toInt32)), .val (.int (((p1.toUInt32 >>> ((16 : Int32) &&& 31).toUInt32).toInt32).toInt8.toInt32)), .val (.ref b44), .val (.ref r52)] [(.int (((p1.toUInt32 >>> ((8 : Int32) &&& 31).toUInt32).toInt32).toInt8.toInt32)), (.int (p1.toInt8.toInt32)), (.int (4 : Int32)), (.ref b44)])) _
      refine XS.iload X52.here hx rfl (hb hby at_94) rfl ?_
      show Steps p.tables e below (T52.setTop (mkF m 96 #[.val (.int p0), .val (.int p1), .val (.int (4 : Int32)), .val (.int (p1.toInt8.toInt32)), .val (.int (((p1.toUInt32 >>> ((8 : Int32) &&& 31).toUInt32).toInt32).toInt8.toInt32)), .val (.int (((p1.toUInt32 >>> ((16 : Int32) &&& 31).toUInt32).toInt32).toInt8.toInt32)), .val (.ref b44), .val (.ref r52)] [(.int (((p1.toUInt32 >>> ((16 : Int32) &&& 31).toUInt32).toInt32).toInt8.toInt32)), (.int (((p1.toUInt32 >>> ((8 : Int32) &&& 31).toUInt32).toInt32).toInt8.toInt32)), (.int (p1.toInt8.toInt32)), (.int (4 : Int32)), (.ref b44)])) _
      refine XS.iconst X52.here hx rfl (hb hby at_96) ?_
      show Steps p.tables e below (T52.setTop (mkF m 97 #[.val (.int p0), .val (.int p1), .val (.int (4 : Int32)), .val (.int (p1.toInt8.toInt32)), .val (.int (((p1.toUInt32 >>> ((8 : Int32) &&& 31).toUInt32).toInt32).toInt8.toInt32)), .val (.int (((p1.toUInt32 >>> ((16 : Int32) &&& 31).toUInt32).toInt32).toInt8.toInt32)), .val (.ref b44), .val (.ref r52)] [(.int (0 : Int32)), (.int (((p1.toUInt32 >>> ((16 : Int32) &&& 31).toUInt32).toInt32).toInt8.toInt32)), (.int (((p1.toUInt32 >>> ((8 : Int32) &&& 31).toUInt32).toInt32).toInt8.toInt32)), (.int (p1.toInt8.toInt32)), (.int (4 : Int32)), (.ref b44)])) _
      refine st56 _ ?_
      show Steps p.tables e below (T56.setTop (mkF m 100 #[.val (.int p0), .val (.int p1), .val (.int (4 : Int32)), .val (.int (p1.toInt8.toInt32)), .val (.int (((p1.toUInt32 >>> ((8 : Int32) &&& 31).toUInt32).toInt32).toInt8.toInt32)), .val (.int (((p1.toUInt32 >>> ((16 : Int32) &&& 31).toUInt32).toInt32).toInt8.toInt32)), .val (.ref b44), .val (.ref r52)] [(.int (1 : Int32))])) _
      refine XS.ifYes X56.here hx rfl (pc0 := 100) (pc' := 105) rfl (hb hby at_100) rfl ((if0 _ _).trans (feq (by decide)).2) (by decide) (by decide) ?_
      show Steps p.tables e below (T56.setTop (mkF m 105 #[.val (.int p0), .val (.int p1), .val (.int (4 : Int32)), .val (.int (p1.toInt8.toInt32)), .val (.int (((p1.toUInt32 >>> ((8 : Int32) &&& 31).toUInt32).toInt32).toInt8.toInt32)), .val (.int (((p1.toUInt32 >>> ((16 : Int32) &&& 31).toUInt32).toInt32).toInt8.toInt32)), .val (.ref b44), .val (.ref r52)] [])) _
      refine XS.aload X56.here hx rfl (hb hby at_105) rfl rfl ?_
      show Steps p.tables e below (T56.setTop (mkF m 107 #[.val (.int p0), .val (.int p1), .val (.int (4 : Int32)), .val (.int (p1.toInt8.toInt32)), .val (.int (((p1.toUInt32 >>> ((8 : Int32) &&& 31).toUInt32).toInt32).toInt8.toInt32)), .val (.int (((p1.toUInt32 >>> ((16 : Int32) &&& 31).toUInt32).toInt32).toInt8.toInt32)), .val (.ref b44), .val (.ref r52)] [(.ref r52)])) _
      refine XS.iloadN X56.here hx rfl (hb hby at_107) rfl ?_
      show Steps p.tables e below (T56.setTop (mkF m 108 #[.val (.int p0), .val (.int p1), .val (.int (4 : Int32)), .val (.int (p1.toInt8.toInt32)), .val (.int (((p1.toUInt32 >>> ((8 : Int32) &&& 31).toUInt32).toInt32).toInt8.toInt32)), .val (.int (((p1.toUInt32 >>> ((16 : Int32) &&& 31).toUInt32).toInt32).toInt8.toInt32)), .val (.ref b44), .val (.ref r52)] [(.int (4 : Int32)), (.ref r52)])) _
      refine XS.iloadN X56.here hx rfl (hb hby at_108) rfl ?_
      show Steps p.tables e below (T56.setTop (mkF m 109 #[.val (.int p0), .val (.int p1), .val (.int (4 : Int32)), .val (.int (p1.toInt8.toInt32)), .val (.int (((p1.toUInt32 >>> ((8 : Int32) &&& 31).toUInt32).toInt32).toInt8.toInt32)), .val (.int (((p1.toUInt32 >>> ((16 : Int32) &&& 31).toUInt32).toInt32).toInt8.toInt32)), .val (.ref b44), .val (.ref r52)] [(.int (p1.toInt8.toInt32)), (.int (4 : Int32)), (.ref r52)])) _
      refine XS.iload X56.here hx rfl (hb hby at_109) rfl ?_
      show Steps p.tables e below (T56.setTop (mkF m 111 #[.val (.int p0), .val (.int p1), .val (.int (4 : Int32)), .val (.int (p1.toInt8.toInt32)), .val (.int (((p1.toUInt32 >>> ((8 : Int32) &&& 31).toUInt32).toInt32).toInt8.toInt32)), .val (.int (((p1.toUInt32 >>> ((16 : Int32) &&& 31).toUInt32).toInt32).toInt8.toInt32)), .val (.ref b44), .val (.ref r52)] [(.int (((p1.toUInt32 >>> ((8 : Int32) &&& 31).toUInt32).toInt32).toInt8.toInt32)), (.int (p1.toInt8.toInt32)), (.int (4 : Int32)), (.ref r52)])) _
      refine XS.iload X56.here hx rfl (hb hby at_111) rfl ?_
      show Steps p.tables e below (T56.setTop (mkF m 113 #[.val (.int p0), .val (.int p1), .val (.int (4 : Int32)), .val (.int (p1.toInt8.toInt32)), .val (.int (((p1.toUInt32 >>> ((8 : Int32) &&& 31).toUInt32).toInt32).toInt8.toInt32)), .val (.int (((p1.toUInt32 >>> ((16 : Int32) &&& 31).toUInt32).toInt32).toInt8.toInt32)), .val (.ref b44), .val (.ref r52)] [(.int (((p1.toUInt32 >>> ((16 : Int32) &&& 31).toUInt32).toInt32).toInt8.toInt32)), (.int (((p1.toUInt32 >>> ((8 : Int32) &&& 31).toUInt32).toInt32).toInt8.toInt32)), (.int (p1.toInt8.toInt32)), (.int (4 : Int32)), (.ref r52)])) _
      refine XS.iconst X56.here hx rfl (hb hby at_113) ?_
      show Steps p.tables e below (T56.setTop (mkF m 114 #[.val (.int p0), .val (.int p1), .val (.int (4 : Int32)), .val (.int (p1.toInt8.toInt32)), .val (.int (((p1.toUInt32 >>> ((8 : Int32) &&& 31).toUInt32).toInt32).toInt8.toInt32)), .val (.int (((p1.toUInt32 >>> ((16 : Int32) &&& 31).toUInt32).toInt32).toInt8.toInt32)), .val (.ref b44), .val (.ref r52)] [(.int (1 : Int32)), (.int (((p1.toUInt32 >>> ((16 : Int32) &&& 31).toUInt32).toInt32).toInt8.toInt32)), (.int (((p1.toUInt32 >>> ((8 : Int32) &&& 31).toUInt32).toInt32).toInt8.toInt32)), (.int (p1.toInt8.toInt32)), (.int (4 : Int32)), (.ref r52)])) _
      refine st59 _ ?_
      show Steps p.tables e below (T59.setTop (mkF m 117 #[.val (.int p0), .val (.int p1), .val (.int (4 : Int32)), .val (.int (p1.toInt8.toInt32)), .val (.int (((p1.toUInt32 >>> ((8 : Int32) &&& 31).toUInt32).toInt32).toInt8.toInt32)), .val (.int (((p1.toUInt32 >>> ((16 : Int32) &&& 31).toUInt32).toInt32).toInt8.toInt32)), .val (.ref b44), .val (.ref r52)] [(.int (1 : Int32))])) _
      exact q)
    obtain ⟨fs, hr, hrun, hended, hW, hsame⟩ := X59.leave (v := some (.int (1 : Int32))) (fun h => by rw [Bd.returns] at h; cases h)
    refine ⟨_, _, k0 _ (k60 _ ?_), hrun, hended, _, _, rfl, ?_, ⟨_, rfl⟩, hW, hsame.mono (by decide) (by decide)⟩
    · show Steps p.tables e below (T59.setTop (mkF m 117 #[.val (.int p0), .val (.int p1), .val (.int (4 : Int32)), .val (.int (p1.toInt8.toInt32)), .val (.int (((p1.toUInt32 >>> ((8 : Int32) &&& 31).toUInt32).toInt32).toInt8.toInt32)), .val (.int (((p1.toUInt32 >>> ((16 : Int32) &&& 31).toUInt32).toInt32).toInt8.toInt32)), .val (.ref b44), .val (.ref r52)] [(.int (1 : Int32))])) _
      exact retN X59 hx (t := .boolean) Bd.returns (by simp) (hb hby at_117) hr
    · show Q0 Z p0 p1 h0 n0 _ T59.heap _
      rw [e59]
      exact ⟨rfl, N59⟩
set_option maxRecDepth 65536 in
set_option maxHeartbeats 40000000 in
theorem comes_1 {Post : Tables → Env → Array Value → State → Outcome → State → Prop} (hpost : ∀ tb e args s v u, (limb_1_1.after args s (.returned v) u = true ∧ limb_1_2.after args s (.returned v) u = true ∧ True) → FrameEnd s (.returned v) u (Jvm.fieldLocs frame_1_writes args s ++ Jvm.arrayLocs frame_1_arrays args s ++ Jvm.staticLocs frame_1_statics s) 16 128 → Post tb e args s (.returned v) u) :
    ArmFor flags0 classFile x code maxLocals ret World_1 tables_1 room_1 Calls_1 rest_1 Pre_1 Post := by
  intro l hfl _ _ p e ha hc hk s m args below hf hA hF happ hP
  obtain ⟨hcalls, hrest, hpre⟩ := hP
  obtain ⟨-, -, -, hnamed, -, -, -, hat⟩ := (Spec.applies_iff hf).mp happ
  obtain ⟨hg, hn⟩ := and_e (Cond.before_iff.mp (show (Jvm.Cond.and given_1 narrow_1).before args s = true from hpre))
  obtain ⟨hgc, hg0⟩ := and_e hg
  obtain ⟨ga0, hg1⟩ := and_e hg0
  obtain ⟨w0, w1, rfl⟩ : ∃ w0 w1 : Value, args = #[w0, w1] := by
    have hs : args.size = 2 := by simpa [Cond.value, given_1] using hgc
    obtain ⟨L⟩ := args
    match L, hs with
    | [w0, w1], _ => exact ⟨w0, w1, rfl⟩
  have hw := fun d (hd : d ∈ tables_1) => atoms_spec (ws := Jvm.Cond.code x code maxLocals ret :: tables_1) hat d (List.mem_cons_of_mem _ hd)
  have hfit : Fit s := fun {y c} hc i hi => by
    obtain ⟨ha, rfl⟩ := Array.getElem?_eq_some_iff.mp hc
    have q := List.all_eq_true.mp ((Array.all_eq_true_iff_forall_mem.mp hF) _ (Array.getElem_mem ha)) i (List.mem_range.mpr hi)
    simpa [Array.getElem?_eq_getElem hi] using q
  obtain ⟨i0, ei0⟩ := is_v ga0
  obtain rfl : w0 = (.int i0) := Option.some.inj ei0
  obtain ⟨i1, ei1⟩ := is_v hg1
  obtain rfl : w1 = (.int i1) := Option.some.inj ei1
  obtain ⟨n, o, h1, h2, h3, _, L, rfl, ⟨rfl, N⟩, hq⟩ := rm0 l s _ hw tables_1 i0 i1 s.heap s.heap.size (Nat.le_refl _) p e ha hc hk s m _ below hf ((Spec.applies_iff_loose hf).mp happ).1 ⟨rfl, State.Warmed39.refl s, rfl⟩ trivial
  refine ⟨n, _, h1, h2, h3, hpost _ _ _ _ _ _ ⟨Cond.after_iff.mpr rfl, Cond.after_iff.mpr (eq_i res_at (Term.int_eval (1)) rfl), trivial⟩ ⟨hq.1, hq.2.1, (hq.2.2.sift fun y hy => Or.inr (N y hy)).mono (by decide) (by decide)⟩⟩
theorem main_1_1 : Claimed_1_1 := comes_1 fun _ _ _ _ _ _ h hF => ⟨h.1, hF⟩
theorem main_1_2 : Claimed_1_2 := comes_1 fun _ _ _ _ _ _ h hF => ⟨h.2.1, hF⟩
end Jvm.Pilot.@@N@@
namespace Jvm.Pilot.@@N@@
open Jvm Jvm.ClassFile Sem Op Lib Jvm.Free Jvm.Stand Jvm.Pilot.@@N@@.Jvm.D
/-! MADE BY PROGRAM (witnessworld.py) out of the Statement's table words and the real class files: 9 classes; the members and pool entries that the words name. The judged class is class 1, her method 1. -/
namespace start1
open Jvm.ClassFile
def u (s : String) : CpInfo := .utf8 (stringToUtf16 s)
/-- a pool by its gaps: so many unusable entries, then the entry; so many at the end -/
def gap : Nat → List CpInfo → List CpInfo
  | 0, r => r
  | n + 1, r => .unusable :: gap n r
def poolList (es : List (Nat × CpInfo)) (last : Nat) : List CpInfo := es.foldr (fun e r => gap e.1 (e.2 :: r)) (gap last [])
def pool (es : List (Nat × CpInfo)) (last : Nat) : Array CpInfo := ⟨poolList es last⟩
def fileOf (pool : Array CpInfo) (this : Nat) (attrs : Array Attribute := #[]) (ms : Array MethodInfo := #[]) (fl : Nat := 33) (sup : Nat := 0) (ifs : Array Nat := #[]) (fds : Array FieldInfo := #[]) : ClassFile where
  minorVersion := 0
  majorVersion := 65
  constantPool := pool
  accessFlags := fl
  thisClass := this
  superClass := sup
  interfaces := ifs
  fields := fds
  methods := ms
  attributes := attrs
def plain (name : String) (sup : Option ClassId) : Class where
  name := name
  kind := .ordinary
  loader := none
  accessFlags := 33
  super := sup
  interfaces := #[]
  cf := none
  fields := #[]
  methods := #[]
  instanceTypes := #[]
  staticTypes := #[]
  resolved := #[]
  callSites := []
  init := .initialized
  statics := none
  mirror := none

def pool0 : Array CpInfo := pool [(5, u "<init>"), (0, u "()V"), (1, .class_ 10), (1, u "java/lang/Object"), (85, u "clone"), (0, u "()Ljava/lang/Object;")] 26

def k0m0 : Method := { name := "<init>", desc := "()V", sig := { parameters := [], returnType := none }, accessFlags := 1, code := none }
def k0m1 : Method := { name := "clone", desc := "()Ljava/lang/Object;", sig := { parameters := [], returnType := some (.object "java/lang/Object") }, accessFlags := 260, code := none }
/-- java/lang/Object -/
def k0 : Class := { plain "java/lang/Object" none with
  accessFlags := 33
  interfaces := #[]
  cf := some (fileOf pool0 8 #[] #[{ accessFlags := 1, nameIndex := 5, descriptorIndex := 6, attributes := #[] }, { accessFlags := 260, nameIndex := 96, descriptorIndex := 97, attributes := #[] }] 33 0 #[] #[])
  fields := #[]
  methods := #[k0m0, k0m1]
  instanceTypes := #[]
  staticTypes := #[]
  resolved := Array.replicate 124 none
  statics := none }

def pool1 : Array CpInfo := pool [(2, .class_ 4), (1, u "java/lang/Object"), (0, u "<init>"), (0, u "()V"), (0, .methodref 8 9), (0, .class_ 10), (0, .nameAndType 11 12), (0, u "com/example/feeddb/feeddb/core/Keys"), (0, u "pastNamePrefix"), (0, u "([B)[B"), (0, .methodref 14 15), (0, .class_ 16), (0, .nameAndType 17 18), (0, u "com/example/feeddb/feeddb/core/KeysPastNamePrefixPinLaw"), (0, u "same"), (0, u "([BIBBBB)Z"), (2, u "law"), (0, u "(II)Z")] 5

def k1m0 : Method := { name := "<init>", desc := "()V", sig := { parameters := [], returnType := none }, accessFlags := 2, code := none }
def k1c1 : Code := { maxStack := 6, maxLocals := 8, code := code, exceptionTable := #[], attributes := #[] }
def k1m1 : Method := { name := "law", desc := "(II)Z", sig := { parameters := [.int, .int], returnType := some .boolean }, accessFlags := 9, code := some k1c1 }
def k1c2 : Code := { maxStack := 3, maxLocals := 6, code := method_3_code, exceptionTable := #[], attributes := #[] }
def k1m2 : Method := { name := "same", desc := "([BIBBBB)Z", sig := { parameters := [(.array .byte), .int, .byte, .byte, .byte, .byte], returnType := some .boolean }, accessFlags := 10, code := some k1c2 }
/-- com/example/feeddb/feeddb/core/KeysPastNamePrefixPinLaw -/
def k1 : Class := { plain "com/example/feeddb/feeddb/core/KeysPastNamePrefixPinLaw" (some 0) with
  accessFlags := 49
  interfaces := #[]
  cf := some (fileOf pool1 14 #[] #[{ accessFlags := 2, nameIndex := 5, descriptorIndex := 6, attributes := #[] }, { accessFlags := 9, nameIndex := 21, descriptorIndex := 22, attributes := #[] }, { accessFlags := 10, nameIndex := 17, descriptorIndex := 18, attributes := #[] }] 49 2 #[] #[])
  fields := #[]
  methods := #[k1m0, k1m1, k1m2]
  instanceTypes := #[]
  staticTypes := #[]
  resolved := Array.replicate 28 none
  statics := none }

def pool2 : Array CpInfo := pool [(2, .class_ 4), (1, u "java/lang/Object"), (0, u "<init>"), (0, u "()V"), (77, .class_ 86), (1, u "com/example/feeddb/feeddb/core/Keys"), (14, u "pastNamePrefix"), (0, u "([B)[B"), (0, .methodref 104 105), (0, .class_ 106), (0, .nameAndType 107 108), (0, u "[B"), (0, u "clone"), (0, u "()Ljava/lang/Object;")] 63

def k2m0 : Method := { name := "<init>", desc := "()V", sig := { parameters := [], returnType := none }, accessFlags := 2, code := none }
def k2c1 : Code := { maxStack := 3, maxLocals := 2, code := prog_4_method_14_code, exceptionTable := #[], attributes := #[] }
def k2m1 : Method := { name := "pastNamePrefix", desc := "([B)[B", sig := { parameters := [(.array .byte)], returnType := some (.array .byte) }, accessFlags := 8, code := some k2c1 }
/-- com/example/feeddb/feeddb/core/Keys -/
def k2 : Class := { plain "com/example/feeddb/feeddb/core/Keys" (some 0) with
  accessFlags := 32
  interfaces := #[]
  cf := some (fileOf pool2 84 #[] #[{ accessFlags := 2, nameIndex := 5, descriptorIndex := 6, attributes := #[] }, { accessFlags := 8, nameIndex := 101, descriptorIndex := 102, attributes := #[] }] 32 2 #[] #[])
  fields := #[]
  methods := #[k2m0, k2m1]
  instanceTypes := #[]
  staticTypes := #[]
  resolved := Array.replicate 172 none
  statics := none }

def pool3 : Array CpInfo := pool [(1, .class_ 2), (0, u "java/lang/Cloneable"), (0, .class_ 4), (0, u "java/lang/Object")] 2

/-- java/lang/Cloneable -/
def k3 : Class := { plain "java/lang/Cloneable" (some 0) with
  accessFlags := 1537
  interfaces := #[]
  cf := some (fileOf pool3 1 #[] #[] 1537 3 #[] #[])
  fields := #[]
  methods := #[]
  instanceTypes := #[]
  staticTypes := #[]
  resolved := Array.replicate 7 none
  statics := none }

def pool4 : Array CpInfo := pool [(1, u "java/io/Serializable"), (0, .class_ 1), (0, u "java/lang/Object"), (0, .class_ 3)] 3

/-- java/io/Serializable -/
def k4 : Class := { plain "java/io/Serializable" (some 0) with
  accessFlags := 1537
  interfaces := #[]
  cf := some (fileOf pool4 2 #[] #[] 1537 4 #[] #[])
  fields := #[]
  methods := #[]
  instanceTypes := #[]
  staticTypes := #[]
  resolved := Array.replicate 8 none
  statics := none }

/-- the primitive byte -/
def k5 : Class := { plain "byte" none with kind := .primitive 'B', accessFlags := 0x411 }
/-- [B -/
def k6 : Class := { plain "[B" (some 0) with kind := .array 5 .byte, interfaces := #[3, 4], accessFlags := 1041 }

/-- the primitive int -/
def k7 : Class := { plain "int" none with kind := .primitive 'I', accessFlags := 0x411 }
/-- [I -/
def k8 : Class := { plain "[I" (some 0) with kind := .array 7 .int, interfaces := #[3, 4], accessFlags := 1041 }

def heap : Heap := #[]
def classes : Array Class := #[k0, k1, k2, k3, k4, k5, k6, k7, k8]
def interned : List (Array UInt16 × Addr) := []
def slotsUsed : Nat := 0
def theMethod : MethodId := ⟨1, 1⟩
def args0 : Array Value := #[.int 3, .int 77]
def aboutOver (below : List Frame) : State where
  vm := { classes := classes, interned := interned.toArray }
  heap := heap
  slotsUsed := slotsUsed
  threads := #[{ frames := .invoking theMethod args0 :: below }]
def below0 : List Frame := [.native { method := ⟨0, 0⟩, args := #[] }]
def about1 : State := aboutOver below0
def p0 : Program := .bare "" "" ""
def e0 : Env := launch0.env 0 0 0
theorem w_frames : about1.frames = Frame.invoking theMethod args0 :: below0 := rfl
set_option maxRecDepth 65536 in
theorem w_args : argsFit about1.vm theMethod args0 = true := by decide +kernel
set_option maxRecDepth 65536 in
theorem w_heap : heapFits about1 = true := by decide +kernel
set_option maxRecDepth 65536 in
theorem w_runnable : about1.curStatus? = some .runnable := by decide +kernel
set_option maxRecDepth 65536 in
theorem w_alone : about1.alone = true := by decide +kernel
set_option maxRecDepth 65536 in
theorem w_named : about1.methodNamed? x = some theMethod := by decide +kernel
set_option maxRecDepth 65536 in
theorem w_hears : about1.hears theMethod below0 = true := by decide +kernel
set_option maxRecDepth 65536 in
theorem w_ripe : about1.ripe theMethod args0 below0 = true := by decide +kernel
theorem w_running : about1.status = .running := rfl
set_option maxRecDepth 65536 in
theorem w_room : about1.hasRoom e0.platform room_1 = true :=
  launch0.hasRoom_least _ room_1 (by decide +kernel) (by decide +kernel) (by decide +kernel) (by decide +kernel) (by decide +kernel) (by decide +kernel)
theorem allAtoms_all (ts : List Jvm.Cond) (a : Array Jvm.Value) (st : Jvm.State) : (allAtoms ts).before a st = ts.all (fun c => c.before a st) := by
  induction ts with
  | nil => rfl
  | cons c t ih =>
    show (Jvm.Cond.and c (allAtoms t)).before a st = _
    rw [Jvm.Cond.before_and, ih, List.all_cons]
def words1 : List Jvm.Cond := Jvm.Cond.code x code maxLocals ret :: tables_1
/-- a 'code' word, met by the world's own term for the bytes: nothing is compared byte by byte -/
theorem code_word {y : MethodName} {bytes : ByteArray} {mx : Nat} {rt : Option FieldType} {a : Array Value} {s : State} {m : MethodId} {meth : Method} {c : Code} (h1 : s.methodNamed? y = some m) (h2 : s.vm.method? m = some meth) (h3 : meth.code = some c) (h4 : c.code = bytes)
    (h5 : (c.maxLocals == mx && c.exceptionTable.isEmpty && decide (c.maxStack ≤ mostOperands) && decide (meth.sig.returnType = rt) && !meth.locks && decide (parseMethodDescriptor y.desc = some meth.sig)) = true) : (Jvm.Cond.code y bytes mx rt).before a s = true := by
  simp only [Bool.and_eq_true, beq_iff_eq, Bool.not_eq_true', decide_eq_true_eq] at h5
  obtain ⟨⟨⟨⟨⟨g1, g2⟩, g3⟩, g4⟩, g5⟩, g6⟩ := h5
  simp [Cond.before, Cond.holds, Cond.value, h1, h2, h3, h4, g1, g2, g3, g4, g5, g6]
def isCode : Jvm.Cond → Bool
  | .code _ _ _ _ => true
  | _ => false
theorem all_split {L : List Jvm.Cond} {P : Jvm.Cond → Bool} (h1 : L.all (fun c => isCode c || P c) = true) (h2 : ∀ c ∈ L.filter isCode, P c = true) : L.all P = true := by
  refine List.all_eq_true.mpr fun c hc => ?_
  have h := List.all_eq_true.mp h1 c hc
  rcases Bool.eq_false_or_eq_true (isCode c) with hi | hi
  · exact h2 c (List.mem_filter.mpr ⟨hc, hi⟩)
  · simpa [hi] using h
set_option maxRecDepth 65536 in
theorem w_c0 : (Jvm.Cond.code x code maxLocals ret).before args0 about1 = true := code_word (m := ⟨1, 1⟩) (meth := k1m1) (c := k1c1) (by decide +kernel) rfl rfl rfl (by decide +kernel)
set_option maxRecDepth 65536 in
theorem w_c1 : (Jvm.Cond.code ({ cls := "com/example/feeddb/feeddb/core/Keys", name := "pastNamePrefix", desc := "([B)[B" } : Jvm.MethodName) prog_4_method_14_code (2 : Nat) (Option.some (Jvm.ClassFile.FieldType.array Jvm.ClassFile.FieldType.byte))).before args0 about1 = true := code_word (m := ⟨2, 1⟩) (meth := k2m1) (c := k2c1) (by decide +kernel) rfl rfl rfl (by decide +kernel)
set_option maxRecDepth 65536 in
theorem w_c2 : (Jvm.Cond.code ({ cls := "com/example/feeddb/feeddb/core/KeysPastNamePrefixPinLaw", name := "same", desc := "([BIBBBB)Z" } : Jvm.MethodName) method_3_code (6 : Nat) (Option.some Jvm.ClassFile.FieldType.boolean)).before args0 about1 = true := code_word (m := ⟨1, 2⟩) (meth := k1m2) (c := k1c2) (by decide +kernel) rfl rfl rfl (by decide +kernel)
def codes1 : List Jvm.Cond := [Jvm.Cond.code x code maxLocals ret, Jvm.Cond.code ({ cls := "com/example/feeddb/feeddb/core/Keys", name := "pastNamePrefix", desc := "([B)[B" } : Jvm.MethodName) prog_4_method_14_code (2 : Nat) (Option.some (Jvm.ClassFile.FieldType.array Jvm.ClassFile.FieldType.byte)), Jvm.Cond.code ({ cls := "com/example/feeddb/feeddb/core/KeysPastNamePrefixPinLaw", name := "same", desc := "([BIBBBB)Z" } : Jvm.MethodName) method_3_code (6 : Nat) (Option.some Jvm.ClassFile.FieldType.boolean)]
set_option maxRecDepth 65536 in
theorem codes_eq : words1.filter isCode = codes1 := rfl
theorem w_codes : ∀ c ∈ words1.filter isCode, c.before args0 about1 = true := by
  rw [codes_eq]
  intro c hc
  simp only [codes1, List.mem_cons, List.not_mem_nil, or_false] at hc
  rcases hc with rfl | rfl | rfl
  · exact w_c0
  · exact w_c1
  · exact w_c2
set_option maxRecDepth 65536 in
theorem w_t1 : words1.all (fun c => isCode c || c.before args0 about1) = true := by decide +kernel
theorem w_tables : (allAtoms (Jvm.Cond.code x code maxLocals ret :: tables_1)).before args0 about1 = true := by
  rw [allAtoms_all]
  show words1.all (fun c => c.before args0 about1) = true
  refine all_split ?_ w_codes
  rw [w_t1]
set_option maxRecDepth 65536 in
theorem w_case : (Jvm.Cond.and given_1 narrow_1).before args0 about1 = true := by decide +kernel
theorem w_applies : (headSpec (Jvm.Cond.code x code maxLocals ret :: tables_1) room_1).applies x e0.platform about1 = true :=
  (Spec.applies_iff w_frames).mpr ⟨w_running, w_runnable, w_alone, w_named, w_hears, w_ripe, w_room, w_tables⟩
theorem atStart : AtStart classFile x code maxLocals ret World_1 tables_1 room_1 Calls_1 rest_1 Pre_1 launch0 p0 e0 about1 theMethod args0 below0 :=
  ⟨lists_1, trivial, launch0.admits_env _ _ _, launch0.least_env, fairChoices_fair.cas, fairChoices_fair.clock, w_frames, w_args, w_heap, w_applies, trivial, trivial, w_case⟩
end start1
theorem witness_1 : WitnessClaimed_1 := ⟨start1.p0, start1.e0, start1.about1, start1.theMethod, start1.args0, start1.below0, start1.atStart⟩
end Jvm.Pilot.@@N@@
