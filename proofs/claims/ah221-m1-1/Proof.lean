import JvmDerived
import JvmDerived.Pilot.@@N@@Statement
import JvmDerived.Pilot.@@N@@Code
set_option linter.unusedVariables false
set_option linter.unusedSimpArgs false

namespace Jvm.Pilot.@@N@@
open Jvm Jvm.ClassFile Sem Op Lib Jvm.Free Jvm.Stand Jvm.LawKit Jvm.RoadKit Bundle Jvm.Pilot.@@N@@.Jvm.D
/-- from every end that the second place reaches the first does -/
abbrev own_To (p : Program) (e : Env) (below : List Frame) (T' : State) (f' : JFrame) (T : State) (f : JFrame) : Prop := ∀ t, Steps p.tables e below (T'.setTop f') t → Steps p.tables e below (T.setTop f) t
theorem own_root {Z : State} {a0 : Array Value} {O K : String} {n : Nat} (w : (Jvm.Cond.noSuperclass O).before a0 Z = true) (wi : (Jvm.Cond.instantiable K n).before a0 Z = true) (hn : O ≠ K) : NS Z O K := by
  obtain ⟨c, k, h1, h2, h3, -, -⟩ := Cond.noSuperclass_spec w
  obtain ⟨t, kt, g1, -⟩ := Cond.instantiable_spec wi
  have ne := ids_ne h1 g1 hn
  refine ⟨c, t, h1, g1, fun fuel => ?_⟩
  cases fuel with
  | zero => rfl
  | succ f => simp [Vm.isSubclassAux, ne, h2, h3]
theorem own_no {Z : State} {a0 : Array Value} {C S K : String} {n : Nat} (w : (Jvm.Cond.superclass C S).before a0 Z = true) (wi : (Jvm.Cond.instantiable K n).before a0 Z = true) (q : NS Z C K) (hn : C ≠ K) : ∃ c t, Z.vm.findClass C = some c ∧ Z.vm.findClass K = some t ∧ Z.vm.assignable c t = false := by
  obtain ⟨c, t, h0, g0, n3⟩ := q
  obtain ⟨p, k, kp, h1, h2, h3, h4, h5, -, h7⟩ := Cond.superclass_spec h0 w
  obtain ⟨t', kt, g1, g2, g3, g4, -⟩ := Cond.instantiable_spec wi
  cases g0.symm.trans g1
  have g5 : kt.isInterface = false := by cases hq : kt.isInterface with
    | false => rfl
    | true => rw [hq] at g4; cases g4
  have ne := ids_ne h0 g0 hn
  refine ⟨c, t, h0, g0, ?_⟩
  show Z.vm.assignableAux (255 + 1) c t = false
  simp [Vm.assignableAux, ne, h2, g2, h5, g3, g5, Vm.isSubclass, n3]
def own_cache (Z : State) (aC : Addr) (cl : Cell) : Prop := Sta Z Z.heap "java/lang/Long$LongCache" "cache" "[Ljava/lang/Long;" (.ref aC) ∧ Arr Z Z.heap aC cl (.object "java/lang/Long") ∧ cl.slots.size = 256 ∧ ∀ j : Nat, j < 256 → ∃ x, cl.slots[j]? = some (.ref x) ∧ Exa Z Z.heap x "java/lang/Long"
theorem own_place (q0 : Int64) (h1 : ¬ q0 < (-128 : Int64)) (h2 : ¬ (127 : Int64) < q0) : ¬ (q0.toInt32 + (128 : Int32)) < 0 ∧ (q0.toInt32 + (128 : Int32)).toNatClampNeg < 256 := by
  rw [Int64.lt_iff_toInt_lt, show (-128 : Int64).toInt = -128 from rfl] at h1
  rw [Int64.lt_iff_toInt_lt, show (127 : Int64).toInt = 127 from rfl] at h2
  have a := c_l2i q0
  have b := c_iadd q0.toInt32 128
  have r1 := rng32 q0.toInt32
  have r2 := rng32 (q0.toInt32 + 128)
  rw [show (128 : Int32).toInt = 128 from rfl] at b
  rw [Int32.lt_iff_toInt_lt, show (0 : Int32).toInt = 0 from rfl, Int32.toNatClampNeg]
  omega
theorem own_d1_0 : decode prog_7_method_1_code 0 = .ok (.aload_n 0, 1) := by decide +kernel
theorem own_d1_1 : decode prog_7_method_1_code 1 = .ok (.invokespecial 1, 3) := by decide +kernel
theorem own_d1_4 : decode prog_7_method_1_code 4 = .ok (.aload_n 0, 1) := by decide +kernel
theorem own_d1_5 : decode prog_7_method_1_code 5 = .ok (.lload_n 1, 1) := by decide +kernel
theorem own_d1_6 : decode prog_7_method_1_code 6 = .ok (.putfield 7, 3) := by decide +kernel
theorem own_d1_9 : decode prog_7_method_1_code 9 = .ok (.aload_n 0, 1) := by decide +kernel
theorem own_d1_10 : decode prog_7_method_1_code 10 = .ok (.lload_n 3, 1) := by decide +kernel
theorem own_d1_11 : decode prog_7_method_1_code 11 = .ok (.putfield 13, 3) := by decide +kernel
theorem own_d1_14 : decode prog_7_method_1_code 14 = .ok (.return_, 1) := by decide +kernel
theorem own_pn1 : plainName "com/example/feeddb/feeddb/core/Position" = true := by first | (simp [plainName, overriddenIn]; done) | decide +kernel
theorem own_ef1 (m : MethodId) (x0 : Addr) (x1 : Int64) (x2 : Int64) : entryFrame m #[(.ref x0), (.long x1), (.long x2)] 5 = mkF m 0 #[.val (.ref x0), .val (.long x1), .second, .val (.long x2), .second] [] := by first | (simp [entryFrame, mkF, argsToLocals, Value.category]; done) | rfl
def Q1 (Z : State) (a0_ : Addr) (q1 : Int64) (q2 : Int64) (h0 : Heap) (n0 : Nat) (v : Option Value) (h : Heap) (L : List Loc) : Prop := v = none ∧ Fr n0 L ∧ Keep h0 h [a0_] ∧ Exa Z h a0_ "com/example/feeddb/feeddb/core/Position" ∧ Fld Z h a0_ "com/example/feeddb/feeddb/core/Position" "time" "J" (.long q1) ∧ Fld Z h a0_ "com/example/feeddb/feeddb/core/Position" "id" "J" (.long q2)
set_option maxRecDepth 65536 in
set_option maxHeartbeats 40000000 in
theorem rm1 (l : Launch) (Z : State) (a0 : Array Value) (hw : ∀ d ∈ tables_1, d.before a0 Z = true) (ws : List Jvm.Cond) (a0_ : Addr) (q1 : Int64) (q2 : Int64) (h0 : Heap) (n0 : Nat) (Z0 : n0 ≤ h0.size) (F_time : Fld Z h0 a0_ "com/example/feeddb/feeddb/core/Position" "time" "J" (.long (0 : Int64))) (F_id : Fld Z h0 a0_ "com/example/feeddb/feeddb/core/Position" "id" "J" (.long (0 : Int64))) (E_ : Exa Z h0 a0_ "com/example/feeddb/feeddb/core/Position") (g_ : n0 ≤ a0_) :
    MetFree l (⟨"com/example/feeddb/feeddb/core/Position", "<init>", "(JJ)V"⟩ : MethodName) (head1 (Jvm.Cond.code (⟨"com/example/feeddb/feeddb/core/Position", "<init>", "(JJ)V"⟩ : MethodName) prog_7_method_1_code 5 none :: ws) ({ frames := 1, cells := 0, slots := 0, locals := 12 } : Room)) (fun a U => a = #[(.ref a0_), (.long q1), (.long q2)] ∧ Z.Warmed39 U.vm ∧ U.heap = h0) (fun _ _ _ _ _ => True) (fun _ U o U' => ∃ v L, o = .returned v ∧ Q1 Z a0_ q1 q2 h0 n0 v U'.heap L ∧ FrameEnd U o U' L ({ frames := 1, cells := 0, slots := 0, locals := 12 } : Room).cells ({ frames := 1, cells := 0, slots := 0, locals := 12 } : Room).slots) := by
  refine MetFree.of_bodySF (plainFor_of_name own_pn1) hisR ?_
  intro p e s m args below meth c s₁ Bd hml0 hP hK
  obtain ⟨rfl, hZ, hh⟩ := hP
  have hx := Bd.exec
  have hby := Bd.bytes
  have hml : c.maxLocals = 5 := hml0
  have hown : s.vm.findClass "com/example/feeddb/feeddb/core/Position" = some m.cls := findClass_of_methodNamed Bd.named
  have hnm := (name_of_methodNamed Bd.named Bd.method).1
  have X0 : Stand p l e ({ frames := 1, cells := 0, slots := 0, locals := 12 } : Room) s m #[(.ref a0_), (.long q1), (.long q2)] below meth c s₁ [] 0 0 := Stand.of_body Bd
  have e0 : s₁.heap = h0 := by rw [← hh, Bd.state]; rfl
  have N0 := Fr.nil n0
  have k0 : own_To p e below s₁ (mkF m 0 #[.val (.ref a0_), .val (.long q1), .second, .val (.long q2), .second] []) s₁ (entryFrame m #[(.ref a0_), (.long q1), (.long q2)] 5) := fun t k => castTop (own_ef1 m a0_ q1 q2) k
  have ki : own_To p e below s₁ (mkF m 0 #[.val (.ref a0_), .val (.long q1), .second, .val (.long q2), .second] []) s₁ (mkF m 0 #[.val (.ref a0_), .val (.long q1), .second, .val (.long q2), .second] []) := fun t q => q
  obtain ⟨T1, X1, e1, st1⟩ := initO X0 hx hZ hown (hw _ (List.mem_of_getElem? (i := 6) rfl)) (hw _ (List.mem_of_getElem? (i := 7) rfl)) (hw _ (List.mem_of_getElem? (i := 8) rfl)) e0 (g := (mkF m 1 #[.val (.ref a0_), .val (.long q1), .second, .val (.long q2), .second] [(.ref a0_)])) rfl (by rw [hml]; rfl) rfl (hb hby own_d1_1) (by decide) (W := 0) (by show 2 * 0 + _ ≤ _; exact Nat.le_of_eq rfl) (by decide)
  obtain ⟨T2, h2, X2, e2, W2, st2⟩ := putF X1 hx hZ hown (host := "") (Or.inl (hw _ (List.mem_of_getElem? (i := 9) rfl))) Via.refl e1 F_time E_ (Or.inr ⟨(hw _ (List.mem_of_getElem? (i := 10) rfl)), rfl, hnm⟩) (hw _ (List.mem_of_getElem? (i := 1) rfl)) (ty := .long) (by decide) rfl rfl (g := (mkF m 6 #[.val (.ref a0_), .val (.long q1), .second, .val (.long q2), .second] [(.long q1), (.ref a0_)])) rfl rfl (hb hby own_d1_6)
  have N2 := Fr.snoc X2 N0 g_
  have Fw2 := F_time.same W2
  have F3 := (F_id.other W2 (Or.inr (slot_ne (Or.inr (hw _ (List.mem_of_getElem? (i := 12) rfl))) (Or.inr (hw _ (List.mem_of_getElem? (i := 10) rfl))) (by decide) (t := .long) (t' := .long) (by decide) (by decide))))
  have F4 := (E_.wr W2)
  obtain ⟨T5, h5, X5, e5, W5, st5⟩ := putF X2 hx hZ hown (host := "") (Or.inl (hw _ (List.mem_of_getElem? (i := 11) rfl))) Via.refl e2 F3 F4 (Or.inr ⟨(hw _ (List.mem_of_getElem? (i := 12) rfl)), rfl, hnm⟩) (hw _ (List.mem_of_getElem? (i := 1) rfl)) (ty := .long) (by decide) rfl rfl (g := (mkF m 11 #[.val (.ref a0_), .val (.long q1), .second, .val (.long q2), .second] [(.long q2), (.ref a0_)])) rfl rfl (hb hby own_d1_11)
  have N5 := Fr.snoc X5 N2 g_
  have Fw5 := F3.same W5
  have F6 := (Fw2.other W5 (Or.inr (slot_ne (Or.inr (hw _ (List.mem_of_getElem? (i := 10) rfl))) (Or.inr (hw _ (List.mem_of_getElem? (i := 12) rfl))) (by decide) (t := .long) (t' := .long) (by decide) (by decide))))
  have F7 := (F4.wr W5)
  have K8 : Keep h0 h5 [a0_] := (((Keep.refl h0 [a0_]).wr W2 (Or.inl (List.mem_of_getElem? (i := 0) rfl))).wr W5 (Or.inl (List.mem_of_getElem? (i := 0) rfl)))
  have k9 : own_To p e below T5 (mkF m 14 #[.val (.ref a0_), .val (.long q1), .second, .val (.long q2), .second] []) s₁ (mkF m 0 #[.val (.ref a0_), .val (.long q1), .second, .val (.long q2), .second] []) := fun t q => ki t (by
    refine XS.aloadN X0.here hx rfl (hb hby own_d1_0) rfl rfl ?_
    show Steps p.tables e below (s₁.setTop (mkF m 1 #[.val (.ref a0_), .val (.long q1), .second, .val (.long q2), .second] [(.ref a0_)])) _
    refine st1 _ ?_
    show Steps p.tables e below (T1.setTop (mkF m 4 #[.val (.ref a0_), .val (.long q1), .second, .val (.long q2), .second] [])) _
    refine XS.aloadN X1.here hx rfl (hb hby own_d1_4) rfl rfl ?_
    show Steps p.tables e below (T1.setTop (mkF m 5 #[.val (.ref a0_), .val (.long q1), .second, .val (.long q2), .second] [(.ref a0_)])) _
    refine XS.lloadN X1.here hx rfl (hb hby own_d1_5) rfl ?_
    show Steps p.tables e below (T1.setTop (mkF m 6 #[.val (.ref a0_), .val (.long q1), .second, .val (.long q2), .second] [(.long q1), (.ref a0_)])) _
    refine st2 _ ?_
    show Steps p.tables e below (T2.setTop (mkF m 9 #[.val (.ref a0_), .val (.long q1), .second, .val (.long q2), .second] [])) _
    refine XS.aloadN X2.here hx rfl (hb hby own_d1_9) rfl rfl ?_
    show Steps p.tables e below (T2.setTop (mkF m 10 #[.val (.ref a0_), .val (.long q1), .second, .val (.long q2), .second] [(.ref a0_)])) _
    refine XS.lloadN X2.here hx rfl (hb hby own_d1_10) rfl ?_
    show Steps p.tables e below (T2.setTop (mkF m 11 #[.val (.ref a0_), .val (.long q1), .second, .val (.long q2), .second] [(.long q2), (.ref a0_)])) _
    refine st5 _ ?_
    show Steps p.tables e below (T5.setTop (mkF m 14 #[.val (.ref a0_), .val (.long q1), .second, .val (.long q2), .second] [])) _
    exact q)
  obtain ⟨fs, hr, hrun, hended, hW, hsame⟩ := X5.leave (v := none) (fun _ => rfl)
  refine ⟨_, _, k0 _ (k9 _ ?_), hrun, hended, _, _, rfl, ?_, ⟨_, rfl⟩, hW, hsame.mono (by decide) (by decide)⟩
  · show Steps p.tables e below (T5.setTop (mkF m 14 #[.val (.ref a0_), .val (.long q1), .second, .val (.long q2), .second] [])) _
    exact X5.returnOut hx Bd.returns (hb hby own_d1_14) hr
  · show Q1 Z a0_ q1 q2 h0 n0 _ T5.heap _
    rw [e5]
    exact ⟨rfl, N5, K8, F7, F6, Fw5⟩
theorem own_d6_0 : decode jdk_18_method_1_code 0 = .ok (.aload_n 0, 1) := by decide +kernel
theorem own_d6_1 : decode jdk_18_method_1_code 1 = .ok (.invokespecial 1, 3) := by decide +kernel
theorem own_d6_4 : decode jdk_18_method_1_code 4 = .ok (.return_, 1) := by decide +kernel
theorem own_pn6 : plainName "java/lang/Number" = true := by first | (simp [plainName, overriddenIn]; done) | decide +kernel
theorem own_ef6 (m : MethodId) (x0 : Addr) : entryFrame m #[(.ref x0)] 1 = mkF m 0 #[.val (.ref x0)] [] := by first | (simp [entryFrame, mkF, argsToLocals, Value.category]; done) | rfl
def Q6 (Z : State) (a0 : Addr) (h0 : Heap) (n0 : Nat) (v : Option Value) (h : Heap) (L : List Loc) : Prop := v = none ∧ Fr n0 L ∧ h = h0
set_option maxRecDepth 65536 in
set_option maxHeartbeats 40000000 in
theorem rm6 (l : Launch) (Z : State) (a0 : Array Value) (hw : ∀ d ∈ tables_1, d.before a0 Z = true) (ws : List Jvm.Cond) (a0 : Addr) (h0 : Heap) (n0 : Nat) (Z0 : n0 ≤ h0.size) :
    MetFree l (⟨"java/lang/Number", "<init>", "()V"⟩ : MethodName) (head1 (Jvm.Cond.code (⟨"java/lang/Number", "<init>", "()V"⟩ : MethodName) jdk_18_method_1_code 1 none :: ws) ({ frames := 1, cells := 0, slots := 0, locals := 12 } : Room)) (fun a U => a = #[(.ref a0)] ∧ Z.Warmed39 U.vm ∧ U.heap = h0) (fun _ _ _ _ _ => True) (fun _ U o U' => ∃ v L, o = .returned v ∧ Q6 Z a0 h0 n0 v U'.heap L ∧ FrameEnd U o U' L ({ frames := 1, cells := 0, slots := 0, locals := 12 } : Room).cells ({ frames := 1, cells := 0, slots := 0, locals := 12 } : Room).slots) := by
  refine MetFree.of_bodySF (plainFor_of_name own_pn6) hisR ?_
  intro p e s m args below meth c s₁ Bd hml0 hP hK
  obtain ⟨rfl, hZ, hh⟩ := hP
  have hx := Bd.exec
  have hby := Bd.bytes
  have hml : c.maxLocals = 1 := hml0
  have hown : s.vm.findClass "java/lang/Number" = some m.cls := findClass_of_methodNamed Bd.named
  have hnm := (name_of_methodNamed Bd.named Bd.method).1
  have X0 : Stand p l e ({ frames := 1, cells := 0, slots := 0, locals := 12 } : Room) s m #[(.ref a0)] below meth c s₁ [] 0 0 := Stand.of_body Bd
  have e0 : s₁.heap = h0 := by rw [← hh, Bd.state]; rfl
  have N0 := Fr.nil n0
  have k0 : own_To p e below s₁ (mkF m 0 #[.val (.ref a0)] []) s₁ (entryFrame m #[(.ref a0)] 1) := fun t k => castTop (own_ef6 m a0) k
  have ki : own_To p e below s₁ (mkF m 0 #[.val (.ref a0)] []) s₁ (mkF m 0 #[.val (.ref a0)] []) := fun t q => q
  obtain ⟨T1, X1, e1, st1⟩ := initO X0 hx hZ hown (hw _ (List.mem_of_getElem? (i := 38) rfl)) (hw _ (List.mem_of_getElem? (i := 7) rfl)) (hw _ (List.mem_of_getElem? (i := 8) rfl)) e0 (g := (mkF m 1 #[.val (.ref a0)] [(.ref a0)])) rfl (by rw [hml]; rfl) rfl (hb hby own_d6_1) (by decide) (W := 0) (by show 2 * 0 + _ ≤ _; exact Nat.le_of_eq rfl) (by decide)
  have k2 : own_To p e below T1 (mkF m 4 #[.val (.ref a0)] []) s₁ (mkF m 0 #[.val (.ref a0)] []) := fun t q => ki t (by
    refine XS.aloadN X0.here hx rfl (hb hby own_d6_0) rfl rfl ?_
    show Steps p.tables e below (s₁.setTop (mkF m 1 #[.val (.ref a0)] [(.ref a0)])) _
    refine st1 _ ?_
    show Steps p.tables e below (T1.setTop (mkF m 4 #[.val (.ref a0)] [])) _
    exact q)
  obtain ⟨fs, hr, hrun, hended, hW, hsame⟩ := X1.leave (v := none) (fun _ => rfl)
  refine ⟨_, _, k0 _ (k2 _ ?_), hrun, hended, _, _, rfl, ?_, ⟨_, rfl⟩, hW, hsame.mono (by decide) (by decide)⟩
  · show Steps p.tables e below (T1.setTop (mkF m 4 #[.val (.ref a0)] [])) _
    exact X1.returnOut hx Bd.returns (hb hby own_d6_4) hr
  · show Q6 Z a0 h0 n0 _ T1.heap _
    rw [e1]
    exact ⟨rfl, N0, rfl⟩
theorem own_pd0 : parseMethodDescriptor "()V" = some ⟨[], none⟩ := by decide +kernel
theorem own_d5_0 : decode jdk_35_method_26_code 0 = .ok (.aload_n 0, 1) := by decide +kernel
theorem own_d5_1 : decode jdk_35_method_26_code 1 = .ok (.invokespecial 270, 3) := by decide +kernel
theorem own_d5_4 : decode jdk_35_method_26_code 4 = .ok (.aload_n 0, 1) := by decide +kernel
theorem own_d5_5 : decode jdk_35_method_26_code 5 = .ok (.lload_n 1, 1) := by decide +kernel
theorem own_d5_6 : decode jdk_35_method_26_code 6 = .ok (.putfield 273, 3) := by decide +kernel
theorem own_d5_9 : decode jdk_35_method_26_code 9 = .ok (.return_, 1) := by decide +kernel
theorem own_pn5 : plainName "java/lang/Long" = true := by first | (simp [plainName, overriddenIn]; done) | decide +kernel
theorem own_ef5 (m : MethodId) (x0 : Addr) (x1 : Int64) : entryFrame m #[(.ref x0), (.long x1)] 3 = mkF m 0 #[.val (.ref x0), .val (.long x1), .second] [] := by first | (simp [entryFrame, mkF, argsToLocals, Value.category]; done) | rfl
def Q5 (Z : State) (a0_ : Addr) (q1 : Int64) (h0 : Heap) (n0 : Nat) (v : Option Value) (h : Heap) (L : List Loc) : Prop := v = none ∧ Fr n0 L ∧ Keep h0 h [a0_] ∧ Exa Z h a0_ "java/lang/Long" ∧ Fld Z h a0_ "java/lang/Long" "value" "J" (.long q1)
set_option maxRecDepth 65536 in
set_option maxHeartbeats 40000000 in
theorem rm5 (l : Launch) (Z : State) (a0 : Array Value) (hw : ∀ d ∈ tables_1, d.before a0 Z = true) (ws : List Jvm.Cond) (a0_ : Addr) (q1 : Int64) (h0 : Heap) (n0 : Nat) (Z0 : n0 ≤ h0.size) (F_value : Fld Z h0 a0_ "java/lang/Long" "value" "J" (.long (0 : Int64))) (E_ : Exa Z h0 a0_ "java/lang/Long") (g_ : n0 ≤ a0_) :
    MetFree l (⟨"java/lang/Long", "<init>", "(J)V"⟩ : MethodName) (head1 (Jvm.Cond.code (⟨"java/lang/Long", "<init>", "(J)V"⟩ : MethodName) jdk_35_method_26_code 3 none :: ws) ({ frames := 2, cells := 0, slots := 0, locals := 24 } : Room)) (fun a U => a = #[(.ref a0_), (.long q1)] ∧ Z.Warmed39 U.vm ∧ U.heap = h0) (fun _ _ _ _ _ => True) (fun _ U o U' => ∃ v L, o = .returned v ∧ Q5 Z a0_ q1 h0 n0 v U'.heap L ∧ FrameEnd U o U' L ({ frames := 2, cells := 0, slots := 0, locals := 24 } : Room).cells ({ frames := 2, cells := 0, slots := 0, locals := 24 } : Room).slots) := by
  refine MetFree.of_bodySF (plainFor_of_name own_pn5) hisR ?_
  intro p e s m args below meth c s₁ Bd hml0 hP hK
  obtain ⟨rfl, hZ, hh⟩ := hP
  have hx := Bd.exec
  have hby := Bd.bytes
  have hml : c.maxLocals = 3 := hml0
  have hown : s.vm.findClass "java/lang/Long" = some m.cls := findClass_of_methodNamed Bd.named
  have hnm := (name_of_methodNamed Bd.named Bd.method).1
  have X0 : Stand p l e ({ frames := 2, cells := 0, slots := 0, locals := 24 } : Room) s m #[(.ref a0_), (.long q1)] below meth c s₁ [] 0 0 := Stand.of_body Bd
  have e0 : s₁.heap = h0 := by rw [← hh, Bd.state]; rfl
  have N0 := Fr.nil n0
  have k0 : own_To p e below s₁ (mkF m 0 #[.val (.ref a0_), .val (.long q1), .second] []) s₁ (entryFrame m #[(.ref a0_), (.long q1)] 3) := fun t k => castTop (own_ef5 m a0_ q1) k
  have ki : own_To p e below s₁ (mkF m 0 #[.val (.ref a0_), .val (.long q1), .second] []) s₁ (mkF m 0 #[.val (.ref a0_), .val (.long q1), .second] []) := fun t q => q
  obtain ⟨_, _, ⟨T1, L1, kk1, n1⟩, -, X1, ⟨Lc1, hQ1, l1, y1, z1⟩, st1⟩ := X0.specialBack hx (y := (⟨"java/lang/Number", "<init>", "()V"⟩ : MethodName)) rfl hown (mvT hZ (hw _ (List.mem_of_getElem? (i := 32) rfl))) (mvT hZ (hw _ (List.mem_of_getElem? (i := 33) rfl))) (mvT hZ (hw _ (List.mem_of_getElem? (i := 37) rfl))) (by decide) (backOf (W := 0) (rm6 l Z a0 hw [] a0_ h0 n0 Z0) hZ (hw _ (List.mem_of_getElem? (i := 37) rfl)) (hw _ (List.mem_of_getElem? (i := 36) rfl)) (by decide) (by decide)) (g := (mkF m 1 #[.val (.ref a0_), .val (.long q1), .second] [(.ref a0_)])) rfl (by rw [hml]; rfl) (Steps.refl _) (a := a0_) (argsL := []) (rest := []) (lenOf own_pd0 rfl) rfl (by show 2 * 0 + _ ≤ _; exact Nat.le_of_eq rfl) (hb hby own_d5_1) (fun _ _ => ⟨rfl, e0, (by decide : 0 + 0 ≤ _), (by decide : 0 + 0 ≤ _)⟩)
  dsimp only [Pt.U, Pt.locs, Pt.cells, Pt.slots] at X1 l1 y1 z1 st1 hQ1
  subst l1 y1 z1
  obtain ⟨rfl, N1q, e1⟩ := hQ1
  have N1 := Fr.app N0 N1q
  obtain ⟨T2, h2, X2, e2, W2, st2⟩ := putF X1 hx hZ hown (host := "") (Or.inl (hw _ (List.mem_of_getElem? (i := 39) rfl))) Via.refl e1 F_value E_ (Or.inr ⟨(hw _ (List.mem_of_getElem? (i := 40) rfl)), rfl, hnm⟩) (hw _ (List.mem_of_getElem? (i := 27) rfl)) (ty := .long) (by decide) rfl rfl (g := (mkF m 6 #[.val (.ref a0_), .val (.long q1), .second] [(.long q1), (.ref a0_)])) rfl rfl (hb hby own_d5_6)
  have N2 := Fr.snoc X2 N1 g_
  have Fw2 := F_value.same W2
  have F3 := (E_.wr W2)
  have K4 : Keep h0 h2 [a0_] := ((Keep.refl h0 [a0_]).wr W2 (Or.inl (List.mem_of_getElem? (i := 0) rfl)))
  have k5 : own_To p e below T2 (mkF m 9 #[.val (.ref a0_), .val (.long q1), .second] []) s₁ (mkF m 0 #[.val (.ref a0_), .val (.long q1), .second] []) := fun t q => ki t (by
    refine XS.aloadN X0.here hx rfl (hb hby own_d5_0) rfl rfl ?_
    show Steps p.tables e below (s₁.setTop (mkF m 1 #[.val (.ref a0_), .val (.long q1), .second] [(.ref a0_)])) _
    refine st1.trans ?_
    show Steps p.tables e below (T1.setTop (mkF m 4 #[.val (.ref a0_), .val (.long q1), .second] [])) _
    refine XS.aloadN X1.here hx rfl (hb hby own_d5_4) rfl rfl ?_
    show Steps p.tables e below (T1.setTop (mkF m 5 #[.val (.ref a0_), .val (.long q1), .second] [(.ref a0_)])) _
    refine XS.lloadN X1.here hx rfl (hb hby own_d5_5) rfl ?_
    show Steps p.tables e below (T1.setTop (mkF m 6 #[.val (.ref a0_), .val (.long q1), .second] [(.long q1), (.ref a0_)])) _
    refine st2 _ ?_
    show Steps p.tables e below (T2.setTop (mkF m 9 #[.val (.ref a0_), .val (.long q1), .second] [])) _
    exact q)
  obtain ⟨fs, hr, hrun, hended, hW, hsame⟩ := X2.leave (v := none) (fun _ => rfl)
  refine ⟨_, _, k0 _ (k5 _ ?_), hrun, hended, _, _, rfl, ?_, ⟨_, rfl⟩, hW, hsame.mono (by decide) (by decide)⟩
  · show Steps p.tables e below (T2.setTop (mkF m 9 #[.val (.ref a0_), .val (.long q1), .second] [])) _
    exact X2.returnOut hx Bd.returns (hb hby own_d5_9) hr
  · show Q5 Z a0_ q1 h0 n0 _ T2.heap _
    rw [e2]
    exact ⟨rfl, N2, K4, F3, Fw2⟩
theorem own_d3_0 : decode prog_7_method_4_code 0 = .ok (.aload_n 1, 1) := by decide +kernel
theorem own_d3_1 : decode prog_7_method_4_code 1 = .ok (.instanceof 8, 3) := by decide +kernel
theorem own_d3_4 : decode prog_7_method_4_code 4 = .ok (.ifCond .eq 36, 3) := by decide +kernel
theorem own_d3_40 : decode prog_7_method_4_code 40 = .ok (.iconst 0, 1) := by decide +kernel
theorem own_d3_41 : decode prog_7_method_4_code 41 = .ok (.ireturn, 1) := by decide +kernel
theorem own_pn3 : plainName "com/example/feeddb/feeddb/core/Position" = true := by first | (simp [plainName, overriddenIn]; done) | decide +kernel
theorem own_ef3n (m : MethodId) (x0 : Addr) : entryFrame m #[(.ref x0), .null] 3 = mkF m 0 #[.val (.ref x0), .val .null, .unset] [] := by first | (simp [entryFrame, mkF, argsToLocals, Value.category]; done) | rfl
def Q3n (Z : State) (a0_ : Addr) (h0 : Heap) (n0 : Nat) (v : Option Value) (h : Heap) (L : List Loc) : Prop := v = some (.int (0 : Int32)) ∧ Fr n0 L ∧ h = h0
set_option maxRecDepth 65536 in
set_option maxHeartbeats 40000000 in
theorem rm3n (l : Launch) (Z : State) (a0 : Array Value) (hw : ∀ d ∈ tables_1, d.before a0 Z = true) (ws : List Jvm.Cond) (a0_ : Addr) (h0 : Heap) (n0 : Nat) (Z0 : n0 ≤ h0.size) :
    MetFree l (⟨"com/example/feeddb/feeddb/core/Position", "equals", "(Ljava/lang/Object;)Z"⟩ : MethodName) (head1 (Jvm.Cond.code (⟨"com/example/feeddb/feeddb/core/Position", "equals", "(Ljava/lang/Object;)Z"⟩ : MethodName) prog_7_method_4_code 3 (some .boolean) :: ws) ({ frames := 0, cells := 0, slots := 0, locals := 0 } : Room)) (fun a U => a = #[(.ref a0_), .null] ∧ Z.Warmed39 U.vm ∧ U.heap = h0) (fun _ _ _ _ _ => True) (fun _ U o U' => ∃ v L, o = .returned v ∧ Q3n Z a0_ h0 n0 v U'.heap L ∧ FrameEnd U o U' L ({ frames := 0, cells := 0, slots := 0, locals := 0 } : Room).cells ({ frames := 0, cells := 0, slots := 0, locals := 0 } : Room).slots) := by
  refine MetFree.of_bodySF (plainFor_of_name own_pn3) hisR ?_
  intro p e s m args below meth c s₁ Bd hml0 hP hK
  obtain ⟨rfl, hZ, hh⟩ := hP
  have hx := Bd.exec
  have hby := Bd.bytes
  have hml : c.maxLocals = 3 := hml0
  have hown : s.vm.findClass "com/example/feeddb/feeddb/core/Position" = some m.cls := findClass_of_methodNamed Bd.named
  have hnm := (name_of_methodNamed Bd.named Bd.method).1
  have X0 : Stand p l e ({ frames := 0, cells := 0, slots := 0, locals := 0 } : Room) s m #[(.ref a0_), .null] below meth c s₁ [] 0 0 := Stand.of_body Bd
  have e0 : s₁.heap = h0 := by rw [← hh, Bd.state]; rfl
  have N0 := Fr.nil n0
  have k0 : own_To p e below s₁ (mkF m 0 #[.val (.ref a0_), .val .null, .unset] []) s₁ (entryFrame m #[(.ref a0_), .null] 3) := fun t k => castTop (own_ef3n m a0_) k
  have ki : own_To p e below s₁ (mkF m 0 #[.val (.ref a0_), .val .null, .unset] []) s₁ (mkF m 0 #[.val (.ref a0_), .val .null, .unset] []) := fun t q => q
  have k1 : own_To p e below s₁ (mkF m 41 #[.val (.ref a0_), .val .null, .unset] [(.int (0 : Int32))]) s₁ (mkF m 0 #[.val (.ref a0_), .val .null, .unset] []) := fun t q => ki t (by
    refine XS.aloadN X0.here hx rfl (hb hby own_d3_0) rfl rfl ?_
    show Steps p.tables e below (s₁.setTop (mkF m 1 #[.val (.ref a0_), .val .null, .unset] [.null])) _
    refine X0.instanceofNull hx (g := (mkF m 1 #[.val (.ref a0_), .val .null, .unset] [.null])) rfl rfl (hb hby own_d3_1) _ ?_
    show Steps p.tables e below (s₁.setTop (mkF m 4 #[.val (.ref a0_), .val .null, .unset] [(.int (0 : Int32))])) _
    refine XS.ifYes X0.here hx rfl (pc0 := 4) (pc' := 40) rfl (hb hby own_d3_4) rfl ((if0 _ _).trans (teq rfl).1) (by decide) (by decide) ?_
    show Steps p.tables e below (s₁.setTop (mkF m 40 #[.val (.ref a0_), .val .null, .unset] [])) _
    refine XS.iconst X0.here hx rfl (hb hby own_d3_40) ?_
    show Steps p.tables e below (s₁.setTop (mkF m 41 #[.val (.ref a0_), .val .null, .unset] [(.int (0 : Int32))])) _
    exact q)
  obtain ⟨fs, hr, hrun, hended, hW, hsame⟩ := X0.leave (v := some (.int (0 : Int32))) (fun h => by rw [Bd.returns] at h; cases h)
  refine ⟨_, _, k0 _ (k1 _ ?_), hrun, hended, _, _, rfl, ?_, ⟨_, rfl⟩, hW, hsame.mono (by decide) (by decide)⟩
  · show Steps p.tables e below (s₁.setTop (mkF m 41 #[.val (.ref a0_), .val .null, .unset] [(.int (0 : Int32))])) _
    exact retN X0 hx (t := .boolean) Bd.returns (by simp) (hb hby own_d3_41) hr
  · show Q3n Z a0_ h0 n0 _ s₁.heap _
    rw [e0]
    exact ⟨rfl, N0, rfl⟩
theorem own_ef3l (m : MethodId) (x0 : Addr) (x1 : Addr) : entryFrame m #[(.ref x0), (.ref x1)] 3 = mkF m 0 #[.val (.ref x0), .val (.ref x1), .unset] [] := by first | (simp [entryFrame, mkF, argsToLocals, Value.category]; done) | rfl
def Q3l (Z : State) (a0_ : Addr) (a1 : Addr) (h0 : Heap) (n0 : Nat) (v : Option Value) (h : Heap) (L : List Loc) : Prop := v = some (.int (0 : Int32)) ∧ Fr n0 L ∧ h = h0
set_option maxRecDepth 65536 in
set_option maxHeartbeats 40000000 in
theorem rm3l (l : Launch) (Z : State) (a0 : Array Value) (hw : ∀ d ∈ tables_1, d.before a0 Z = true) (ws : List Jvm.Cond) (a0_ : Addr) (a1 : Addr) (h0 : Heap) (n0 : Nat) (Z0 : n0 ≤ h0.size) (E1 : Exa Z h0 a1 "java/lang/Long") :
    MetFree l (⟨"com/example/feeddb/feeddb/core/Position", "equals", "(Ljava/lang/Object;)Z"⟩ : MethodName) (head1 (Jvm.Cond.code (⟨"com/example/feeddb/feeddb/core/Position", "equals", "(Ljava/lang/Object;)Z"⟩ : MethodName) prog_7_method_4_code 3 (some .boolean) :: ws) ({ frames := 0, cells := 0, slots := 0, locals := 0 } : Room)) (fun a U => a = #[(.ref a0_), (.ref a1)] ∧ Z.Warmed39 U.vm ∧ U.heap = h0) (fun _ _ _ _ _ => True) (fun _ U o U' => ∃ v L, o = .returned v ∧ Q3l Z a0_ a1 h0 n0 v U'.heap L ∧ FrameEnd U o U' L ({ frames := 0, cells := 0, slots := 0, locals := 0 } : Room).cells ({ frames := 0, cells := 0, slots := 0, locals := 0 } : Room).slots) := by
  refine MetFree.of_bodySF (plainFor_of_name own_pn3) hisR ?_
  intro p e s m args below meth c s₁ Bd hml0 hP hK
  obtain ⟨rfl, hZ, hh⟩ := hP
  have hx := Bd.exec
  have hby := Bd.bytes
  have hml : c.maxLocals = 3 := hml0
  have hown : s.vm.findClass "com/example/feeddb/feeddb/core/Position" = some m.cls := findClass_of_methodNamed Bd.named
  have hnm := (name_of_methodNamed Bd.named Bd.method).1
  have X0 : Stand p l e ({ frames := 0, cells := 0, slots := 0, locals := 0 } : Room) s m #[(.ref a0_), (.ref a1)] below meth c s₁ [] 0 0 := Stand.of_body Bd
  have e0 : s₁.heap = h0 := by rw [← hh, Bd.state]; rfl
  have N0 := Fr.nil n0
  have k0 : own_To p e below s₁ (mkF m 0 #[.val (.ref a0_), .val (.ref a1), .unset] []) s₁ (entryFrame m #[(.ref a0_), (.ref a1)] 3) := fun t k => castTop (own_ef3l m a0_ a1) k
  have ki : own_To p e below s₁ (mkF m 0 #[.val (.ref a0_), .val (.ref a1), .unset] []) s₁ (mkF m 0 #[.val (.ref a0_), .val (.ref a1), .unset] []) := fun t q => q
  obtain ⟨T1, X1, e1, st1⟩ := instNo X0 hx hZ hown (hw _ (List.mem_of_getElem? (i := 18) rfl)) e0 E1 (own_no (hw _ (List.mem_of_getElem? (i := 41) rfl)) (hw _ (List.mem_of_getElem? (i := 1) rfl)) (NS.step (hw _ (List.mem_of_getElem? (i := 41) rfl)) (NS.step (hw _ (List.mem_of_getElem? (i := 42) rfl)) (own_root (hw _ (List.mem_of_getElem? (i := 43) rfl)) (hw _ (List.mem_of_getElem? (i := 1) rfl)) (by decide)) (by decide)) (by decide)) (by decide)) (g := (mkF m 1 #[.val (.ref a0_), .val (.ref a1), .unset] [(.ref a1)])) rfl rfl (hb hby own_d3_1)
  have k2 : own_To p e below T1 (mkF m 41 #[.val (.ref a0_), .val (.ref a1), .unset] [(.int (0 : Int32))]) s₁ (mkF m 0 #[.val (.ref a0_), .val (.ref a1), .unset] []) := fun t q => ki t (by
    refine XS.aloadN X0.here hx rfl (hb hby own_d3_0) rfl rfl ?_
    show Steps p.tables e below (s₁.setTop (mkF m 1 #[.val (.ref a0_), .val (.ref a1), .unset] [(.ref a1)])) _
    refine st1 _ ?_
    show Steps p.tables e below (T1.setTop (mkF m 4 #[.val (.ref a0_), .val (.ref a1), .unset] [(.int (0 : Int32))])) _
    refine XS.ifYes X1.here hx rfl (pc0 := 4) (pc' := 40) rfl (hb hby own_d3_4) rfl ((if0 _ _).trans (teq rfl).1) (by decide) (by decide) ?_
    show Steps p.tables e below (T1.setTop (mkF m 40 #[.val (.ref a0_), .val (.ref a1), .unset] [])) _
    refine XS.iconst X1.here hx rfl (hb hby own_d3_40) ?_
    show Steps p.tables e below (T1.setTop (mkF m 41 #[.val (.ref a0_), .val (.ref a1), .unset] [(.int (0 : Int32))])) _
    exact q)
  obtain ⟨fs, hr, hrun, hended, hW, hsame⟩ := X1.leave (v := some (.int (0 : Int32))) (fun h => by rw [Bd.returns] at h; cases h)
  refine ⟨_, _, k0 _ (k2 _ ?_), hrun, hended, _, _, rfl, ?_, ⟨_, rfl⟩, hW, hsame.mono (by decide) (by decide)⟩
  · show Steps p.tables e below (T1.setTop (mkF m 41 #[.val (.ref a0_), .val (.ref a1), .unset] [(.int (0 : Int32))])) _
    exact retN X1 hx (t := .boolean) Bd.returns (by simp) (hb hby own_d3_41) hr
  · show Q3l Z a0_ a1 h0 n0 _ T1.heap _
    rw [e1]
    exact ⟨rfl, N0, rfl⟩
theorem own_d3_7 : decode prog_7_method_4_code 7 = .ok (.aload_n 1, 1) := by decide +kernel
theorem own_d3_8 : decode prog_7_method_4_code 8 = .ok (.checkcast 8, 3) := by decide +kernel
theorem own_d3_11 : decode prog_7_method_4_code 11 = .ok (.astore_n 2, 1) := by decide +kernel
theorem own_d3_12 : decode prog_7_method_4_code 12 = .ok (.aload_n 0, 1) := by decide +kernel
theorem own_d3_13 : decode prog_7_method_4_code 13 = .ok (.getfield 7, 3) := by decide +kernel
theorem own_d3_16 : decode prog_7_method_4_code 16 = .ok (.aload_n 2, 1) := by decide +kernel
theorem own_d3_17 : decode prog_7_method_4_code 17 = .ok (.getfield 7, 3) := by decide +kernel
theorem own_d3_20 : decode prog_7_method_4_code 20 = .ok (.lcmp, 1) := by decide +kernel
theorem own_d3_21 : decode prog_7_method_4_code 21 = .ok (.ifCond .ne 19, 3) := by decide +kernel
theorem own_d3_24 : decode prog_7_method_4_code 24 = .ok (.aload_n 0, 1) := by decide +kernel
theorem own_d3_25 : decode prog_7_method_4_code 25 = .ok (.getfield 13, 3) := by decide +kernel
theorem own_d3_28 : decode prog_7_method_4_code 28 = .ok (.aload_n 2, 1) := by decide +kernel
theorem own_d3_29 : decode prog_7_method_4_code 29 = .ok (.getfield 13, 3) := by decide +kernel
theorem own_d3_32 : decode prog_7_method_4_code 32 = .ok (.lcmp, 1) := by decide +kernel
theorem own_d3_33 : decode prog_7_method_4_code 33 = .ok (.ifCond .ne 7, 3) := by decide +kernel
theorem own_d3_36 : decode prog_7_method_4_code 36 = .ok (.iconst 1, 1) := by decide +kernel
theorem own_d3_37 : decode prog_7_method_4_code 37 = .ok (.goto 4, 3) := by decide +kernel
theorem own_ef3p (m : MethodId) (x0 : Addr) (x1 : Addr) : entryFrame m #[(.ref x0), (.ref x1)] 3 = mkF m 0 #[.val (.ref x0), .val (.ref x1), .unset] [] := by first | (simp [entryFrame, mkF, argsToLocals, Value.category]; done) | rfl
def own_eq (t0 i0 t1 i1 : Int64) : Int32 := (if t0 = t1 then (if i0 = i1 then (1 : Int32) else (0 : Int32)) else (0 : Int32))
def Q3p (Z : State) (a0_ : Addr) (a1 : Addr) (t0 : Int64) (i0 : Int64) (t1 : Int64) (i1 : Int64) (h0 : Heap) (n0 : Nat) (v : Option Value) (h : Heap) (L : List Loc) : Prop := v = some (.int (own_eq t0 i0 t1 i1)) ∧ Fr n0 L ∧ h = h0
set_option maxRecDepth 65536 in
set_option maxHeartbeats 40000000 in
theorem rm3p (l : Launch) (Z : State) (a0 : Array Value) (hw : ∀ d ∈ tables_1, d.before a0 Z = true) (ws : List Jvm.Cond) (a0_ : Addr) (a1 : Addr) (t0 : Int64) (i0 : Int64) (t1 : Int64) (i1 : Int64) (h0 : Heap) (n0 : Nat) (Z0 : n0 ≤ h0.size) (Ft0 : Fld Z h0 a0_ "com/example/feeddb/feeddb/core/Position" "time" "J" (.long t0)) (Fi0 : Fld Z h0 a0_ "com/example/feeddb/feeddb/core/Position" "id" "J" (.long i0)) (Ft1 : Fld Z h0 a1 "com/example/feeddb/feeddb/core/Position" "time" "J" (.long t1)) (Fi1 : Fld Z h0 a1 "com/example/feeddb/feeddb/core/Position" "id" "J" (.long i1)) (E1 : Exa Z h0 a1 "com/example/feeddb/feeddb/core/Position") :
    MetFree l (⟨"com/example/feeddb/feeddb/core/Position", "equals", "(Ljava/lang/Object;)Z"⟩ : MethodName) (head1 (Jvm.Cond.code (⟨"com/example/feeddb/feeddb/core/Position", "equals", "(Ljava/lang/Object;)Z"⟩ : MethodName) prog_7_method_4_code 3 (some .boolean) :: ws) ({ frames := 0, cells := 0, slots := 0, locals := 0 } : Room)) (fun a U => a = #[(.ref a0_), (.ref a1)] ∧ Z.Warmed39 U.vm ∧ U.heap = h0) (fun _ _ _ _ _ => True) (fun _ U o U' => ∃ v L, o = .returned v ∧ Q3p Z a0_ a1 t0 i0 t1 i1 h0 n0 v U'.heap L ∧ FrameEnd U o U' L ({ frames := 0, cells := 0, slots := 0, locals := 0 } : Room).cells ({ frames := 0, cells := 0, slots := 0, locals := 0 } : Room).slots) := by
  refine MetFree.of_bodySF (plainFor_of_name own_pn3) hisR ?_
  intro p e s m args below meth c s₁ Bd hml0 hP hK
  obtain ⟨rfl, hZ, hh⟩ := hP
  have hx := Bd.exec
  have hby := Bd.bytes
  have hml : c.maxLocals = 3 := hml0
  have hown : s.vm.findClass "com/example/feeddb/feeddb/core/Position" = some m.cls := findClass_of_methodNamed Bd.named
  have hnm := (name_of_methodNamed Bd.named Bd.method).1
  have X0 : Stand p l e ({ frames := 0, cells := 0, slots := 0, locals := 0 } : Room) s m #[(.ref a0_), (.ref a1)] below meth c s₁ [] 0 0 := Stand.of_body Bd
  have e0 : s₁.heap = h0 := by rw [← hh, Bd.state]; rfl
  have N0 := Fr.nil n0
  have k0 : own_To p e below s₁ (mkF m 0 #[.val (.ref a0_), .val (.ref a1), .unset] []) s₁ (entryFrame m #[(.ref a0_), (.ref a1)] 3) := fun t k => castTop (own_ef3p m a0_ a1) k
  have ki : own_To p e below s₁ (mkF m 0 #[.val (.ref a0_), .val (.ref a1), .unset] []) s₁ (mkF m 0 #[.val (.ref a0_), .val (.ref a1), .unset] []) := fun t q => q
  obtain ⟨T1, X1, e1, st1⟩ := instY X0 hx hZ hown (hw _ (List.mem_of_getElem? (i := 18) rfl)) e0 (Ins.self E1) (g := (mkF m 1 #[.val (.ref a0_), .val (.ref a1), .unset] [(.ref a1)])) rfl rfl (hb hby own_d3_1)
  obtain ⟨T2, X2, e2, st2⟩ := castY X1 hx hZ hown (hw _ (List.mem_of_getElem? (i := 18) rfl)) e1 (Ins.self E1) (g := (mkF m 8 #[.val (.ref a0_), .val (.ref a1), .unset] [(.ref a1)])) rfl rfl (hb hby own_d3_8)
  obtain ⟨T3, X3, e3, st3⟩ := getF X2 hx hZ hown (host := "") (Or.inl (hw _ (List.mem_of_getElem? (i := 9) rfl))) Via.refl e2 Ft0 (g := (mkF m 13 #[.val (.ref a0_), .val (.ref a1), .val (.ref a1)] [(.ref a0_)])) rfl rfl (hb hby own_d3_13)
  obtain ⟨T4, X4, e4, st4⟩ := getF X3 hx hZ hown (host := "") (Or.inl (hw _ (List.mem_of_getElem? (i := 9) rfl))) Via.refl e3 Ft1 (g := (mkF m 17 #[.val (.ref a0_), .val (.ref a1), .val (.ref a1)] [(.ref a1), (.long t0)])) rfl rfl (hb hby own_d3_17)
  have k5 : own_To p e below T4 (mkF m 21 #[.val (.ref a0_), .val (.ref a1), .val (.ref a1)] [(.int (lcmpW t0 t1))]) s₁ (mkF m 0 #[.val (.ref a0_), .val (.ref a1), .unset] []) := fun t q => ki t (by
    refine XS.aloadN X0.here hx rfl (hb hby own_d3_0) rfl rfl ?_
    show Steps p.tables e below (s₁.setTop (mkF m 1 #[.val (.ref a0_), .val (.ref a1), .unset] [(.ref a1)])) _
    refine st1 _ ?_
    show Steps p.tables e below (T1.setTop (mkF m 4 #[.val (.ref a0_), .val (.ref a1), .unset] [(.int (1 : Int32))])) _
    refine XS.ifNo X1.here hx rfl (hb hby own_d3_4) rfl ((if0 _ _).trans (feq (by decide)).1) ?_
    show Steps p.tables e below (T1.setTop (mkF m 7 #[.val (.ref a0_), .val (.ref a1), .unset] [])) _
    refine XS.aloadN X1.here hx rfl (hb hby own_d3_7) rfl rfl ?_
    show Steps p.tables e below (T1.setTop (mkF m 8 #[.val (.ref a0_), .val (.ref a1), .unset] [(.ref a1)])) _
    refine st2 _ ?_
    show Steps p.tables e below (T2.setTop (mkF m 11 #[.val (.ref a0_), .val (.ref a1), .unset] [(.ref a1)])) _
    refine XS.astoreN X2.here hx rfl (hb hby own_d3_11) rfl rfl (l' := #[.val (.ref a0_), .val (.ref a1), .val (.ref a1)]) rfl ?_
    show Steps p.tables e below (T2.setTop (mkF m 12 #[.val (.ref a0_), .val (.ref a1), .val (.ref a1)] [])) _
    refine XS.aloadN X2.here hx rfl (hb hby own_d3_12) rfl rfl ?_
    show Steps p.tables e below (T2.setTop (mkF m 13 #[.val (.ref a0_), .val (.ref a1), .val (.ref a1)] [(.ref a0_)])) _
    refine st3 _ ?_
    show Steps p.tables e below (T3.setTop (mkF m 16 #[.val (.ref a0_), .val (.ref a1), .val (.ref a1)] [(.long t0)])) _
    refine XS.aloadN X3.here hx rfl (hb hby own_d3_16) rfl rfl ?_
    show Steps p.tables e below (T3.setTop (mkF m 17 #[.val (.ref a0_), .val (.ref a1), .val (.ref a1)] [(.ref a1), (.long t0)])) _
    refine st4 _ ?_
    show Steps p.tables e below (T4.setTop (mkF m 20 #[.val (.ref a0_), .val (.ref a1), .val (.ref a1)] [(.long t1), (.long t0)])) _
    refine XS.lcmp X4.here hx rfl (hb hby own_d3_20) rfl ?_
    show Steps p.tables e below (T4.setTop (mkF m 21 #[.val (.ref a0_), .val (.ref a1), .val (.ref a1)] [(.int (lcmpW t0 t1))])) _
    exact q)
  by_cases hc6 : t0 = t1
  ·
    obtain ⟨T7, X7, e7, st7⟩ := getF X4 hx hZ hown (host := "") (Or.inl (hw _ (List.mem_of_getElem? (i := 11) rfl))) Via.refl e4 Fi0 (g := (mkF m 25 #[.val (.ref a0_), .val (.ref a1), .val (.ref a1)] [(.ref a0_)])) rfl rfl (hb hby own_d3_25)
    obtain ⟨T8, X8, e8, st8⟩ := getF X7 hx hZ hown (host := "") (Or.inl (hw _ (List.mem_of_getElem? (i := 11) rfl))) Via.refl e7 Fi1 (g := (mkF m 29 #[.val (.ref a0_), .val (.ref a1), .val (.ref a1)] [(.ref a1), (.long i0)])) rfl rfl (hb hby own_d3_29)
    have k9 : own_To p e below T8 (mkF m 33 #[.val (.ref a0_), .val (.ref a1), .val (.ref a1)] [(.int (lcmpW i0 i1))]) s₁ (mkF m 0 #[.val (.ref a0_), .val (.ref a1), .unset] []) := fun t q => k5 t (by
      refine XS.ifNo X4.here hx rfl (hb hby own_d3_21) rfl ((if0 _ _).trans (teq ((lw_eq t0 t1).mpr hc6)).2) ?_
      show Steps p.tables e below (T4.setTop (mkF m 24 #[.val (.ref a0_), .val (.ref a1), .val (.ref a1)] [])) _
      refine XS.aloadN X4.here hx rfl (hb hby own_d3_24) rfl rfl ?_
      show Steps p.tables e below (T4.setTop (mkF m 25 #[.val (.ref a0_), .val (.ref a1), .val (.ref a1)] [(.ref a0_)])) _
      refine st7 _ ?_
      show Steps p.tables e below (T7.setTop (mkF m 28 #[.val (.ref a0_), .val (.ref a1), .val (.ref a1)] [(.long i0)])) _
      refine XS.aloadN X7.here hx rfl (hb hby own_d3_28) rfl rfl ?_
      show Steps p.tables e below (T7.setTop (mkF m 29 #[.val (.ref a0_), .val (.ref a1), .val (.ref a1)] [(.ref a1), (.long i0)])) _
      refine st8 _ ?_
      show Steps p.tables e below (T8.setTop (mkF m 32 #[.val (.ref a0_), .val (.ref a1), .val (.ref a1)] [(.long i1), (.long i0)])) _
      refine XS.lcmp X8.here hx rfl (hb hby own_d3_32) rfl ?_
      show Steps p.tables e below (T8.setTop (mkF m 33 #[.val (.ref a0_), .val (.ref a1), .val (.ref a1)] [(.int (lcmpW i0 i1))])) _
      exact q)
    by_cases hc10 : i0 = i1
    ·
      have k11 : own_To p e below T8 (mkF m 41 #[.val (.ref a0_), .val (.ref a1), .val (.ref a1)] [(.int (1 : Int32))]) s₁ (mkF m 0 #[.val (.ref a0_), .val (.ref a1), .unset] []) := fun t q => k9 t (by
        refine XS.ifNo X8.here hx rfl (hb hby own_d3_33) rfl ((if0 _ _).trans (teq ((lw_eq i0 i1).mpr hc10)).2) ?_
        show Steps p.tables e below (T8.setTop (mkF m 36 #[.val (.ref a0_), .val (.ref a1), .val (.ref a1)] [])) _
        refine XS.iconst X8.here hx rfl (hb hby own_d3_36) ?_
        show Steps p.tables e below (T8.setTop (mkF m 37 #[.val (.ref a0_), .val (.ref a1), .val (.ref a1)] [(.int (1 : Int32))])) _
        refine XS.goto X8.here hx rfl (pc0 := 37) (pc' := 41) rfl (hb hby own_d3_37) (by decide) (by decide) ?_
        show Steps p.tables e below (T8.setTop (mkF m 41 #[.val (.ref a0_), .val (.ref a1), .val (.ref a1)] [(.int (1 : Int32))])) _
        exact q)
      obtain ⟨fs, hr, hrun, hended, hW, hsame⟩ := X8.leave (v := some (.int (1 : Int32))) (fun h => by rw [Bd.returns] at h; cases h)
      refine ⟨_, _, k0 _ (k11 _ ?_), hrun, hended, _, _, rfl, ?_, ⟨_, rfl⟩, hW, hsame.mono (by decide) (by decide)⟩
      · show Steps p.tables e below (T8.setTop (mkF m 41 #[.val (.ref a0_), .val (.ref a1), .val (.ref a1)] [(.int (1 : Int32))])) _
        exact retN X8 hx (t := .boolean) Bd.returns (by simp) (hb hby own_d3_41) hr
      · show Q3p Z a0_ a1 t0 i0 t1 i1 h0 n0 _ T8.heap _
        rw [e8]
        exact ⟨by rw [own_eq, if_pos hc6, if_pos hc10], N0, rfl⟩
    ·
      have k12 : own_To p e below T8 (mkF m 41 #[.val (.ref a0_), .val (.ref a1), .val (.ref a1)] [(.int (0 : Int32))]) s₁ (mkF m 0 #[.val (.ref a0_), .val (.ref a1), .unset] []) := fun t q => k9 t (by
        refine XS.ifYes X8.here hx rfl (pc0 := 33) (pc' := 40) rfl (hb hby own_d3_33) rfl ((if0 _ _).trans (feq (mt (lw_eq i0 i1).mp hc10)).2) (by decide) (by decide) ?_
        show Steps p.tables e below (T8.setTop (mkF m 40 #[.val (.ref a0_), .val (.ref a1), .val (.ref a1)] [])) _
        refine XS.iconst X8.here hx rfl (hb hby own_d3_40) ?_
        show Steps p.tables e below (T8.setTop (mkF m 41 #[.val (.ref a0_), .val (.ref a1), .val (.ref a1)] [(.int (0 : Int32))])) _
        exact q)
      obtain ⟨fs, hr, hrun, hended, hW, hsame⟩ := X8.leave (v := some (.int (0 : Int32))) (fun h => by rw [Bd.returns] at h; cases h)
      refine ⟨_, _, k0 _ (k12 _ ?_), hrun, hended, _, _, rfl, ?_, ⟨_, rfl⟩, hW, hsame.mono (by decide) (by decide)⟩
      · show Steps p.tables e below (T8.setTop (mkF m 41 #[.val (.ref a0_), .val (.ref a1), .val (.ref a1)] [(.int (0 : Int32))])) _
        exact retN X8 hx (t := .boolean) Bd.returns (by simp) (hb hby own_d3_41) hr
      · show Q3p Z a0_ a1 t0 i0 t1 i1 h0 n0 _ T8.heap _
        rw [e8]
        exact ⟨by rw [own_eq, if_pos hc6, if_neg hc10], N0, rfl⟩
  ·
    have k13 : own_To p e below T4 (mkF m 41 #[.val (.ref a0_), .val (.ref a1), .val (.ref a1)] [(.int (0 : Int32))]) s₁ (mkF m 0 #[.val (.ref a0_), .val (.ref a1), .unset] []) := fun t q => k5 t (by
      refine XS.ifYes X4.here hx rfl (pc0 := 21) (pc' := 40) rfl (hb hby own_d3_21) rfl ((if0 _ _).trans (feq (mt (lw_eq t0 t1).mp hc6)).2) (by decide) (by decide) ?_
      show Steps p.tables e below (T4.setTop (mkF m 40 #[.val (.ref a0_), .val (.ref a1), .val (.ref a1)] [])) _
      refine XS.iconst X4.here hx rfl (hb hby own_d3_40) ?_
      show Steps p.tables e below (T4.setTop (mkF m 41 #[.val (.ref a0_), .val (.ref a1), .val (.ref a1)] [(.int (0 : Int32))])) _
      exact q)
    obtain ⟨fs, hr, hrun, hended, hW, hsame⟩ := X4.leave (v := some (.int (0 : Int32))) (fun h => by rw [Bd.returns] at h; cases h)
    refine ⟨_, _, k0 _ (k13 _ ?_), hrun, hended, _, _, rfl, ?_, ⟨_, rfl⟩, hW, hsame.mono (by decide) (by decide)⟩
    · show Steps p.tables e below (T4.setTop (mkF m 41 #[.val (.ref a0_), .val (.ref a1), .val (.ref a1)] [(.int (0 : Int32))])) _
      exact retN X4 hx (t := .boolean) Bd.returns (by simp) (hb hby own_d3_41) hr
    · show Q3p Z a0_ a1 t0 i0 t1 i1 h0 n0 _ T4.heap _
      rw [e4]
      exact ⟨by rw [own_eq, if_neg hc6], N0, rfl⟩
theorem own_pd2 : parseMethodDescriptor "(J)V" = some ⟨[.long], none⟩ := by decide +kernel
theorem own_d4_0 : decode jdk_35_method_24_code 0 = .ok (.sipush 128, 3) := by decide +kernel
theorem own_d4_3 : decode jdk_35_method_24_code 3 = .ok (.istore_n 2, 1) := by decide +kernel
theorem own_d4_4 : decode jdk_35_method_24_code 4 = .ok (.lload_n 0, 1) := by decide +kernel
theorem own_d4_5 : decode jdk_35_method_24_code 5 = .ok (.ldc2_w 230, 3) := by decide +kernel
theorem own_d4_8 : decode jdk_35_method_24_code 8 = .ok (.lcmp, 1) := by decide +kernel
theorem own_d4_9 : decode jdk_35_method_24_code 9 = .ok (.ifCond .lt 22, 3) := by decide +kernel
theorem own_d4_12 : decode jdk_35_method_24_code 12 = .ok (.lload_n 0, 1) := by decide +kernel
theorem own_d4_13 : decode jdk_35_method_24_code 13 = .ok (.ldc2_w 232, 3) := by decide +kernel
theorem own_d4_16 : decode jdk_35_method_24_code 16 = .ok (.lcmp, 1) := by decide +kernel
theorem own_d4_17 : decode jdk_35_method_24_code 17 = .ok (.ifCond .gt 14, 3) := by decide +kernel
theorem own_d4_20 : decode jdk_35_method_24_code 20 = .ok (.getstatic 234, 3) := by decide +kernel
theorem own_d4_23 : decode jdk_35_method_24_code 23 = .ok (.lload_n 0, 1) := by decide +kernel
theorem own_d4_24 : decode jdk_35_method_24_code 24 = .ok (.l2i, 1) := by decide +kernel
theorem own_d4_25 : decode jdk_35_method_24_code 25 = .ok (.sipush 128, 3) := by decide +kernel
theorem own_d4_28 : decode jdk_35_method_24_code 28 = .ok (.iadd, 1) := by decide +kernel
theorem own_d4_29 : decode jdk_35_method_24_code 29 = .ok (.aaload, 1) := by decide +kernel
theorem own_d4_30 : decode jdk_35_method_24_code 30 = .ok (.areturn, 1) := by decide +kernel
theorem own_d4_31 : decode jdk_35_method_24_code 31 = .ok (.new 1, 3) := by decide +kernel
theorem own_d4_34 : decode jdk_35_method_24_code 34 = .ok (.dup, 1) := by decide +kernel
theorem own_d4_35 : decode jdk_35_method_24_code 35 = .ok (.lload_n 0, 1) := by decide +kernel
theorem own_d4_36 : decode jdk_35_method_24_code 36 = .ok (.invokespecial 240, 3) := by decide +kernel
theorem own_d4_39 : decode jdk_35_method_24_code 39 = .ok (.areturn, 1) := by decide +kernel
theorem own_pn4 : plainName "java/lang/Long" = true := by first | (simp [plainName, overriddenIn]; done) | decide +kernel
theorem own_ef4 (m : MethodId) (x0 : Int64) : entryFrame m #[(.long x0)] 3 = mkF m 0 #[.val (.long x0), .second, .unset] [] := by first | (simp [entryFrame, mkF, argsToLocals, Value.category]; done) | rfl
def Q4 (Z : State) (q0 : Int64) (aC : Addr) (clC : Cell) (h0 : Heap) (n0 : Nat) (v : Option Value) (h : Heap) (L : List Loc) : Prop := ∃ r : Addr, v = some (.ref r) ∧ Fr n0 L ∧ Keep h0 h [] ∧ Exa Z h r "java/lang/Long"
set_option maxRecDepth 65536 in
set_option maxHeartbeats 40000000 in
theorem rm4 (l : Launch) (Z : State) (a0 : Array Value) (hw : ∀ d ∈ tables_1, d.before a0 Z = true) (ws : List Jvm.Cond) (q0 : Int64) (aC : Addr) (clC : Cell) (h0 : Heap) (n0 : Nat) (Z0 : n0 ≤ h0.size) (HC : own_cache Z aC clC) (O0 : Old Z n0 h0) :
    MetFree l (⟨"java/lang/Long", "valueOf", "(J)Ljava/lang/Long;"⟩ : MethodName) (head1 (Jvm.Cond.code (⟨"java/lang/Long", "valueOf", "(J)Ljava/lang/Long;"⟩ : MethodName) jdk_35_method_24_code 3 (some (.object "java/lang/Long")) :: ws) ({ frames := 3, cells := 1, slots := 1, locals := 39 } : Room)) (fun a U => a = #[(.long q0)] ∧ Z.Warmed39 U.vm ∧ U.heap = h0) (fun _ _ _ _ _ => True) (fun _ U o U' => ∃ v L, o = .returned v ∧ Q4 Z q0 aC clC h0 n0 v U'.heap L ∧ FrameEnd U o U' L ({ frames := 3, cells := 1, slots := 1, locals := 39 } : Room).cells ({ frames := 3, cells := 1, slots := 1, locals := 39 } : Room).slots) := by
  refine MetFree.of_bodySF (plainFor_of_name own_pn4) hisR ?_
  intro p e s m args below meth c s₁ Bd hml0 hP hK
  obtain ⟨rfl, hZ, hh⟩ := hP
  have hx := Bd.exec
  have hby := Bd.bytes
  have hml : c.maxLocals = 3 := hml0
  have hown : s.vm.findClass "java/lang/Long" = some m.cls := findClass_of_methodNamed Bd.named
  have hnm := (name_of_methodNamed Bd.named Bd.method).1
  have X0 : Stand p l e ({ frames := 3, cells := 1, slots := 1, locals := 39 } : Room) s m #[(.long q0)] below meth c s₁ [] 0 0 := Stand.of_body Bd
  have e0 : s₁.heap = h0 := by rw [← hh, Bd.state]; rfl
  have N0 := Fr.nil n0
  have k0 : own_To p e below s₁ (mkF m 0 #[.val (.long q0), .second, .unset] []) s₁ (entryFrame m #[(.long q0)] 3) := fun t k => castTop (own_ef4 m q0) k
  have ki : own_To p e below s₁ (mkF m 0 #[.val (.long q0), .second, .unset] []) s₁ (mkF m 0 #[.val (.long q0), .second, .unset] []) := fun t q => q
  have k1 : own_To p e below s₁ (mkF m 9 #[.val (.long q0), .second, .val (.int (128 : Int32))] [(.int (lcmpW q0 (-128 : Int64)))]) s₁ (mkF m 0 #[.val (.long q0), .second, .unset] []) := fun t q => ki t (by
    refine XS.sipush X0.here hx rfl (hb hby own_d4_0) ?_
    show Steps p.tables e below (s₁.setTop (mkF m 3 #[.val (.long q0), .second, .unset] [(.int (128 : Int32))])) _
    refine XS.istoreN X0.here hx rfl (hb hby own_d4_3) rfl (l' := #[.val (.long q0), .second, .val (.int (128 : Int32))]) rfl ?_
    show Steps p.tables e below (s₁.setTop (mkF m 4 #[.val (.long q0), .second, .val (.int (128 : Int32))] [])) _
    refine XS.lloadN X0.here hx rfl (hb hby own_d4_4) rfl ?_
    show Steps p.tables e below (s₁.setTop (mkF m 5 #[.val (.long q0), .second, .val (.int (128 : Int32))] [(.long q0)])) _
    refine X0.ldc2Long hx hown (mvT hZ (hw _ (List.mem_of_getElem? (i := 24) rfl))) (g := (mkF m 5 #[.val (.long q0), .second, .val (.int (128 : Int32))] [(.long q0)])) rfl (hb hby own_d4_5) _ ?_
    show Steps p.tables e below (s₁.setTop (mkF m 8 #[.val (.long q0), .second, .val (.int (128 : Int32))] [(.long (-128 : Int64)), (.long q0)])) _
    refine XS.lcmp X0.here hx rfl (hb hby own_d4_8) rfl ?_
    show Steps p.tables e below (s₁.setTop (mkF m 9 #[.val (.long q0), .second, .val (.int (128 : Int32))] [(.int (lcmpW q0 (-128 : Int64)))])) _
    exact q)
  by_cases hc2 : q0 < (-128 : Int64)
  ·
    obtain ⟨T3, h3, X3, e3, E3, A3, D3, -, st3⟩ := newO X0 hx hZ hown (hw _ (List.mem_of_getElem? (i := 26) rfl)) (hw _ (List.mem_of_getElem? (i := 27) rfl)) (hw _ (List.mem_of_getElem? (i := 22) rfl)) e0 (g := (mkF m 31 #[.val (.long q0), .second, .val (.int (128 : Int32))] [])) rfl (hb hby own_d4_31) (by decide) (by decide)
    obtain ⟨b3, g3⟩ : ∃ z, z = h0.size := ⟨_, rfl⟩
    rw [← g3] at A3 D3 st3
    have ge_b3 : n0 ≤ b3 := Nat.le_trans Z0 (Nat.le_of_eq g3.symm)
    have K4 : Keep h0 h0 [] := (Keep.refl h0 [])
    have sz_b3 : h0.size ≤ b3 := Nat.le_trans K4.1 (Nat.le_of_eq g3.symm)
    have F3_40 : Fld Z h3 b3 "java/lang/Long" "value" "J" (.long (0 : Int64)) := D3 (Or.inr (hw _ (List.mem_of_getElem? (i := 40) rfl))) (ty := .long) (by decide)
    have K6 : Keep h0 h3 [] := (K4.ext E3)
    obtain ⟨_, _, ⟨T5, L5, kk5, n5⟩, -, X5, ⟨Lc5, hQ5, l5, y5, z5⟩, st5⟩ := X3.specialBack hx (y := (⟨"java/lang/Long", "<init>", "(J)V"⟩ : MethodName)) rfl hown (mvT hZ (hw _ (List.mem_of_getElem? (i := 28) rfl))) (mvT hZ (hw _ (List.mem_of_getElem? (i := 29) rfl))) (mvT hZ (hw _ (List.mem_of_getElem? (i := 31) rfl))) (by decide) (backOf (W := 1) (rm5 l Z a0 hw [] b3 q0 h3 n0 (Nat.le_trans Z0 K6.1) F3_40 A3 ge_b3) hZ (hw _ (List.mem_of_getElem? (i := 31) rfl)) (hw _ (List.mem_of_getElem? (i := 22) rfl)) (by decide) (by decide)) (g := (mkF m 36 #[.val (.long q0), .second, .val (.int (128 : Int32))] [(.long q0), (.ref b3), (.ref b3)])) rfl (by rw [hml]; rfl) (Steps.refl _) (a := b3) (argsL := [(.long q0)]) (rest := [(.ref b3)]) (lenOf own_pd2 rfl) rfl (by show 2 * 0 + _ ≤ _; exact Nat.le_of_eq rfl) (hb hby own_d4_36) (fun _ _ => ⟨rfl, e3, (by decide : 1 + 0 ≤ _), (by decide : 1 + 0 ≤ _)⟩)
    dsimp only [Pt.U, Pt.locs, Pt.cells, Pt.slots] at X5 l5 y5 z5 st5 hQ5
    subst l5 y5 z5
    obtain ⟨rfl, N5q, K5, E5, F5_0⟩ := hQ5
    have N5 := Fr.app N0 N5q
    have K7 : Keep h0 T5.heap [] := (K6.trans K5 (allS (P := fun x => x ∈ ([] : List Addr) ∨ h0.size ≤ x) (Or.inr sz_b3) all0))
    have k8 : own_To p e below T5 (mkF m 39 #[.val (.long q0), .second, .val (.int (128 : Int32))] [(.ref b3)]) s₁ (mkF m 0 #[.val (.long q0), .second, .unset] []) := fun t q => k1 t (by
      refine XS.ifYes X0.here hx rfl (pc0 := 9) (pc' := 31) rfl (hb hby own_d4_9) rfl ((if0 _ _).trans (tlt ((lw_lt q0 (-128 : Int64)).mpr hc2)).1) (by decide) (by decide) ?_
      show Steps p.tables e below (s₁.setTop (mkF m 31 #[.val (.long q0), .second, .val (.int (128 : Int32))] [])) _
      refine st3 _ ?_
      show Steps p.tables e below (T3.setTop (mkF m 34 #[.val (.long q0), .second, .val (.int (128 : Int32))] [(.ref b3)])) _
      refine XS.dup X3.here hx rfl (hb hby own_d4_34) rfl rfl ?_
      show Steps p.tables e below (T3.setTop (mkF m 35 #[.val (.long q0), .second, .val (.int (128 : Int32))] [(.ref b3), (.ref b3)])) _
      refine XS.lloadN X3.here hx rfl (hb hby own_d4_35) rfl ?_
      show Steps p.tables e below (T3.setTop (mkF m 36 #[.val (.long q0), .second, .val (.int (128 : Int32))] [(.long q0), (.ref b3), (.ref b3)])) _
      refine st5.trans ?_
      show Steps p.tables e below (T5.setTop (mkF m 39 #[.val (.long q0), .second, .val (.int (128 : Int32))] [(.ref b3)])) _
      exact q)
    obtain ⟨fs, hr, hrun, hended, hW, hsame⟩ := X5.leave (v := some (.ref b3)) (fun h => by rw [Bd.returns] at h; cases h)
    refine ⟨_, _, k0 _ (k8 _ ?_), hrun, hended, _, _, rfl, ?_, ⟨_, rfl⟩, hW, hsame.mono (by decide) (by decide)⟩
    · show Steps p.tables e below (T5.setTop (mkF m 39 #[.val (.long q0), .second, .val (.int (128 : Int32))] [(.ref b3)])) _
      exact retOut X5 hx Bd.returns rfl (Or.inr (Or.inr (Or.inr (Or.inr ⟨rfl, rfl, rfl⟩)))) (hb hby own_d4_39) hr
    · show Q4 Z q0 aC clC h0 n0 _ T5.heap _
      exact ⟨b3, rfl, N5, K7, E5⟩
  ·
    have k9 : own_To p e below s₁ (mkF m 17 #[.val (.long q0), .second, .val (.int (128 : Int32))] [(.int (lcmpW q0 (127 : Int64)))]) s₁ (mkF m 0 #[.val (.long q0), .second, .unset] []) := fun t q => k1 t (by
      refine XS.ifNo X0.here hx rfl (hb hby own_d4_9) rfl ((if0 _ _).trans (flt (mt (lw_lt q0 (-128 : Int64)).mp hc2)).1) ?_
      show Steps p.tables e below (s₁.setTop (mkF m 12 #[.val (.long q0), .second, .val (.int (128 : Int32))] [])) _
      refine XS.lloadN X0.here hx rfl (hb hby own_d4_12) rfl ?_
      show Steps p.tables e below (s₁.setTop (mkF m 13 #[.val (.long q0), .second, .val (.int (128 : Int32))] [(.long q0)])) _
      refine X0.ldc2Long hx hown (mvT hZ (hw _ (List.mem_of_getElem? (i := 25) rfl))) (g := (mkF m 13 #[.val (.long q0), .second, .val (.int (128 : Int32))] [(.long q0)])) rfl (hb hby own_d4_13) _ ?_
      show Steps p.tables e below (s₁.setTop (mkF m 16 #[.val (.long q0), .second, .val (.int (128 : Int32))] [(.long (127 : Int64)), (.long q0)])) _
      refine XS.lcmp X0.here hx rfl (hb hby own_d4_16) rfl ?_
      show Steps p.tables e below (s₁.setTop (mkF m 17 #[.val (.long q0), .second, .val (.int (128 : Int32))] [(.int (lcmpW q0 (127 : Int64)))])) _
      exact q)
    by_cases hc10 : (127 : Int64) < q0
    ·
      obtain ⟨T11, h11, X11, e11, E11, A11, D11, -, st11⟩ := newO X0 hx hZ hown (hw _ (List.mem_of_getElem? (i := 26) rfl)) (hw _ (List.mem_of_getElem? (i := 27) rfl)) (hw _ (List.mem_of_getElem? (i := 22) rfl)) e0 (g := (mkF m 31 #[.val (.long q0), .second, .val (.int (128 : Int32))] [])) rfl (hb hby own_d4_31) (by decide) (by decide)
      obtain ⟨b11, g11⟩ : ∃ z, z = h0.size := ⟨_, rfl⟩
      rw [← g11] at A11 D11 st11
      have ge_b11 : n0 ≤ b11 := Nat.le_trans Z0 (Nat.le_of_eq g11.symm)
      have K12 : Keep h0 h0 [] := (Keep.refl h0 [])
      have sz_b11 : h0.size ≤ b11 := Nat.le_trans K12.1 (Nat.le_of_eq g11.symm)
      have F11_40 : Fld Z h11 b11 "java/lang/Long" "value" "J" (.long (0 : Int64)) := D11 (Or.inr (hw _ (List.mem_of_getElem? (i := 40) rfl))) (ty := .long) (by decide)
      have K14 : Keep h0 h11 [] := (K12.ext E11)
      obtain ⟨_, _, ⟨T13, L13, kk13, n13⟩, -, X13, ⟨Lc13, hQ13, l13, y13, z13⟩, st13⟩ := X11.specialBack hx (y := (⟨"java/lang/Long", "<init>", "(J)V"⟩ : MethodName)) rfl hown (mvT hZ (hw _ (List.mem_of_getElem? (i := 28) rfl))) (mvT hZ (hw _ (List.mem_of_getElem? (i := 29) rfl))) (mvT hZ (hw _ (List.mem_of_getElem? (i := 31) rfl))) (by decide) (backOf (W := 1) (rm5 l Z a0 hw [] b11 q0 h11 n0 (Nat.le_trans Z0 K14.1) F11_40 A11 ge_b11) hZ (hw _ (List.mem_of_getElem? (i := 31) rfl)) (hw _ (List.mem_of_getElem? (i := 22) rfl)) (by decide) (by decide)) (g := (mkF m 36 #[.val (.long q0), .second, .val (.int (128 : Int32))] [(.long q0), (.ref b11), (.ref b11)])) rfl (by rw [hml]; rfl) (Steps.refl _) (a := b11) (argsL := [(.long q0)]) (rest := [(.ref b11)]) (lenOf own_pd2 rfl) rfl (by show 2 * 0 + _ ≤ _; exact Nat.le_of_eq rfl) (hb hby own_d4_36) (fun _ _ => ⟨rfl, e11, (by decide : 1 + 0 ≤ _), (by decide : 1 + 0 ≤ _)⟩)
      dsimp only [Pt.U, Pt.locs, Pt.cells, Pt.slots] at X13 l13 y13 z13 st13 hQ13
      subst l13 y13 z13
      obtain ⟨rfl, N13q, K13, E13, F13_0⟩ := hQ13
      have N13 := Fr.app N0 N13q
      have K15 : Keep h0 T13.heap [] := (K14.trans K13 (allS (P := fun x => x ∈ ([] : List Addr) ∨ h0.size ≤ x) (Or.inr sz_b11) all0))
      have k16 : own_To p e below T13 (mkF m 39 #[.val (.long q0), .second, .val (.int (128 : Int32))] [(.ref b11)]) s₁ (mkF m 0 #[.val (.long q0), .second, .unset] []) := fun t q => k9 t (by
        refine XS.ifYes X0.here hx rfl (pc0 := 17) (pc' := 31) rfl (hb hby own_d4_17) rfl ((if0 _ _).trans (tlt ((lw_gt q0 (127 : Int64)).mpr hc10)).2.2.1) (by decide) (by decide) ?_
        show Steps p.tables e below (s₁.setTop (mkF m 31 #[.val (.long q0), .second, .val (.int (128 : Int32))] [])) _
        refine st11 _ ?_
        show Steps p.tables e below (T11.setTop (mkF m 34 #[.val (.long q0), .second, .val (.int (128 : Int32))] [(.ref b11)])) _
        refine XS.dup X11.here hx rfl (hb hby own_d4_34) rfl rfl ?_
        show Steps p.tables e below (T11.setTop (mkF m 35 #[.val (.long q0), .second, .val (.int (128 : Int32))] [(.ref b11), (.ref b11)])) _
        refine XS.lloadN X11.here hx rfl (hb hby own_d4_35) rfl ?_
        show Steps p.tables e below (T11.setTop (mkF m 36 #[.val (.long q0), .second, .val (.int (128 : Int32))] [(.long q0), (.ref b11), (.ref b11)])) _
        refine st13.trans ?_
        show Steps p.tables e below (T13.setTop (mkF m 39 #[.val (.long q0), .second, .val (.int (128 : Int32))] [(.ref b11)])) _
        exact q)
      obtain ⟨fs, hr, hrun, hended, hW, hsame⟩ := X13.leave (v := some (.ref b11)) (fun h => by rw [Bd.returns] at h; cases h)
      refine ⟨_, _, k0 _ (k16 _ ?_), hrun, hended, _, _, rfl, ?_, ⟨_, rfl⟩, hW, hsame.mono (by decide) (by decide)⟩
      · show Steps p.tables e below (T13.setTop (mkF m 39 #[.val (.long q0), .second, .val (.int (128 : Int32))] [(.ref b11)])) _
        exact retOut X13 hx Bd.returns rfl (Or.inr (Or.inr (Or.inr (Or.inr ⟨rfl, rfl, rfl⟩)))) (hb hby own_d4_39) hr
      · show Q4 Z q0 aC clC h0 n0 _ T13.heap _
        exact ⟨b11, rfl, N13, K15, E13⟩
    ·
      obtain ⟨T17, X17, e17, st17⟩ := getS2 X0 hx hZ hown (host := "") (Or.inl (hw _ (List.mem_of_getElem? (i := 44) rfl))) Via.refl e0 (HC.1.ext O0.2) (g := (mkF m 20 #[.val (.long q0), .second, .val (.int (128 : Int32))] [])) rfl (hb hby own_d4_20)
      obtain ⟨x1, x2⟩ := own_place q0 hc2 hc10
      obtain ⟨r, hat, Er⟩ := HC.2.2.2 _ x2
      have ArC : Arr Z h0 aC clC (.object "java/lang/Long") := HC.2.1.ext O0.2
      have hin : ¬ (((q0.toInt32) + (128 : Int32)) < 0 ∨ clC.slots.size ≤ (((q0.toInt32) + (128 : Int32))).toNatClampNeg) := fun q => q.elim x1 (fun q => by rw [HC.2.2.1] at q; omega)
      have k18 : own_To p e below T17 (mkF m 30 #[.val (.long q0), .second, .val (.int (128 : Int32))] [(.ref r)]) s₁ (mkF m 0 #[.val (.long q0), .second, .unset] []) := fun t q => k9 t (by
        refine XS.ifNo X0.here hx rfl (hb hby own_d4_17) rfl ((if0 _ _).trans (flt (mt (lw_gt q0 (127 : Int64)).mp hc10)).2.2.1) ?_
        show Steps p.tables e below (s₁.setTop (mkF m 20 #[.val (.long q0), .second, .val (.int (128 : Int32))] [])) _
        refine st17 _ ?_
        show Steps p.tables e below (T17.setTop (mkF m 23 #[.val (.long q0), .second, .val (.int (128 : Int32))] [(.ref aC)])) _
        refine XS.lloadN X17.here hx rfl (hb hby own_d4_23) rfl ?_
        show Steps p.tables e below (T17.setTop (mkF m 24 #[.val (.long q0), .second, .val (.int (128 : Int32))] [(.long q0), (.ref aC)])) _
        refine XS.l2i X17.here hx rfl (hb hby own_d4_24) rfl ?_
        show Steps p.tables e below (T17.setTop (mkF m 25 #[.val (.long q0), .second, .val (.int (128 : Int32))] [(.int (q0.toInt32)), (.ref aC)])) _
        refine XS.sipush X17.here hx rfl (hb hby own_d4_25) ?_
        show Steps p.tables e below (T17.setTop (mkF m 28 #[.val (.long q0), .second, .val (.int (128 : Int32))] [(.int (128 : Int32)), (.int (q0.toInt32)), (.ref aC)])) _
        refine XS.iadd X17.here hx rfl (hb hby own_d4_28) rfl ?_
        show Steps p.tables e below (T17.setTop (mkF m 29 #[.val (.long q0), .second, .val (.int (128 : Int32))] [(.int ((q0.toInt32) + (128 : Int32))), (.ref aC)])) _
        refine X17.aaload hx (j := ((q0.toInt32) + (128 : Int32))) (v := (.ref r)) (by rw [e17]; exact ArC.1) (State.isArrayOf_alike hZ.alike ArC.2.1) rfl ArC.2.2 hin hat (g := (mkF m 29 #[.val (.long q0), .second, .val (.int (128 : Int32))] [(.int ((q0.toInt32) + (128 : Int32))), (.ref aC)])) rfl rfl (hb hby own_d4_29) _ ?_
        show Steps p.tables e below (T17.setTop (mkF m 30 #[.val (.long q0), .second, .val (.int (128 : Int32))] [(.ref r)])) _
        exact q)
      obtain ⟨fs, hr, hrun, hended, hW, hsame⟩ := X17.leave (v := some (.ref r)) (fun h => by rw [Bd.returns] at h; cases h)
      refine ⟨_, _, k0 _ (k18 _ ?_), hrun, hended, _, _, rfl, ?_, ⟨_, rfl⟩, hW, hsame.mono (by decide) (by decide)⟩
      · show Steps p.tables e below (T17.setTop (mkF m 30 #[.val (.long q0), .second, .val (.int (128 : Int32))] [(.ref r)])) _
        exact retOut X17 hx Bd.returns rfl (Or.inr (Or.inr (Or.inr (Or.inr ⟨rfl, rfl, rfl⟩)))) (hb hby own_d4_30) hr
      · show Q4 Z q0 aC clC h0 n0 _ T17.heap _
        rw [e17]
        exact ⟨r, rfl, N0, Keep.refl _ _, Er.ext O0.2⟩
theorem own_eqc (t0 i0 t1 i1 : Int64) : own_eq t0 i0 t1 i1 = own_eq t1 i1 t0 i0 := by
  unfold own_eq
  by_cases a : t0 = t1
  · subst a; by_cases b : i0 = i1
    · subst b; rfl
    · simp only [b, Ne.symm b, if_false]
  · simp only [a, Ne.symm a, if_false]
theorem own_eqs (t i : Int64) : own_eq t i t i = 1 := by unfold own_eq; rw [if_pos rfl, if_pos rfl]
theorem own_pd3 : parseMethodDescriptor "(JJ)V" = some ⟨[.long, .long], none⟩ := by decide +kernel
theorem own_pd4 : parseMethodDescriptor "(Ljava/lang/Object;)Z" = some ⟨[(.object "java/lang/Object")], some .boolean⟩ := by decide +kernel
theorem own_pd1 : parseMethodDescriptor "(J)Ljava/lang/Long;" = some ⟨[.long], some (.object "java/lang/Long")⟩ := by decide +kernel
theorem own_pn0 : plainName "com/example/feeddb/feeddb/core/PositionEqualsPinLaw" = true := by first | (simp [plainName, overriddenIn]; done) | decide +kernel
theorem own_ef0 (m : MethodId) (x0 : Int64) (x1 : Int64) (x2 : Int64) (x3 : Int64) (x4 : Int32) : entryFrame m #[(.long x0), (.long x1), (.long x2), (.long x3), (.int x4)] maxLocals = mkF m 0 #[.val (.long x0), .second, .val (.long x1), .second, .val (.long x2), .second, .val (.long x3), .second, .val (.int x4), .unset, .unset, .unset, .unset, .unset, .unset, .unset, .unset, .unset, .unset] [] := by first | (simp [entryFrame, mkF, argsToLocals, Value.category, maxLocals]; done) | rfl
def Q0 (Z : State) (q0 : Int64) (q1 : Int64) (q2 : Int64) (q3 : Int64) (p4 : Int32) (aC : Addr) (clC : Cell) (h0 : Heap) (n0 : Nat) (v : Option Value) (h : Heap) (L : List Loc) : Prop := v = some (.int 1) ∧ Fr n0 L
set_option maxRecDepth 65536 in
set_option maxHeartbeats 40000000 in
theorem rm0 (l : Launch) (Z : State) (a0 : Array Value) (hw : ∀ d ∈ tables_1, d.before a0 Z = true) (ws : List Jvm.Cond) (q0 : Int64) (q1 : Int64) (q2 : Int64) (q3 : Int64) (p4 : Int32) (aC : Addr) (clC : Cell) (h0 : Heap) (n0 : Nat) (Z0 : n0 ≤ h0.size) (HC : own_cache Z aC clC) (O0 : Old Z n0 h0) :
    MetFree l x (head1 (Jvm.Cond.code x code maxLocals ret :: ws) room_1) (fun a U => a = #[(.long q0), (.long q1), (.long q2), (.long q3), (.int p4)] ∧ Z.Warmed39 U.vm ∧ U.heap = h0) (fun _ _ _ _ _ => True) (fun _ U o U' => ∃ v L, o = .returned v ∧ Q0 Z q0 q1 q2 q3 p4 aC clC h0 n0 v U'.heap L ∧ FrameEnd U o U' L 16 128) := by
  refine MetFree.of_bodySF (plainFor_of_name own_pn0) hisR ?_
  intro p e s m args below meth c s₁ Bd hml0 hP hK
  obtain ⟨rfl, hZ, hh⟩ := hP
  have hx := Bd.exec
  have hby := Bd.bytes
  have hml : c.maxLocals = 19 := hml0
  have hown : s.vm.findClass "com/example/feeddb/feeddb/core/PositionEqualsPinLaw" = some m.cls := findClass_of_methodNamed Bd.named
  have hnm := (name_of_methodNamed Bd.named Bd.method).1
  have X0 : Stand p l e room_1 s m #[(.long q0), (.long q1), (.long q2), (.long q3), (.int p4)] below meth c s₁ [] 0 0 := Stand.of_body Bd
  have e0 : s₁.heap = h0 := by rw [← hh, Bd.state]; rfl
  have N0 := Fr.nil n0
  have k0 : own_To p e below s₁ (mkF m 0 #[.val (.long q0), .second, .val (.long q1), .second, .val (.long q2), .second, .val (.long q3), .second, .val (.int p4), .unset, .unset, .unset, .unset, .unset, .unset, .unset, .unset, .unset, .unset] []) s₁ (entryFrame m #[(.long q0), (.long q1), (.long q2), (.long q3), (.int p4)] maxLocals) := fun t k => castTop (own_ef0 m q0 q1 q2 q3 p4) k
  have ki : own_To p e below s₁ (mkF m 0 #[.val (.long q0), .second, .val (.long q1), .second, .val (.long q2), .second, .val (.long q3), .second, .val (.int p4), .unset, .unset, .unset, .unset, .unset, .unset, .unset, .unset, .unset, .unset] []) s₁ (mkF m 0 #[.val (.long q0), .second, .val (.long q1), .second, .val (.long q2), .second, .val (.long q3), .second, .val (.int p4), .unset, .unset, .unset, .unset, .unset, .unset, .unset, .unset, .unset, .unset] []) := fun t q => q
  have k1 : own_To p e below s₁ (mkF m 4 #[.val (.long q0), .second, .val (.long q1), .second, .val (.long q2), .second, .val (.long q3), .second, .val (.int p4), .unset, .unset, .unset, .unset, .unset, .unset, .unset, .unset, .unset, .unset] [(.int (p4 &&& (1 : Int32)))]) s₁ (mkF m 0 #[.val (.long q0), .second, .val (.long q1), .second, .val (.long q2), .second, .val (.long q3), .second, .val (.int p4), .unset, .unset, .unset, .unset, .unset, .unset, .unset, .unset, .unset, .unset] []) := fun t q => ki t (by
    refine XS.iload X0.here hx rfl (hb hby at_0) rfl ?_
    show Steps p.tables e below (s₁.setTop (mkF m 2 #[.val (.long q0), .second, .val (.long q1), .second, .val (.long q2), .second, .val (.long q3), .second, .val (.int p4), .unset, .unset, .unset, .unset, .unset, .unset, .unset, .unset, .unset, .unset] [(.int p4)])) _
    refine XS.iconst X0.here hx rfl (hb hby at_2) ?_
    show Steps p.tables e below (s₁.setTop (mkF m 3 #[.val (.long q0), .second, .val (.long q1), .second, .val (.long q2), .second, .val (.long q3), .second, .val (.int p4), .unset, .unset, .unset, .unset, .unset, .unset, .unset, .unset, .unset, .unset] [(.int (1 : Int32)), (.int p4)])) _
    refine XS.iand X0.here hx rfl (hb hby at_3) rfl ?_
    show Steps p.tables e below (s₁.setTop (mkF m 4 #[.val (.long q0), .second, .val (.long q1), .second, .val (.long q2), .second, .val (.long q3), .second, .val (.int p4), .unset, .unset, .unset, .unset, .unset, .unset, .unset, .unset, .unset, .unset] [(.int (p4 &&& (1 : Int32)))])) _
    exact q)
  obtain ⟨v3, hv3, k4⟩ : ∃ (v3 : Int64), (v3 = (if (p4 &&& (1 : Int32)) = (0 : Int32) then q2 else q0)) ∧ own_To p e below s₁ (mkF m 13 #[.val (.long q0), .second, .val (.long q1), .second, .val (.long q2), .second, .val (.long q3), .second, .val (.int p4), .unset, .unset, .unset, .unset, .unset, .unset, .unset, .unset, .unset, .unset] [(.long v3)]) s₁ (mkF m 0 #[.val (.long q0), .second, .val (.long q1), .second, .val (.long q2), .second, .val (.long q3), .second, .val (.int p4), .unset, .unset, .unset, .unset, .unset, .unset, .unset, .unset, .unset, .unset] []) := by
    by_cases hm2 : (p4 &&& (1 : Int32)) = (0 : Int32)
    ·
      refine ⟨q2, by rw [if_pos hm2], fun t q => k1 t (?_)⟩
      refine XS.ifYes X0.here hx rfl (pc0 := 4) (pc' := 11) rfl (hb hby at_4) rfl ((if0 _ _).trans (teq hm2).1) (by decide) (by decide) ?_
      show Steps p.tables e below (s₁.setTop (mkF m 11 #[.val (.long q0), .second, .val (.long q1), .second, .val (.long q2), .second, .val (.long q3), .second, .val (.int p4), .unset, .unset, .unset, .unset, .unset, .unset, .unset, .unset, .unset, .unset] [])) _
      refine XS.lload X0.here hx rfl (hb hby at_11) rfl ?_
      show Steps p.tables e below (s₁.setTop (mkF m 13 #[.val (.long q0), .second, .val (.long q1), .second, .val (.long q2), .second, .val (.long q3), .second, .val (.int p4), .unset, .unset, .unset, .unset, .unset, .unset, .unset, .unset, .unset, .unset] [(.long q2)])) _
      exact q
    ·
      refine ⟨q0, by rw [if_neg hm2], fun t q => k1 t (?_)⟩
      refine XS.ifNo X0.here hx rfl (hb hby at_4) rfl ((if0 _ _).trans (feq hm2).1) ?_
      show Steps p.tables e below (s₁.setTop (mkF m 7 #[.val (.long q0), .second, .val (.long q1), .second, .val (.long q2), .second, .val (.long q3), .second, .val (.int p4), .unset, .unset, .unset, .unset, .unset, .unset, .unset, .unset, .unset, .unset] [])) _
      refine XS.lloadN X0.here hx rfl (hb hby at_7) rfl ?_
      show Steps p.tables e below (s₁.setTop (mkF m 8 #[.val (.long q0), .second, .val (.long q1), .second, .val (.long q2), .second, .val (.long q3), .second, .val (.int p4), .unset, .unset, .unset, .unset, .unset, .unset, .unset, .unset, .unset, .unset] [(.long q0)])) _
      refine XS.goto X0.here hx rfl (pc0 := 8) (pc' := 13) rfl (hb hby at_8) (by decide) (by decide) ?_
      show Steps p.tables e below (s₁.setTop (mkF m 13 #[.val (.long q0), .second, .val (.long q1), .second, .val (.long q2), .second, .val (.long q3), .second, .val (.int p4), .unset, .unset, .unset, .unset, .unset, .unset, .unset, .unset, .unset, .unset] [(.long q0)])) _
      exact q
  have k5 : own_To p e below s₁ (mkF m 19 #[.val (.long q0), .second, .val (.long q1), .second, .val (.long q2), .second, .val (.long q3), .second, .val (.int p4), .val (.long v3), .second, .unset, .unset, .unset, .unset, .unset, .unset, .unset, .unset] [(.int (p4 &&& (2 : Int32)))]) s₁ (mkF m 0 #[.val (.long q0), .second, .val (.long q1), .second, .val (.long q2), .second, .val (.long q3), .second, .val (.int p4), .unset, .unset, .unset, .unset, .unset, .unset, .unset, .unset, .unset, .unset] []) := fun t q => k4 t (by
    refine XS.lstore X0.here hx rfl (hb hby at_13) rfl (l' := #[.val (.long q0), .second, .val (.long q1), .second, .val (.long q2), .second, .val (.long q3), .second, .val (.int p4), .val (.long v3), .second, .unset, .unset, .unset, .unset, .unset, .unset, .unset, .unset]) rfl ?_
    show Steps p.tables e below (s₁.setTop (mkF m 15 #[.val (.long q0), .second, .val (.long q1), .second, .val (.long q2), .second, .val (.long q3), .second, .val (.int p4), .val (.long v3), .second, .unset, .unset, .unset, .unset, .unset, .unset, .unset, .unset] [])) _
    refine XS.iload X0.here hx rfl (hb hby at_15) rfl ?_
    show Steps p.tables e below (s₁.setTop (mkF m 17 #[.val (.long q0), .second, .val (.long q1), .second, .val (.long q2), .second, .val (.long q3), .second, .val (.int p4), .val (.long v3), .second, .unset, .unset, .unset, .unset, .unset, .unset, .unset, .unset] [(.int p4)])) _
    refine XS.iconst X0.here hx rfl (hb hby at_17) ?_
    show Steps p.tables e below (s₁.setTop (mkF m 18 #[.val (.long q0), .second, .val (.long q1), .second, .val (.long q2), .second, .val (.long q3), .second, .val (.int p4), .val (.long v3), .second, .unset, .unset, .unset, .unset, .unset, .unset, .unset, .unset] [(.int (2 : Int32)), (.int p4)])) _
    refine XS.iand X0.here hx rfl (hb hby at_18) rfl ?_
    show Steps p.tables e below (s₁.setTop (mkF m 19 #[.val (.long q0), .second, .val (.long q1), .second, .val (.long q2), .second, .val (.long q3), .second, .val (.int p4), .val (.long v3), .second, .unset, .unset, .unset, .unset, .unset, .unset, .unset, .unset] [(.int (p4 &&& (2 : Int32)))])) _
    exact q)
  obtain ⟨v7, hv7, k8⟩ : ∃ (v7 : Int64), (v7 = (if (p4 &&& (2 : Int32)) = (0 : Int32) then q3 else q1)) ∧ own_To p e below s₁ (mkF m 28 #[.val (.long q0), .second, .val (.long q1), .second, .val (.long q2), .second, .val (.long q3), .second, .val (.int p4), .val (.long v3), .second, .unset, .unset, .unset, .unset, .unset, .unset, .unset, .unset] [(.long v7)]) s₁ (mkF m 0 #[.val (.long q0), .second, .val (.long q1), .second, .val (.long q2), .second, .val (.long q3), .second, .val (.int p4), .unset, .unset, .unset, .unset, .unset, .unset, .unset, .unset, .unset, .unset] []) := by
    by_cases hm6 : (p4 &&& (2 : Int32)) = (0 : Int32)
    ·
      refine ⟨q3, by rw [if_pos hm6], fun t q => k5 t (?_)⟩
      refine XS.ifYes X0.here hx rfl (pc0 := 19) (pc' := 26) rfl (hb hby at_19) rfl ((if0 _ _).trans (teq hm6).1) (by decide) (by decide) ?_
      show Steps p.tables e below (s₁.setTop (mkF m 26 #[.val (.long q0), .second, .val (.long q1), .second, .val (.long q2), .second, .val (.long q3), .second, .val (.int p4), .val (.long v3), .second, .unset, .unset, .unset, .unset, .unset, .unset, .unset, .unset] [])) _
      refine XS.lload X0.here hx rfl (hb hby at_26) rfl ?_
      show Steps p.tables e below (s₁.setTop (mkF m 28 #[.val (.long q0), .second, .val (.long q1), .second, .val (.long q2), .second, .val (.long q3), .second, .val (.int p4), .val (.long v3), .second, .unset, .unset, .unset, .unset, .unset, .unset, .unset, .unset] [(.long q3)])) _
      exact q
    ·
      refine ⟨q1, by rw [if_neg hm6], fun t q => k5 t (?_)⟩
      refine XS.ifNo X0.here hx rfl (hb hby at_19) rfl ((if0 _ _).trans (feq hm6).1) ?_
      show Steps p.tables e below (s₁.setTop (mkF m 22 #[.val (.long q0), .second, .val (.long q1), .second, .val (.long q2), .second, .val (.long q3), .second, .val (.int p4), .val (.long v3), .second, .unset, .unset, .unset, .unset, .unset, .unset, .unset, .unset] [])) _
      refine XS.lloadN X0.here hx rfl (hb hby at_22) rfl ?_
      show Steps p.tables e below (s₁.setTop (mkF m 23 #[.val (.long q0), .second, .val (.long q1), .second, .val (.long q2), .second, .val (.long q3), .second, .val (.int p4), .val (.long v3), .second, .unset, .unset, .unset, .unset, .unset, .unset, .unset, .unset] [(.long q1)])) _
      refine XS.goto X0.here hx rfl (pc0 := 23) (pc' := 28) rfl (hb hby at_23) (by decide) (by decide) ?_
      show Steps p.tables e below (s₁.setTop (mkF m 28 #[.val (.long q0), .second, .val (.long q1), .second, .val (.long q2), .second, .val (.long q3), .second, .val (.int p4), .val (.long v3), .second, .unset, .unset, .unset, .unset, .unset, .unset, .unset, .unset] [(.long q1)])) _
      exact q
  obtain ⟨T9, h9, X9, e9, E9, A9, D9, -, st9⟩ := newO X0 hx hZ hown (hw _ (List.mem_of_getElem? (i := 0) rfl)) (hw _ (List.mem_of_getElem? (i := 1) rfl)) (hw _ (List.mem_of_getElem? (i := 2) rfl)) e0 (g := (mkF m 30 #[.val (.long q0), .second, .val (.long q1), .second, .val (.long q2), .second, .val (.long q3), .second, .val (.int p4), .val (.long v3), .second, .val (.long v7), .second, .unset, .unset, .unset, .unset, .unset, .unset] [])) rfl (hb hby at_30) (by decide) (by decide)
  obtain ⟨b9, g9⟩ : ∃ z, z = h0.size := ⟨_, rfl⟩
  rw [← g9] at A9 D9 st9
  have ge_b9 : n0 ≤ b9 := Nat.le_trans Z0 (Nat.le_of_eq g9.symm)
  have K10 : Keep h0 h0 [] := (Keep.refl h0 [])
  have sz_b9 : h0.size ≤ b9 := Nat.le_trans K10.1 (Nat.le_of_eq g9.symm)
  have F9_10 : Fld Z h9 b9 "com/example/feeddb/feeddb/core/Position" "time" "J" (.long (0 : Int64)) := D9 (Or.inr (hw _ (List.mem_of_getElem? (i := 10) rfl))) (ty := .long) (by decide)
  have F9_12 : Fld Z h9 b9 "com/example/feeddb/feeddb/core/Position" "id" "J" (.long (0 : Int64)) := D9 (Or.inr (hw _ (List.mem_of_getElem? (i := 12) rfl))) (ty := .long) (by decide)
  have K12 : Keep h0 h9 [] := (K10.ext E9)
  obtain ⟨_, _, ⟨T11, L11, kk11, n11⟩, -, X11, ⟨Lc11, hQ11, l11, y11, z11⟩, st11⟩ := X9.specialBack hx (y := (⟨"com/example/feeddb/feeddb/core/Position", "<init>", "(JJ)V"⟩ : MethodName)) rfl hown (mvT hZ (hw _ (List.mem_of_getElem? (i := 3) rfl))) (mvT hZ (hw _ (List.mem_of_getElem? (i := 4) rfl))) (mvT hZ (hw _ (List.mem_of_getElem? (i := 5) rfl))) (by decide) (backOf (W := 1) (rm1 l Z a0 hw [] b9 q0 q1 h9 n0 (Nat.le_trans Z0 K12.1) F9_10 F9_12 A9 ge_b9) hZ (hw _ (List.mem_of_getElem? (i := 5) rfl)) (hw _ (List.mem_of_getElem? (i := 2) rfl)) (by decide) (by decide)) (g := (mkF m 36 #[.val (.long q0), .second, .val (.long q1), .second, .val (.long q2), .second, .val (.long q3), .second, .val (.int p4), .val (.long v3), .second, .val (.long v7), .second, .unset, .unset, .unset, .unset, .unset, .unset] [(.long q1), (.long q0), (.ref b9), (.ref b9)])) rfl (by rw [hml]; rfl) (Steps.refl _) (a := b9) (argsL := [(.long q0), (.long q1)]) (rest := [(.ref b9)]) (lenOf own_pd3 rfl) rfl (by show 2 * 0 + _ ≤ _; exact Nat.le_of_eq rfl) (hb hby at_36) (fun _ _ => ⟨rfl, e9, (by decide : 1 + 0 ≤ _), (by decide : 2 + 0 ≤ _)⟩)
  dsimp only [Pt.U, Pt.locs, Pt.cells, Pt.slots] at X11 l11 y11 z11 st11 hQ11
  subst l11 y11 z11
  obtain ⟨rfl, N11q, K11, E11, F11_0, F11_1⟩ := hQ11
  have N11 := Fr.app N0 N11q
  obtain ⟨T13, h13, X13, e13, E13, A13, D13, -, st13⟩ := newO X11 hx hZ hown (hw _ (List.mem_of_getElem? (i := 0) rfl)) (hw _ (List.mem_of_getElem? (i := 1) rfl)) (hw _ (List.mem_of_getElem? (i := 2) rfl)) rfl (g := (mkF m 41 #[.val (.long q0), .second, .val (.long q1), .second, .val (.long q2), .second, .val (.long q3), .second, .val (.int p4), .val (.long v3), .second, .val (.long v7), .second, .val (.ref b9), .unset, .unset, .unset, .unset, .unset] [])) rfl (hb hby at_41) (by decide) (by decide)
  obtain ⟨b13, g13⟩ : ∃ z, z = T11.heap.size := ⟨_, rfl⟩
  rw [← g13] at A13 D13 st13
  have K14 : Keep h0 T11.heap [] := (K12.trans K11 (allS (P := fun x => x ∈ ([] : List Addr) ∨ h0.size ≤ x) (Or.inr sz_b9) all0))
  have ge_b13 : n0 ≤ b13 := Nat.le_trans (Nat.le_trans Z0 K14.1) (Nat.le_of_eq g13.symm)
  have sz_b13 : h0.size ≤ b13 := Nat.le_trans K14.1 (Nat.le_of_eq g13.symm)
  have ne_b9_b13 : b9 ≠ b13 := Nat.ne_of_lt (Nat.lt_of_lt_of_le E11.lt (Nat.le_of_eq g13.symm))
  have F13_10 : Fld Z h13 b13 "com/example/feeddb/feeddb/core/Position" "time" "J" (.long (0 : Int64)) := D13 (Or.inr (hw _ (List.mem_of_getElem? (i := 10) rfl))) (ty := .long) (by decide)
  have F13_12 : Fld Z h13 b13 "com/example/feeddb/feeddb/core/Position" "id" "J" (.long (0 : Int64)) := D13 (Or.inr (hw _ (List.mem_of_getElem? (i := 12) rfl))) (ty := .long) (by decide)
  have K16 : Keep h0 h13 [] := (K14.ext E13)
  obtain ⟨_, _, ⟨T15, L15, kk15, n15⟩, -, X15, ⟨Lc15, hQ15, l15, y15, z15⟩, st15⟩ := X13.specialBack hx (y := (⟨"com/example/feeddb/feeddb/core/Position", "<init>", "(JJ)V"⟩ : MethodName)) rfl hown (mvT hZ (hw _ (List.mem_of_getElem? (i := 3) rfl))) (mvT hZ (hw _ (List.mem_of_getElem? (i := 4) rfl))) (mvT hZ (hw _ (List.mem_of_getElem? (i := 5) rfl))) (by decide) (backOf (W := 1) (rm1 l Z a0 hw [] b13 v3 v7 h13 n0 (Nat.le_trans Z0 K16.1) F13_10 F13_12 A13 ge_b13) hZ (hw _ (List.mem_of_getElem? (i := 5) rfl)) (hw _ (List.mem_of_getElem? (i := 2) rfl)) (by decide) (by decide)) (g := (mkF m 49 #[.val (.long q0), .second, .val (.long q1), .second, .val (.long q2), .second, .val (.long q3), .second, .val (.int p4), .val (.long v3), .second, .val (.long v7), .second, .val (.ref b9), .unset, .unset, .unset, .unset, .unset] [(.long v7), (.long v3), (.ref b13), (.ref b13)])) rfl (by rw [hml]; rfl) (Steps.refl _) (a := b13) (argsL := [(.long v3), (.long v7)]) (rest := [(.ref b13)]) (lenOf own_pd3 rfl) rfl (by show 2 * 0 + _ ≤ _; exact Nat.le_of_eq rfl) (hb hby at_49) (fun _ _ => ⟨rfl, e13, (by decide : 2 + 0 ≤ _), (by decide : 4 + 0 ≤ _)⟩)
  dsimp only [Pt.U, Pt.locs, Pt.cells, Pt.slots] at X15 l15 y15 z15 st15 hQ15
  subst l15 y15 z15
  obtain ⟨rfl, N15q, K15, E15, F15_0, F15_1⟩ := hQ15
  have N15 := Fr.app N11 N15q
  have k17 : own_To p e below T15 (mkF m 64 #[.val (.long q0), .second, .val (.long q1), .second, .val (.long q2), .second, .val (.long q3), .second, .val (.int p4), .val (.long v3), .second, .val (.long v7), .second, .val (.ref b9), .val (.ref b13), .val (.int (((p4.toUInt32 >>> ((2 : Int32) &&& 31).toUInt32).toInt32) &&& (3 : Int32))), .unset, .unset, .unset] [(.int (((p4.toUInt32 >>> ((2 : Int32) &&& 31).toUInt32).toInt32) &&& (3 : Int32)))]) s₁ (mkF m 0 #[.val (.long q0), .second, .val (.long q1), .second, .val (.long q2), .second, .val (.long q3), .second, .val (.int p4), .unset, .unset, .unset, .unset, .unset, .unset, .unset, .unset, .unset, .unset] []) := fun t q => k8 t (by
    refine XS.lstore X0.here hx rfl (hb hby at_28) rfl (l' := #[.val (.long q0), .second, .val (.long q1), .second, .val (.long q2), .second, .val (.long q3), .second, .val (.int p4), .val (.long v3), .second, .val (.long v7), .second, .unset, .unset, .unset, .unset, .unset, .unset]) rfl ?_
    show Steps p.tables e below (s₁.setTop (mkF m 30 #[.val (.long q0), .second, .val (.long q1), .second, .val (.long q2), .second, .val (.long q3), .second, .val (.int p4), .val (.long v3), .second, .val (.long v7), .second, .unset, .unset, .unset, .unset, .unset, .unset] [])) _
    refine st9 _ ?_
    show Steps p.tables e below (T9.setTop (mkF m 33 #[.val (.long q0), .second, .val (.long q1), .second, .val (.long q2), .second, .val (.long q3), .second, .val (.int p4), .val (.long v3), .second, .val (.long v7), .second, .unset, .unset, .unset, .unset, .unset, .unset] [(.ref b9)])) _
    refine XS.dup X9.here hx rfl (hb hby at_33) rfl rfl ?_
    show Steps p.tables e below (T9.setTop (mkF m 34 #[.val (.long q0), .second, .val (.long q1), .second, .val (.long q2), .second, .val (.long q3), .second, .val (.int p4), .val (.long v3), .second, .val (.long v7), .second, .unset, .unset, .unset, .unset, .unset, .unset] [(.ref b9), (.ref b9)])) _
    refine XS.lloadN X9.here hx rfl (hb hby at_34) rfl ?_
    show Steps p.tables e below (T9.setTop (mkF m 35 #[.val (.long q0), .second, .val (.long q1), .second, .val (.long q2), .second, .val (.long q3), .second, .val (.int p4), .val (.long v3), .second, .val (.long v7), .second, .unset, .unset, .unset, .unset, .unset, .unset] [(.long q0), (.ref b9), (.ref b9)])) _
    refine XS.lloadN X9.here hx rfl (hb hby at_35) rfl ?_
    show Steps p.tables e below (T9.setTop (mkF m 36 #[.val (.long q0), .second, .val (.long q1), .second, .val (.long q2), .second, .val (.long q3), .second, .val (.int p4), .val (.long v3), .second, .val (.long v7), .second, .unset, .unset, .unset, .unset, .unset, .unset] [(.long q1), (.long q0), (.ref b9), (.ref b9)])) _
    refine st11.trans ?_
    show Steps p.tables e below (T11.setTop (mkF m 39 #[.val (.long q0), .second, .val (.long q1), .second, .val (.long q2), .second, .val (.long q3), .second, .val (.int p4), .val (.long v3), .second, .val (.long v7), .second, .unset, .unset, .unset, .unset, .unset, .unset] [(.ref b9)])) _
    refine XS.astore X11.here hx rfl (hb hby at_39) rfl rfl (l' := #[.val (.long q0), .second, .val (.long q1), .second, .val (.long q2), .second, .val (.long q3), .second, .val (.int p4), .val (.long v3), .second, .val (.long v7), .second, .val (.ref b9), .unset, .unset, .unset, .unset, .unset]) rfl ?_
    show Steps p.tables e below (T11.setTop (mkF m 41 #[.val (.long q0), .second, .val (.long q1), .second, .val (.long q2), .second, .val (.long q3), .second, .val (.int p4), .val (.long v3), .second, .val (.long v7), .second, .val (.ref b9), .unset, .unset, .unset, .unset, .unset] [])) _
    refine st13 _ ?_
    show Steps p.tables e below (T13.setTop (mkF m 44 #[.val (.long q0), .second, .val (.long q1), .second, .val (.long q2), .second, .val (.long q3), .second, .val (.int p4), .val (.long v3), .second, .val (.long v7), .second, .val (.ref b9), .unset, .unset, .unset, .unset, .unset] [(.ref b13)])) _
    refine XS.dup X13.here hx rfl (hb hby at_44) rfl rfl ?_
    show Steps p.tables e below (T13.setTop (mkF m 45 #[.val (.long q0), .second, .val (.long q1), .second, .val (.long q2), .second, .val (.long q3), .second, .val (.int p4), .val (.long v3), .second, .val (.long v7), .second, .val (.ref b9), .unset, .unset, .unset, .unset, .unset] [(.ref b13), (.ref b13)])) _
    refine XS.lload X13.here hx rfl (hb hby at_45) rfl ?_
    show Steps p.tables e below (T13.setTop (mkF m 47 #[.val (.long q0), .second, .val (.long q1), .second, .val (.long q2), .second, .val (.long q3), .second, .val (.int p4), .val (.long v3), .second, .val (.long v7), .second, .val (.ref b9), .unset, .unset, .unset, .unset, .unset] [(.long v3), (.ref b13), (.ref b13)])) _
    refine XS.lload X13.here hx rfl (hb hby at_47) rfl ?_
    show Steps p.tables e below (T13.setTop (mkF m 49 #[.val (.long q0), .second, .val (.long q1), .second, .val (.long q2), .second, .val (.long q3), .second, .val (.int p4), .val (.long v3), .second, .val (.long v7), .second, .val (.ref b9), .unset, .unset, .unset, .unset, .unset] [(.long v7), (.long v3), (.ref b13), (.ref b13)])) _
    refine st15.trans ?_
    show Steps p.tables e below (T15.setTop (mkF m 52 #[.val (.long q0), .second, .val (.long q1), .second, .val (.long q2), .second, .val (.long q3), .second, .val (.int p4), .val (.long v3), .second, .val (.long v7), .second, .val (.ref b9), .unset, .unset, .unset, .unset, .unset] [(.ref b13)])) _
    refine XS.astore X15.here hx rfl (hb hby at_52) rfl rfl (l' := #[.val (.long q0), .second, .val (.long q1), .second, .val (.long q2), .second, .val (.long q3), .second, .val (.int p4), .val (.long v3), .second, .val (.long v7), .second, .val (.ref b9), .val (.ref b13), .unset, .unset, .unset, .unset]) rfl ?_
    show Steps p.tables e below (T15.setTop (mkF m 54 #[.val (.long q0), .second, .val (.long q1), .second, .val (.long q2), .second, .val (.long q3), .second, .val (.int p4), .val (.long v3), .second, .val (.long v7), .second, .val (.ref b9), .val (.ref b13), .unset, .unset, .unset, .unset] [])) _
    refine XS.iload X15.here hx rfl (hb hby at_54) rfl ?_
    show Steps p.tables e below (T15.setTop (mkF m 56 #[.val (.long q0), .second, .val (.long q1), .second, .val (.long q2), .second, .val (.long q3), .second, .val (.int p4), .val (.long v3), .second, .val (.long v7), .second, .val (.ref b9), .val (.ref b13), .unset, .unset, .unset, .unset] [(.int p4)])) _
    refine XS.iconst X15.here hx rfl (hb hby at_56) ?_
    show Steps p.tables e below (T15.setTop (mkF m 57 #[.val (.long q0), .second, .val (.long q1), .second, .val (.long q2), .second, .val (.long q3), .second, .val (.int p4), .val (.long v3), .second, .val (.long v7), .second, .val (.ref b9), .val (.ref b13), .unset, .unset, .unset, .unset] [(.int (2 : Int32)), (.int p4)])) _
    refine XS.iushr X15.here hx rfl (hb hby at_57) rfl ?_
    show Steps p.tables e below (T15.setTop (mkF m 58 #[.val (.long q0), .second, .val (.long q1), .second, .val (.long q2), .second, .val (.long q3), .second, .val (.int p4), .val (.long v3), .second, .val (.long v7), .second, .val (.ref b9), .val (.ref b13), .unset, .unset, .unset, .unset] [(.int ((p4.toUInt32 >>> ((2 : Int32) &&& 31).toUInt32).toInt32))])) _
    refine XS.iconst X15.here hx rfl (hb hby at_58) ?_
    show Steps p.tables e below (T15.setTop (mkF m 59 #[.val (.long q0), .second, .val (.long q1), .second, .val (.long q2), .second, .val (.long q3), .second, .val (.int p4), .val (.long v3), .second, .val (.long v7), .second, .val (.ref b9), .val (.ref b13), .unset, .unset, .unset, .unset] [(.int (3 : Int32)), (.int ((p4.toUInt32 >>> ((2 : Int32) &&& 31).toUInt32).toInt32))])) _
    refine XS.iand X15.here hx rfl (hb hby at_59) rfl ?_
    show Steps p.tables e below (T15.setTop (mkF m 60 #[.val (.long q0), .second, .val (.long q1), .second, .val (.long q2), .second, .val (.long q3), .second, .val (.int p4), .val (.long v3), .second, .val (.long v7), .second, .val (.ref b9), .val (.ref b13), .unset, .unset, .unset, .unset] [(.int (((p4.toUInt32 >>> ((2 : Int32) &&& 31).toUInt32).toInt32) &&& (3 : Int32)))])) _
    refine XS.istore X15.here hx rfl (hb hby at_60) rfl (l' := #[.val (.long q0), .second, .val (.long q1), .second, .val (.long q2), .second, .val (.long q3), .second, .val (.int p4), .val (.long v3), .second, .val (.long v7), .second, .val (.ref b9), .val (.ref b13), .val (.int (((p4.toUInt32 >>> ((2 : Int32) &&& 31).toUInt32).toInt32) &&& (3 : Int32))), .unset, .unset, .unset]) rfl ?_
    show Steps p.tables e below (T15.setTop (mkF m 62 #[.val (.long q0), .second, .val (.long q1), .second, .val (.long q2), .second, .val (.long q3), .second, .val (.int p4), .val (.long v3), .second, .val (.long v7), .second, .val (.ref b9), .val (.ref b13), .val (.int (((p4.toUInt32 >>> ((2 : Int32) &&& 31).toUInt32).toInt32) &&& (3 : Int32))), .unset, .unset, .unset] [])) _
    refine XS.iload X15.here hx rfl (hb hby at_62) rfl ?_
    show Steps p.tables e below (T15.setTop (mkF m 64 #[.val (.long q0), .second, .val (.long q1), .second, .val (.long q2), .second, .val (.long q3), .second, .val (.int p4), .val (.long v3), .second, .val (.long v7), .second, .val (.ref b9), .val (.ref b13), .val (.int (((p4.toUInt32 >>> ((2 : Int32) &&& 31).toUInt32).toInt32) &&& (3 : Int32))), .unset, .unset, .unset] [(.int (((p4.toUInt32 >>> ((2 : Int32) &&& 31).toUInt32).toInt32) &&& (3 : Int32)))])) _
    exact q)
  by_cases hc18 : (((p4.toUInt32 >>> ((2 : Int32) &&& 31).toUInt32).toInt32) &&& (3 : Int32)) = (0 : Int32)
  ·
    have K20 : Keep h0 T15.heap [] := (K16.trans K15 (allS (P := fun x => x ∈ ([] : List Addr) ∨ h0.size ≤ x) (Or.inr sz_b13) all0))
    have F21 := ((E11.ext E13).keep K15)
    obtain ⟨cq19, kq19, q19a, q19b, q19c⟩ := isOf hZ rfl F21
    obtain ⟨_, _, ⟨T19, L19, kk19, n19⟩, -, X19, ⟨Lc19, hQ19, l19, y19, z19⟩, st19⟩ := X15.virtualBack hx (y := (⟨"com/example/feeddb/feeddb/core/Position", "equals", "(Ljava/lang/Object;)Z"⟩ : MethodName)) (z := (⟨"com/example/feeddb/feeddb/core/Position", "equals", "(Ljava/lang/Object;)Z"⟩ : MethodName)) hown (mvT hZ (hw _ (List.mem_of_getElem? (i := 13) rfl))) (mvT hZ (hw _ (List.mem_of_getElem? (i := 14) rfl))) (notFace_of_selects (args := #[]) (mvT hZ (hw _ (List.mem_of_getElem? (i := 16) rfl)))) (mvT hZ (hw _ (List.mem_of_getElem? (i := 16) rfl))) (mvT hZ (hw _ (List.mem_of_getElem? (i := 15) rfl))) (by decide) (backOf (W := 0) (rm3n l Z a0 hw [] b9 T15.heap n0 (Nat.le_trans Z0 K20.1)) hZ (hw _ (List.mem_of_getElem? (i := 17) rfl)) (hw _ (List.mem_of_getElem? (i := 2) rfl)) (by decide) (by decide)) q19a q19c (g := (mkF m 74 #[.val (.long q0), .second, .val (.long q1), .second, .val (.long q2), .second, .val (.long q3), .second, .val (.int p4), .val (.long v3), .second, .val (.long v7), .second, .val (.ref b9), .val (.ref b13), .val (.int (((p4.toUInt32 >>> ((2 : Int32) &&& 31).toUInt32).toInt32) &&& (3 : Int32))), .val .null, .unset, .unset] [.null, (.ref b9)])) rfl (by rw [hml]; rfl) (Steps.refl _) (argsL := [.null]) (rest := []) (lenOf own_pd4 rfl) rfl (by show 2 * 0 + _ ≤ _; exact Nat.le_of_eq rfl) (hb hby at_74) (fun _ _ => ⟨rfl, rfl, (by decide : 2 + 0 ≤ _), (by decide : 4 + 0 ≤ _)⟩)
    dsimp only [Pt.U, Pt.locs, Pt.cells, Pt.slots] at X19 l19 y19 z19 st19 hQ19
    subst l19 y19 z19
    obtain ⟨rfl, N19q, e19⟩ := hQ19
    have N19 := Fr.app N15 N19q
    have k22 : own_To p e below T19 (mkF m 85 #[.val (.long q0), .second, .val (.long q1), .second, .val (.long q2), .second, .val (.long q3), .second, .val (.int p4), .val (.long v3), .second, .val (.long v7), .second, .val (.ref b9), .val (.ref b13), .val (.int (((p4.toUInt32 >>> ((2 : Int32) &&& 31).toUInt32).toInt32) &&& (3 : Int32))), .val .null, .unset, .unset] [(.int (1 : Int32))]) s₁ (mkF m 0 #[.val (.long q0), .second, .val (.long q1), .second, .val (.long q2), .second, .val (.long q3), .second, .val (.int p4), .unset, .unset, .unset, .unset, .unset, .unset, .unset, .unset, .unset, .unset] []) := fun t q => k17 t (by
      refine XS.ifNo X15.here hx rfl (hb hby at_64) rfl ((if0 _ _).trans (teq hc18).2) ?_
      show Steps p.tables e below (T15.setTop (mkF m 67 #[.val (.long q0), .second, .val (.long q1), .second, .val (.long q2), .second, .val (.long q3), .second, .val (.int p4), .val (.long v3), .second, .val (.long v7), .second, .val (.ref b9), .val (.ref b13), .val (.int (((p4.toUInt32 >>> ((2 : Int32) &&& 31).toUInt32).toInt32) &&& (3 : Int32))), .unset, .unset, .unset] [])) _
      refine XS.aconstNull X15.here hx rfl (hb hby at_67) ?_
      show Steps p.tables e below (T15.setTop (mkF m 68 #[.val (.long q0), .second, .val (.long q1), .second, .val (.long q2), .second, .val (.long q3), .second, .val (.int p4), .val (.long v3), .second, .val (.long v7), .second, .val (.ref b9), .val (.ref b13), .val (.int (((p4.toUInt32 >>> ((2 : Int32) &&& 31).toUInt32).toInt32) &&& (3 : Int32))), .unset, .unset, .unset] [.null])) _
      refine XS.astore X15.here hx rfl (hb hby at_68) rfl rfl (l' := #[.val (.long q0), .second, .val (.long q1), .second, .val (.long q2), .second, .val (.long q3), .second, .val (.int p4), .val (.long v3), .second, .val (.long v7), .second, .val (.ref b9), .val (.ref b13), .val (.int (((p4.toUInt32 >>> ((2 : Int32) &&& 31).toUInt32).toInt32) &&& (3 : Int32))), .val .null, .unset, .unset]) rfl ?_
      show Steps p.tables e below (T15.setTop (mkF m 70 #[.val (.long q0), .second, .val (.long q1), .second, .val (.long q2), .second, .val (.long q3), .second, .val (.int p4), .val (.long v3), .second, .val (.long v7), .second, .val (.ref b9), .val (.ref b13), .val (.int (((p4.toUInt32 >>> ((2 : Int32) &&& 31).toUInt32).toInt32) &&& (3 : Int32))), .val .null, .unset, .unset] [])) _
      refine XS.aload X15.here hx rfl (hb hby at_70) rfl rfl ?_
      show Steps p.tables e below (T15.setTop (mkF m 72 #[.val (.long q0), .second, .val (.long q1), .second, .val (.long q2), .second, .val (.long q3), .second, .val (.int p4), .val (.long v3), .second, .val (.long v7), .second, .val (.ref b9), .val (.ref b13), .val (.int (((p4.toUInt32 >>> ((2 : Int32) &&& 31).toUInt32).toInt32) &&& (3 : Int32))), .val .null, .unset, .unset] [(.ref b9)])) _
      refine XS.aload X15.here hx rfl (hb hby at_72) rfl rfl ?_
      show Steps p.tables e below (T15.setTop (mkF m 74 #[.val (.long q0), .second, .val (.long q1), .second, .val (.long q2), .second, .val (.long q3), .second, .val (.int p4), .val (.long v3), .second, .val (.long v7), .second, .val (.ref b9), .val (.ref b13), .val (.int (((p4.toUInt32 >>> ((2 : Int32) &&& 31).toUInt32).toInt32) &&& (3 : Int32))), .val .null, .unset, .unset] [.null, (.ref b9)])) _
      refine st19.trans ?_
      show Steps p.tables e below (T19.setTop (mkF m 77 #[.val (.long q0), .second, .val (.long q1), .second, .val (.long q2), .second, .val (.long q3), .second, .val (.int p4), .val (.long v3), .second, .val (.long v7), .second, .val (.ref b9), .val (.ref b13), .val (.int (((p4.toUInt32 >>> ((2 : Int32) &&& 31).toUInt32).toInt32) &&& (3 : Int32))), .val .null, .unset, .unset] [(.int (0 : Int32))])) _
      refine XS.ifNo X19.here hx rfl (hb hby at_77) rfl ((if0 _ _).trans (teq rfl).2) ?_
      show Steps p.tables e below (T19.setTop (mkF m 80 #[.val (.long q0), .second, .val (.long q1), .second, .val (.long q2), .second, .val (.long q3), .second, .val (.int p4), .val (.long v3), .second, .val (.long v7), .second, .val (.ref b9), .val (.ref b13), .val (.int (((p4.toUInt32 >>> ((2 : Int32) &&& 31).toUInt32).toInt32) &&& (3 : Int32))), .val .null, .unset, .unset] [])) _
      refine XS.iconst X19.here hx rfl (hb hby at_80) ?_
      show Steps p.tables e below (T19.setTop (mkF m 81 #[.val (.long q0), .second, .val (.long q1), .second, .val (.long q2), .second, .val (.long q3), .second, .val (.int p4), .val (.long v3), .second, .val (.long v7), .second, .val (.ref b9), .val (.ref b13), .val (.int (((p4.toUInt32 >>> ((2 : Int32) &&& 31).toUInt32).toInt32) &&& (3 : Int32))), .val .null, .unset, .unset] [(.int (1 : Int32))])) _
      refine XS.goto X19.here hx rfl (pc0 := 81) (pc' := 85) rfl (hb hby at_81) (by decide) (by decide) ?_
      show Steps p.tables e below (T19.setTop (mkF m 85 #[.val (.long q0), .second, .val (.long q1), .second, .val (.long q2), .second, .val (.long q3), .second, .val (.int p4), .val (.long v3), .second, .val (.long v7), .second, .val (.ref b9), .val (.ref b13), .val (.int (((p4.toUInt32 >>> ((2 : Int32) &&& 31).toUInt32).toInt32) &&& (3 : Int32))), .val .null, .unset, .unset] [(.int (1 : Int32))])) _
      exact q)
    obtain ⟨fs, hr, hrun, hended, hW, hsame⟩ := X19.leave (v := some (.int (1 : Int32))) (fun h => by rw [Bd.returns] at h; cases h)
    refine ⟨_, _, k0 _ (k22 _ ?_), hrun, hended, _, _, rfl, ?_, ⟨_, rfl⟩, hW, hsame.mono (by decide) (by decide)⟩
    · show Steps p.tables e below (T19.setTop (mkF m 85 #[.val (.long q0), .second, .val (.long q1), .second, .val (.long q2), .second, .val (.long q3), .second, .val (.int p4), .val (.long v3), .second, .val (.long v7), .second, .val (.ref b9), .val (.ref b13), .val (.int (((p4.toUInt32 >>> ((2 : Int32) &&& 31).toUInt32).toInt32) &&& (3 : Int32))), .val .null, .unset, .unset] [(.int (1 : Int32))])) _
      exact retN X19 hx (t := .boolean) Bd.returns (by simp) (hb hby at_85) hr
    · show Q0 Z q0 q1 q2 q3 p4 aC clC h0 n0 _ T19.heap _
      rw [e19]
      exact ⟨rfl, N19⟩
  ·
    have k23 : own_To p e below T15 (mkF m 89 #[.val (.long q0), .second, .val (.long q1), .second, .val (.long q2), .second, .val (.long q3), .second, .val (.int p4), .val (.long v3), .second, .val (.long v7), .second, .val (.ref b9), .val (.ref b13), .val (.int (((p4.toUInt32 >>> ((2 : Int32) &&& 31).toUInt32).toInt32) &&& (3 : Int32))), .unset, .unset, .unset] [(.int (1 : Int32)), (.int (((p4.toUInt32 >>> ((2 : Int32) &&& 31).toUInt32).toInt32) &&& (3 : Int32)))]) s₁ (mkF m 0 #[.val (.long q0), .second, .val (.long q1), .second, .val (.long q2), .second, .val (.long q3), .second, .val (.int p4), .unset, .unset, .unset, .unset, .unset, .unset, .unset, .unset, .unset, .unset] []) := fun t q => k17 t (by
      refine XS.ifYes X15.here hx rfl (pc0 := 64) (pc' := 86) rfl (hb hby at_64) rfl ((if0 _ _).trans (feq hc18).2) (by decide) (by decide) ?_
      show Steps p.tables e below (T15.setTop (mkF m 86 #[.val (.long q0), .second, .val (.long q1), .second, .val (.long q2), .second, .val (.long q3), .second, .val (.int p4), .val (.long v3), .second, .val (.long v7), .second, .val (.ref b9), .val (.ref b13), .val (.int (((p4.toUInt32 >>> ((2 : Int32) &&& 31).toUInt32).toInt32) &&& (3 : Int32))), .unset, .unset, .unset] [])) _
      refine XS.iload X15.here hx rfl (hb hby at_86) rfl ?_
      show Steps p.tables e below (T15.setTop (mkF m 88 #[.val (.long q0), .second, .val (.long q1), .second, .val (.long q2), .second, .val (.long q3), .second, .val (.int p4), .val (.long v3), .second, .val (.long v7), .second, .val (.ref b9), .val (.ref b13), .val (.int (((p4.toUInt32 >>> ((2 : Int32) &&& 31).toUInt32).toInt32) &&& (3 : Int32))), .unset, .unset, .unset] [(.int (((p4.toUInt32 >>> ((2 : Int32) &&& 31).toUInt32).toInt32) &&& (3 : Int32)))])) _
      refine XS.iconst X15.here hx rfl (hb hby at_88) ?_
      show Steps p.tables e below (T15.setTop (mkF m 89 #[.val (.long q0), .second, .val (.long q1), .second, .val (.long q2), .second, .val (.long q3), .second, .val (.int p4), .val (.long v3), .second, .val (.long v7), .second, .val (.ref b9), .val (.ref b13), .val (.int (((p4.toUInt32 >>> ((2 : Int32) &&& 31).toUInt32).toInt32) &&& (3 : Int32))), .unset, .unset, .unset] [(.int (1 : Int32)), (.int (((p4.toUInt32 >>> ((2 : Int32) &&& 31).toUInt32).toInt32) &&& (3 : Int32)))])) _
      exact q)
    by_cases hc24 : (((p4.toUInt32 >>> ((2 : Int32) &&& 31).toUInt32).toInt32) &&& (3 : Int32)) = (1 : Int32)
    ·
      have K26 : Keep h0 T15.heap [] := (K16.trans K15 (allS (P := fun x => x ∈ ([] : List Addr) ∨ h0.size ≤ x) (Or.inr sz_b13) all0))
      have O27 : Old Z n0 T15.heap := ((((O0.ext E9).keep K11 (allS ge_b9 all0)).ext E13).keep K15 (allS ge_b13 all0))
      obtain ⟨_, _, ⟨T25, L25, kk25, n25⟩, -, X25, ⟨Lc25, hQ25, l25, y25, z25⟩, st25⟩ := Jvm.LawKit.callS X15 hx (y := (⟨"java/lang/Long", "valueOf", "(J)Ljava/lang/Long;"⟩ : MethodName)) hown (mvT hZ (hw _ (List.mem_of_getElem? (i := 20) rfl))) (mvT hZ (hw _ (List.mem_of_getElem? (i := 21) rfl))) (mvT hZ (hw _ (List.mem_of_getElem? (i := 22) rfl))) (mvT hZ (hw _ (List.mem_of_getElem? (i := 23) rfl))) (by decide) (backOf (W := 0) (rm4 l Z a0 hw [] q0 aC clC T15.heap n0 (Nat.le_trans Z0 K26.1) HC O27) hZ (hw _ (List.mem_of_getElem? (i := 23) rfl)) (hw _ (List.mem_of_getElem? (i := 22) rfl)) (by decide) (by decide)) (g := (mkF m 93 #[.val (.long q0), .second, .val (.long q1), .second, .val (.long q2), .second, .val (.long q3), .second, .val (.int p4), .val (.long v3), .second, .val (.long v7), .second, .val (.ref b9), .val (.ref b13), .val (.int (((p4.toUInt32 >>> ((2 : Int32) &&& 31).toUInt32).toInt32) &&& (3 : Int32))), .unset, .unset, .unset] [(.long q0)])) rfl (by rw [hml]; rfl) (argsL := [(.long q0)]) (rest := []) (lenOf own_pd1 rfl) rfl (by show 2 * 0 + _ ≤ _; exact Nat.le_of_eq rfl) (hb hby at_93) (fun _ _ => ⟨rfl, rfl, (by decide : 2 + 1 ≤ _), (by decide : 4 + 1 ≤ _)⟩)
      dsimp only [Pt.U, Pt.locs, Pt.cells, Pt.slots] at X25 l25 y25 z25 st25 hQ25
      subst l25 y25 z25
      obtain ⟨r25, rfl, N25q, K25, E25⟩ := hQ25
      have N25 := Fr.app N15 N25q
      have K29 : Keep h0 T25.heap [] := (K26.trans K25 all0)
      have F30 := (((E11.ext E13).keep K15).keep K25)
      obtain ⟨cq28, kq28, q28a, q28b, q28c⟩ := isOf hZ rfl F30
      obtain ⟨_, _, ⟨T28, L28, kk28, n28⟩, -, X28, ⟨Lc28, hQ28, l28, y28, z28⟩, st28⟩ := X25.virtualBack hx (y := (⟨"com/example/feeddb/feeddb/core/Position", "equals", "(Ljava/lang/Object;)Z"⟩ : MethodName)) (z := (⟨"com/example/feeddb/feeddb/core/Position", "equals", "(Ljava/lang/Object;)Z"⟩ : MethodName)) hown (mvT hZ (hw _ (List.mem_of_getElem? (i := 13) rfl))) (mvT hZ (hw _ (List.mem_of_getElem? (i := 14) rfl))) (notFace_of_selects (args := #[]) (mvT hZ (hw _ (List.mem_of_getElem? (i := 16) rfl)))) (mvT hZ (hw _ (List.mem_of_getElem? (i := 16) rfl))) (mvT hZ (hw _ (List.mem_of_getElem? (i := 15) rfl))) (by decide) (backOf (W := 0) (rm3l l Z a0 hw [] b9 r25 T25.heap n0 (Nat.le_trans Z0 K29.1) E25) hZ (hw _ (List.mem_of_getElem? (i := 17) rfl)) (hw _ (List.mem_of_getElem? (i := 2) rfl)) (by decide) (by decide)) q28a q28c (g := (mkF m 102 #[.val (.long q0), .second, .val (.long q1), .second, .val (.long q2), .second, .val (.long q3), .second, .val (.int p4), .val (.long v3), .second, .val (.long v7), .second, .val (.ref b9), .val (.ref b13), .val (.int (((p4.toUInt32 >>> ((2 : Int32) &&& 31).toUInt32).toInt32) &&& (3 : Int32))), .val (.ref r25), .unset, .unset] [(.ref r25), (.ref b9)])) rfl (by rw [hml]; rfl) (Steps.refl _) (argsL := [(.ref r25)]) (rest := []) (lenOf own_pd4 rfl) rfl (by show 2 * 0 + _ ≤ _; exact Nat.le_of_eq rfl) (hb hby at_102) (fun _ _ => ⟨rfl, rfl, (by decide : 3 + 0 ≤ _), (by decide : 5 + 0 ≤ _)⟩)
      dsimp only [Pt.U, Pt.locs, Pt.cells, Pt.slots] at X28 l28 y28 z28 st28 hQ28
      subst l28 y28 z28
      obtain ⟨rfl, N28q, e28⟩ := hQ28
      have N28 := Fr.app N25 N28q
      have k31 : own_To p e below T28 (mkF m 113 #[.val (.long q0), .second, .val (.long q1), .second, .val (.long q2), .second, .val (.long q3), .second, .val (.int p4), .val (.long v3), .second, .val (.long v7), .second, .val (.ref b9), .val (.ref b13), .val (.int (((p4.toUInt32 >>> ((2 : Int32) &&& 31).toUInt32).toInt32) &&& (3 : Int32))), .val (.ref r25), .unset, .unset] [(.int (1 : Int32))]) s₁ (mkF m 0 #[.val (.long q0), .second, .val (.long q1), .second, .val (.long q2), .second, .val (.long q3), .second, .val (.int p4), .unset, .unset, .unset, .unset, .unset, .unset, .unset, .unset, .unset, .unset] []) := fun t q => k23 t (by
        refine XS.icmpNo X15.here hx rfl (hb hby at_89) rfl (teq hc24).2 ?_
        show Steps p.tables e below (T15.setTop (mkF m 92 #[.val (.long q0), .second, .val (.long q1), .second, .val (.long q2), .second, .val (.long q3), .second, .val (.int p4), .val (.long v3), .second, .val (.long v7), .second, .val (.ref b9), .val (.ref b13), .val (.int (((p4.toUInt32 >>> ((2 : Int32) &&& 31).toUInt32).toInt32) &&& (3 : Int32))), .unset, .unset, .unset] [])) _
        refine XS.lloadN X15.here hx rfl (hb hby at_92) rfl ?_
        show Steps p.tables e below (T15.setTop (mkF m 93 #[.val (.long q0), .second, .val (.long q1), .second, .val (.long q2), .second, .val (.long q3), .second, .val (.int p4), .val (.long v3), .second, .val (.long v7), .second, .val (.ref b9), .val (.ref b13), .val (.int (((p4.toUInt32 >>> ((2 : Int32) &&& 31).toUInt32).toInt32) &&& (3 : Int32))), .unset, .unset, .unset] [(.long q0)])) _
        refine st25 _ ?_
        show Steps p.tables e below (T25.setTop (mkF m 96 #[.val (.long q0), .second, .val (.long q1), .second, .val (.long q2), .second, .val (.long q3), .second, .val (.int p4), .val (.long v3), .second, .val (.long v7), .second, .val (.ref b9), .val (.ref b13), .val (.int (((p4.toUInt32 >>> ((2 : Int32) &&& 31).toUInt32).toInt32) &&& (3 : Int32))), .unset, .unset, .unset] [(.ref r25)])) _
        refine XS.astore X25.here hx rfl (hb hby at_96) rfl rfl (l' := #[.val (.long q0), .second, .val (.long q1), .second, .val (.long q2), .second, .val (.long q3), .second, .val (.int p4), .val (.long v3), .second, .val (.long v7), .second, .val (.ref b9), .val (.ref b13), .val (.int (((p4.toUInt32 >>> ((2 : Int32) &&& 31).toUInt32).toInt32) &&& (3 : Int32))), .val (.ref r25), .unset, .unset]) rfl ?_
        show Steps p.tables e below (T25.setTop (mkF m 98 #[.val (.long q0), .second, .val (.long q1), .second, .val (.long q2), .second, .val (.long q3), .second, .val (.int p4), .val (.long v3), .second, .val (.long v7), .second, .val (.ref b9), .val (.ref b13), .val (.int (((p4.toUInt32 >>> ((2 : Int32) &&& 31).toUInt32).toInt32) &&& (3 : Int32))), .val (.ref r25), .unset, .unset] [])) _
        refine XS.aload X25.here hx rfl (hb hby at_98) rfl rfl ?_
        show Steps p.tables e below (T25.setTop (mkF m 100 #[.val (.long q0), .second, .val (.long q1), .second, .val (.long q2), .second, .val (.long q3), .second, .val (.int p4), .val (.long v3), .second, .val (.long v7), .second, .val (.ref b9), .val (.ref b13), .val (.int (((p4.toUInt32 >>> ((2 : Int32) &&& 31).toUInt32).toInt32) &&& (3 : Int32))), .val (.ref r25), .unset, .unset] [(.ref b9)])) _
        refine XS.aload X25.here hx rfl (hb hby at_100) rfl rfl ?_
        show Steps p.tables e below (T25.setTop (mkF m 102 #[.val (.long q0), .second, .val (.long q1), .second, .val (.long q2), .second, .val (.long q3), .second, .val (.int p4), .val (.long v3), .second, .val (.long v7), .second, .val (.ref b9), .val (.ref b13), .val (.int (((p4.toUInt32 >>> ((2 : Int32) &&& 31).toUInt32).toInt32) &&& (3 : Int32))), .val (.ref r25), .unset, .unset] [(.ref r25), (.ref b9)])) _
        refine st28.trans ?_
        show Steps p.tables e below (T28.setTop (mkF m 105 #[.val (.long q0), .second, .val (.long q1), .second, .val (.long q2), .second, .val (.long q3), .second, .val (.int p4), .val (.long v3), .second, .val (.long v7), .second, .val (.ref b9), .val (.ref b13), .val (.int (((p4.toUInt32 >>> ((2 : Int32) &&& 31).toUInt32).toInt32) &&& (3 : Int32))), .val (.ref r25), .unset, .unset] [(.int (0 : Int32))])) _
        refine XS.ifNo X28.here hx rfl (hb hby at_105) rfl ((if0 _ _).trans (teq rfl).2) ?_
        show Steps p.tables e below (T28.setTop (mkF m 108 #[.val (.long q0), .second, .val (.long q1), .second, .val (.long q2), .second, .val (.long q3), .second, .val (.int p4), .val (.long v3), .second, .val (.long v7), .second, .val (.ref b9), .val (.ref b13), .val (.int (((p4.toUInt32 >>> ((2 : Int32) &&& 31).toUInt32).toInt32) &&& (3 : Int32))), .val (.ref r25), .unset, .unset] [])) _
        refine XS.iconst X28.here hx rfl (hb hby at_108) ?_
        show Steps p.tables e below (T28.setTop (mkF m 109 #[.val (.long q0), .second, .val (.long q1), .second, .val (.long q2), .second, .val (.long q3), .second, .val (.int p4), .val (.long v3), .second, .val (.long v7), .second, .val (.ref b9), .val (.ref b13), .val (.int (((p4.toUInt32 >>> ((2 : Int32) &&& 31).toUInt32).toInt32) &&& (3 : Int32))), .val (.ref r25), .unset, .unset] [(.int (1 : Int32))])) _
        refine XS.goto X28.here hx rfl (pc0 := 109) (pc' := 113) rfl (hb hby at_109) (by decide) (by decide) ?_
        show Steps p.tables e below (T28.setTop (mkF m 113 #[.val (.long q0), .second, .val (.long q1), .second, .val (.long q2), .second, .val (.long q3), .second, .val (.int p4), .val (.long v3), .second, .val (.long v7), .second, .val (.ref b9), .val (.ref b13), .val (.int (((p4.toUInt32 >>> ((2 : Int32) &&& 31).toUInt32).toInt32) &&& (3 : Int32))), .val (.ref r25), .unset, .unset] [(.int (1 : Int32))])) _
        exact q)
      obtain ⟨fs, hr, hrun, hended, hW, hsame⟩ := X28.leave (v := some (.int (1 : Int32))) (fun h => by rw [Bd.returns] at h; cases h)
      refine ⟨_, _, k0 _ (k31 _ ?_), hrun, hended, _, _, rfl, ?_, ⟨_, rfl⟩, hW, hsame.mono (by decide) (by decide)⟩
      · show Steps p.tables e below (T28.setTop (mkF m 113 #[.val (.long q0), .second, .val (.long q1), .second, .val (.long q2), .second, .val (.long q3), .second, .val (.int p4), .val (.long v3), .second, .val (.long v7), .second, .val (.ref b9), .val (.ref b13), .val (.int (((p4.toUInt32 >>> ((2 : Int32) &&& 31).toUInt32).toInt32) &&& (3 : Int32))), .val (.ref r25), .unset, .unset] [(.int (1 : Int32))])) _
        exact retN X28 hx (t := .boolean) Bd.returns (by simp) (hb hby at_113) hr
      · show Q0 Z q0 q1 q2 q3 p4 aC clC h0 n0 _ T28.heap _
        rw [e28]
        exact ⟨rfl, N28⟩
    ·
      have k32 : own_To p e below T15 (mkF m 117 #[.val (.long q0), .second, .val (.long q1), .second, .val (.long q2), .second, .val (.long q3), .second, .val (.int p4), .val (.long v3), .second, .val (.long v7), .second, .val (.ref b9), .val (.ref b13), .val (.int (((p4.toUInt32 >>> ((2 : Int32) &&& 31).toUInt32).toInt32) &&& (3 : Int32))), .unset, .unset, .unset] [(.int (2 : Int32)), (.int (((p4.toUInt32 >>> ((2 : Int32) &&& 31).toUInt32).toInt32) &&& (3 : Int32)))]) s₁ (mkF m 0 #[.val (.long q0), .second, .val (.long q1), .second, .val (.long q2), .second, .val (.long q3), .second, .val (.int p4), .unset, .unset, .unset, .unset, .unset, .unset, .unset, .unset, .unset, .unset] []) := fun t q => k23 t (by
        refine XS.icmpYes X15.here hx rfl (pc0 := 89) (pc' := 114) rfl (hb hby at_89) rfl (feq hc24).2 (by decide) (by decide) ?_
        show Steps p.tables e below (T15.setTop (mkF m 114 #[.val (.long q0), .second, .val (.long q1), .second, .val (.long q2), .second, .val (.long q3), .second, .val (.int p4), .val (.long v3), .second, .val (.long v7), .second, .val (.ref b9), .val (.ref b13), .val (.int (((p4.toUInt32 >>> ((2 : Int32) &&& 31).toUInt32).toInt32) &&& (3 : Int32))), .unset, .unset, .unset] [])) _
        refine XS.iload X15.here hx rfl (hb hby at_114) rfl ?_
        show Steps p.tables e below (T15.setTop (mkF m 116 #[.val (.long q0), .second, .val (.long q1), .second, .val (.long q2), .second, .val (.long q3), .second, .val (.int p4), .val (.long v3), .second, .val (.long v7), .second, .val (.ref b9), .val (.ref b13), .val (.int (((p4.toUInt32 >>> ((2 : Int32) &&& 31).toUInt32).toInt32) &&& (3 : Int32))), .unset, .unset, .unset] [(.int (((p4.toUInt32 >>> ((2 : Int32) &&& 31).toUInt32).toInt32) &&& (3 : Int32)))])) _
        refine XS.iconst X15.here hx rfl (hb hby at_116) ?_
        show Steps p.tables e below (T15.setTop (mkF m 117 #[.val (.long q0), .second, .val (.long q1), .second, .val (.long q2), .second, .val (.long q3), .second, .val (.int p4), .val (.long v3), .second, .val (.long v7), .second, .val (.ref b9), .val (.ref b13), .val (.int (((p4.toUInt32 >>> ((2 : Int32) &&& 31).toUInt32).toInt32) &&& (3 : Int32))), .unset, .unset, .unset] [(.int (2 : Int32)), (.int (((p4.toUInt32 >>> ((2 : Int32) &&& 31).toUInt32).toInt32) &&& (3 : Int32)))])) _
        exact q)
      by_cases hc33 : (((p4.toUInt32 >>> ((2 : Int32) &&& 31).toUInt32).toInt32) &&& (3 : Int32)) = (2 : Int32)
      ·
        have F35 := ((F11_0.ext E13).keep K15 (ninS ne_b9_b13 nin0))
        have F36 := ((F11_1.ext E13).keep K15 (ninS ne_b9_b13 nin0))
        have F37 := ((E11.ext E13).keep K15)
        have K38 : Keep h0 T15.heap [] := (K16.trans K15 (allS (P := fun x => x ∈ ([] : List Addr) ∨ h0.size ≤ x) (Or.inr sz_b13) all0))
        obtain ⟨cq34, kq34, q34a, q34b, q34c⟩ := isOf hZ rfl F37
        obtain ⟨_, _, ⟨T34, L34, kk34, n34⟩, -, X34, ⟨Lc34, hQ34, l34, y34, z34⟩, st34⟩ := X15.virtualBack hx (y := (⟨"com/example/feeddb/feeddb/core/Position", "equals", "(Ljava/lang/Object;)Z"⟩ : MethodName)) (z := (⟨"com/example/feeddb/feeddb/core/Position", "equals", "(Ljava/lang/Object;)Z"⟩ : MethodName)) hown (mvT hZ (hw _ (List.mem_of_getElem? (i := 13) rfl))) (mvT hZ (hw _ (List.mem_of_getElem? (i := 14) rfl))) (notFace_of_selects (args := #[]) (mvT hZ (hw _ (List.mem_of_getElem? (i := 16) rfl)))) (mvT hZ (hw _ (List.mem_of_getElem? (i := 16) rfl))) (mvT hZ (hw _ (List.mem_of_getElem? (i := 15) rfl))) (by decide) (backOf (W := 0) (rm3p l Z a0 hw [] b9 b9 q0 q1 q0 q1 T15.heap n0 (Nat.le_trans Z0 K38.1) F35 F36 F35 F36 F37) hZ (hw _ (List.mem_of_getElem? (i := 17) rfl)) (hw _ (List.mem_of_getElem? (i := 2) rfl)) (by decide) (by decide)) q34a q34c (g := (mkF m 128 #[.val (.long q0), .second, .val (.long q1), .second, .val (.long q2), .second, .val (.long q3), .second, .val (.int p4), .val (.long v3), .second, .val (.long v7), .second, .val (.ref b9), .val (.ref b13), .val (.int (((p4.toUInt32 >>> ((2 : Int32) &&& 31).toUInt32).toInt32) &&& (3 : Int32))), .val (.ref b9), .unset, .unset] [(.ref b9), (.ref b9)])) rfl (by rw [hml]; rfl) (Steps.refl _) (argsL := [(.ref b9)]) (rest := []) (lenOf own_pd4 rfl) rfl (by show 2 * 0 + _ ≤ _; exact Nat.le_of_eq rfl) (hb hby at_128) (fun _ _ => ⟨rfl, rfl, (by decide : 2 + 0 ≤ _), (by decide : 4 + 0 ≤ _)⟩)
        dsimp only [Pt.U, Pt.locs, Pt.cells, Pt.slots] at X34 l34 y34 z34 st34 hQ34
        subst l34 y34 z34
        obtain ⟨rfl, N34q, e34⟩ := hQ34
        have N34 := Fr.app N15 N34q
        have es := own_eqs q0 q1
        have hn : nar .boolean (own_eq q0 q1 q0 q1) = 1 := by rw [es]; decide
        have k39 : own_To p e below T34 (mkF m 131 #[.val (.long q0), .second, .val (.long q1), .second, .val (.long q2), .second, .val (.long q3), .second, .val (.int p4), .val (.long v3), .second, .val (.long v7), .second, .val (.ref b9), .val (.ref b13), .val (.int (((p4.toUInt32 >>> ((2 : Int32) &&& 31).toUInt32).toInt32) &&& (3 : Int32))), .val (.ref b9), .unset, .unset] [(.int (own_eq q0 q1 q0 q1))]) s₁ (mkF m 0 #[.val (.long q0), .second, .val (.long q1), .second, .val (.long q2), .second, .val (.long q3), .second, .val (.int p4), .unset, .unset, .unset, .unset, .unset, .unset, .unset, .unset, .unset, .unset] []) := fun t q => k32 t (by
          refine XS.icmpNo X15.here hx rfl (hb hby at_117) rfl (teq hc33).2 ?_
          show Steps p.tables e below (T15.setTop (mkF m 120 #[.val (.long q0), .second, .val (.long q1), .second, .val (.long q2), .second, .val (.long q3), .second, .val (.int p4), .val (.long v3), .second, .val (.long v7), .second, .val (.ref b9), .val (.ref b13), .val (.int (((p4.toUInt32 >>> ((2 : Int32) &&& 31).toUInt32).toInt32) &&& (3 : Int32))), .unset, .unset, .unset] [])) _
          refine XS.aload X15.here hx rfl (hb hby at_120) rfl rfl ?_
          show Steps p.tables e below (T15.setTop (mkF m 122 #[.val (.long q0), .second, .val (.long q1), .second, .val (.long q2), .second, .val (.long q3), .second, .val (.int p4), .val (.long v3), .second, .val (.long v7), .second, .val (.ref b9), .val (.ref b13), .val (.int (((p4.toUInt32 >>> ((2 : Int32) &&& 31).toUInt32).toInt32) &&& (3 : Int32))), .unset, .unset, .unset] [(.ref b9)])) _
          refine XS.astore X15.here hx rfl (hb hby at_122) rfl rfl (l' := #[.val (.long q0), .second, .val (.long q1), .second, .val (.long q2), .second, .val (.long q3), .second, .val (.int p4), .val (.long v3), .second, .val (.long v7), .second, .val (.ref b9), .val (.ref b13), .val (.int (((p4.toUInt32 >>> ((2 : Int32) &&& 31).toUInt32).toInt32) &&& (3 : Int32))), .val (.ref b9), .unset, .unset]) rfl ?_
          show Steps p.tables e below (T15.setTop (mkF m 124 #[.val (.long q0), .second, .val (.long q1), .second, .val (.long q2), .second, .val (.long q3), .second, .val (.int p4), .val (.long v3), .second, .val (.long v7), .second, .val (.ref b9), .val (.ref b13), .val (.int (((p4.toUInt32 >>> ((2 : Int32) &&& 31).toUInt32).toInt32) &&& (3 : Int32))), .val (.ref b9), .unset, .unset] [])) _
          refine XS.aload X15.here hx rfl (hb hby at_124) rfl rfl ?_
          show Steps p.tables e below (T15.setTop (mkF m 126 #[.val (.long q0), .second, .val (.long q1), .second, .val (.long q2), .second, .val (.long q3), .second, .val (.int p4), .val (.long v3), .second, .val (.long v7), .second, .val (.ref b9), .val (.ref b13), .val (.int (((p4.toUInt32 >>> ((2 : Int32) &&& 31).toUInt32).toInt32) &&& (3 : Int32))), .val (.ref b9), .unset, .unset] [(.ref b9)])) _
          refine XS.aload X15.here hx rfl (hb hby at_126) rfl rfl ?_
          show Steps p.tables e below (T15.setTop (mkF m 128 #[.val (.long q0), .second, .val (.long q1), .second, .val (.long q2), .second, .val (.long q3), .second, .val (.int p4), .val (.long v3), .second, .val (.long v7), .second, .val (.ref b9), .val (.ref b13), .val (.int (((p4.toUInt32 >>> ((2 : Int32) &&& 31).toUInt32).toInt32) &&& (3 : Int32))), .val (.ref b9), .unset, .unset] [(.ref b9), (.ref b9)])) _
          refine st34.trans ?_
          show Steps p.tables e below (T34.setTop (mkF m 131 #[.val (.long q0), .second, .val (.long q1), .second, .val (.long q2), .second, .val (.long q3), .second, .val (.int p4), .val (.long v3), .second, .val (.long v7), .second, .val (.ref b9), .val (.ref b13), .val (.int (((p4.toUInt32 >>> ((2 : Int32) &&& 31).toUInt32).toInt32) &&& (3 : Int32))), .val (.ref b9), .unset, .unset] [(.int (own_eq q0 q1 q0 q1))])) _
          exact q)
        obtain ⟨fs, hr, hrun, hended, hW, hsame⟩ := X34.leave (v := some (.int (nar .boolean (own_eq q0 q1 q0 q1)))) (fun h => by rw [Bd.returns] at h; cases h)
        refine ⟨_, _, k0 _ (k39 _ ?_), hrun, hended, _, _, rfl, ?_, ⟨_, rfl⟩, hW, hsame.mono (by decide) (by decide)⟩
        · show Steps p.tables e below (T34.setTop (mkF m 131 #[.val (.long q0), .second, .val (.long q1), .second, .val (.long q2), .second, .val (.long q3), .second, .val (.int p4), .val (.long v3), .second, .val (.long v7), .second, .val (.ref b9), .val (.ref b13), .val (.int (((p4.toUInt32 >>> ((2 : Int32) &&& 31).toUInt32).toInt32) &&& (3 : Int32))), .val (.ref b9), .unset, .unset] [(.int (own_eq q0 q1 q0 q1))])) _
          exact retN X34 hx (t := .boolean) Bd.returns (by simp) (hb hby at_131) hr
        · show Q0 Z q0 q1 q2 q3 p4 aC clC h0 n0 _ T34.heap _
          rw [e34]
          exact ⟨by rw [hn], N34⟩
      ·
        have k40 : own_To p e below T15 (mkF m 136 #[.val (.long q0), .second, .val (.long q1), .second, .val (.long q2), .second, .val (.long q3), .second, .val (.int p4), .val (.long v3), .second, .val (.long v7), .second, .val (.ref b9), .val (.ref b13), .val (.int (((p4.toUInt32 >>> ((2 : Int32) &&& 31).toUInt32).toInt32) &&& (3 : Int32))), .unset, .unset, .unset] [(.int (lcmpW q0 v3))]) s₁ (mkF m 0 #[.val (.long q0), .second, .val (.long q1), .second, .val (.long q2), .second, .val (.long q3), .second, .val (.int p4), .unset, .unset, .unset, .unset, .unset, .unset, .unset, .unset, .unset, .unset] []) := fun t q => k32 t (by
          refine XS.icmpYes X15.here hx rfl (pc0 := 117) (pc' := 132) rfl (hb hby at_117) rfl (feq hc33).2 (by decide) (by decide) ?_
          show Steps p.tables e below (T15.setTop (mkF m 132 #[.val (.long q0), .second, .val (.long q1), .second, .val (.long q2), .second, .val (.long q3), .second, .val (.int p4), .val (.long v3), .second, .val (.long v7), .second, .val (.ref b9), .val (.ref b13), .val (.int (((p4.toUInt32 >>> ((2 : Int32) &&& 31).toUInt32).toInt32) &&& (3 : Int32))), .unset, .unset, .unset] [])) _
          refine XS.lloadN X15.here hx rfl (hb hby at_132) rfl ?_
          show Steps p.tables e below (T15.setTop (mkF m 133 #[.val (.long q0), .second, .val (.long q1), .second, .val (.long q2), .second, .val (.long q3), .second, .val (.int p4), .val (.long v3), .second, .val (.long v7), .second, .val (.ref b9), .val (.ref b13), .val (.int (((p4.toUInt32 >>> ((2 : Int32) &&& 31).toUInt32).toInt32) &&& (3 : Int32))), .unset, .unset, .unset] [(.long q0)])) _
          refine XS.lload X15.here hx rfl (hb hby at_133) rfl ?_
          show Steps p.tables e below (T15.setTop (mkF m 135 #[.val (.long q0), .second, .val (.long q1), .second, .val (.long q2), .second, .val (.long q3), .second, .val (.int p4), .val (.long v3), .second, .val (.long v7), .second, .val (.ref b9), .val (.ref b13), .val (.int (((p4.toUInt32 >>> ((2 : Int32) &&& 31).toUInt32).toInt32) &&& (3 : Int32))), .unset, .unset, .unset] [(.long v3), (.long q0)])) _
          refine XS.lcmp X15.here hx rfl (hb hby at_135) rfl ?_
          show Steps p.tables e below (T15.setTop (mkF m 136 #[.val (.long q0), .second, .val (.long q1), .second, .val (.long q2), .second, .val (.long q3), .second, .val (.int p4), .val (.long v3), .second, .val (.long v7), .second, .val (.ref b9), .val (.ref b13), .val (.int (((p4.toUInt32 >>> ((2 : Int32) &&& 31).toUInt32).toInt32) &&& (3 : Int32))), .unset, .unset, .unset] [(.int (lcmpW q0 v3))])) _
          exact q)
        obtain ⟨v43, hv43, k44⟩ : ∃ (v43 : Int32), (v43 = (if q0 = v3 then (if q1 = v7 then (1 : Int32) else (0 : Int32)) else (0 : Int32))) ∧ own_To p e below T15 (mkF m 151 #[.val (.long q0), .second, .val (.long q1), .second, .val (.long q2), .second, .val (.long q3), .second, .val (.int p4), .val (.long v3), .second, .val (.long v7), .second, .val (.ref b9), .val (.ref b13), .val (.int (((p4.toUInt32 >>> ((2 : Int32) &&& 31).toUInt32).toInt32) &&& (3 : Int32))), .unset, .unset, .unset] [(.int v43)]) s₁ (mkF m 0 #[.val (.long q0), .second, .val (.long q1), .second, .val (.long q2), .second, .val (.long q3), .second, .val (.int p4), .unset, .unset, .unset, .unset, .unset, .unset, .unset, .unset, .unset, .unset] []) := by
          by_cases hm41 : q0 = v3
          ·
            by_cases hm42 : q1 = v7
            ·
              refine ⟨(1 : Int32), by rw [if_pos hm41, if_pos hm42], fun t q => k40 t (?_)⟩
              refine XS.ifNo X15.here hx rfl (hb hby at_136) rfl ((if0 _ _).trans (teq ((lw_eq q0 v3).mpr hm41)).2) ?_
              show Steps p.tables e below (T15.setTop (mkF m 139 #[.val (.long q0), .second, .val (.long q1), .second, .val (.long q2), .second, .val (.long q3), .second, .val (.int p4), .val (.long v3), .second, .val (.long v7), .second, .val (.ref b9), .val (.ref b13), .val (.int (((p4.toUInt32 >>> ((2 : Int32) &&& 31).toUInt32).toInt32) &&& (3 : Int32))), .unset, .unset, .unset] [])) _
              refine XS.lloadN X15.here hx rfl (hb hby at_139) rfl ?_
              show Steps p.tables e below (T15.setTop (mkF m 140 #[.val (.long q0), .second, .val (.long q1), .second, .val (.long q2), .second, .val (.long q3), .second, .val (.int p4), .val (.long v3), .second, .val (.long v7), .second, .val (.ref b9), .val (.ref b13), .val (.int (((p4.toUInt32 >>> ((2 : Int32) &&& 31).toUInt32).toInt32) &&& (3 : Int32))), .unset, .unset, .unset] [(.long q1)])) _
              refine XS.lload X15.here hx rfl (hb hby at_140) rfl ?_
              show Steps p.tables e below (T15.setTop (mkF m 142 #[.val (.long q0), .second, .val (.long q1), .second, .val (.long q2), .second, .val (.long q3), .second, .val (.int p4), .val (.long v3), .second, .val (.long v7), .second, .val (.ref b9), .val (.ref b13), .val (.int (((p4.toUInt32 >>> ((2 : Int32) &&& 31).toUInt32).toInt32) &&& (3 : Int32))), .unset, .unset, .unset] [(.long v7), (.long q1)])) _
              refine XS.lcmp X15.here hx rfl (hb hby at_142) rfl ?_
              show Steps p.tables e below (T15.setTop (mkF m 143 #[.val (.long q0), .second, .val (.long q1), .second, .val (.long q2), .second, .val (.long q3), .second, .val (.int p4), .val (.long v3), .second, .val (.long v7), .second, .val (.ref b9), .val (.ref b13), .val (.int (((p4.toUInt32 >>> ((2 : Int32) &&& 31).toUInt32).toInt32) &&& (3 : Int32))), .unset, .unset, .unset] [(.int (lcmpW q1 v7))])) _
              refine XS.ifNo X15.here hx rfl (hb hby at_143) rfl ((if0 _ _).trans (teq ((lw_eq q1 v7).mpr hm42)).2) ?_
              show Steps p.tables e below (T15.setTop (mkF m 146 #[.val (.long q0), .second, .val (.long q1), .second, .val (.long q2), .second, .val (.long q3), .second, .val (.int p4), .val (.long v3), .second, .val (.long v7), .second, .val (.ref b9), .val (.ref b13), .val (.int (((p4.toUInt32 >>> ((2 : Int32) &&& 31).toUInt32).toInt32) &&& (3 : Int32))), .unset, .unset, .unset] [])) _
              refine XS.iconst X15.here hx rfl (hb hby at_146) ?_
              show Steps p.tables e below (T15.setTop (mkF m 147 #[.val (.long q0), .second, .val (.long q1), .second, .val (.long q2), .second, .val (.long q3), .second, .val (.int p4), .val (.long v3), .second, .val (.long v7), .second, .val (.ref b9), .val (.ref b13), .val (.int (((p4.toUInt32 >>> ((2 : Int32) &&& 31).toUInt32).toInt32) &&& (3 : Int32))), .unset, .unset, .unset] [(.int (1 : Int32))])) _
              refine XS.goto X15.here hx rfl (pc0 := 147) (pc' := 151) rfl (hb hby at_147) (by decide) (by decide) ?_
              show Steps p.tables e below (T15.setTop (mkF m 151 #[.val (.long q0), .second, .val (.long q1), .second, .val (.long q2), .second, .val (.long q3), .second, .val (.int p4), .val (.long v3), .second, .val (.long v7), .second, .val (.ref b9), .val (.ref b13), .val (.int (((p4.toUInt32 >>> ((2 : Int32) &&& 31).toUInt32).toInt32) &&& (3 : Int32))), .unset, .unset, .unset] [(.int (1 : Int32))])) _
              exact q
            ·
              refine ⟨(0 : Int32), by rw [if_pos hm41, if_neg hm42], fun t q => k40 t (?_)⟩
              refine XS.ifNo X15.here hx rfl (hb hby at_136) rfl ((if0 _ _).trans (teq ((lw_eq q0 v3).mpr hm41)).2) ?_
              show Steps p.tables e below (T15.setTop (mkF m 139 #[.val (.long q0), .second, .val (.long q1), .second, .val (.long q2), .second, .val (.long q3), .second, .val (.int p4), .val (.long v3), .second, .val (.long v7), .second, .val (.ref b9), .val (.ref b13), .val (.int (((p4.toUInt32 >>> ((2 : Int32) &&& 31).toUInt32).toInt32) &&& (3 : Int32))), .unset, .unset, .unset] [])) _
              refine XS.lloadN X15.here hx rfl (hb hby at_139) rfl ?_
              show Steps p.tables e below (T15.setTop (mkF m 140 #[.val (.long q0), .second, .val (.long q1), .second, .val (.long q2), .second, .val (.long q3), .second, .val (.int p4), .val (.long v3), .second, .val (.long v7), .second, .val (.ref b9), .val (.ref b13), .val (.int (((p4.toUInt32 >>> ((2 : Int32) &&& 31).toUInt32).toInt32) &&& (3 : Int32))), .unset, .unset, .unset] [(.long q1)])) _
              refine XS.lload X15.here hx rfl (hb hby at_140) rfl ?_
              show Steps p.tables e below (T15.setTop (mkF m 142 #[.val (.long q0), .second, .val (.long q1), .second, .val (.long q2), .second, .val (.long q3), .second, .val (.int p4), .val (.long v3), .second, .val (.long v7), .second, .val (.ref b9), .val (.ref b13), .val (.int (((p4.toUInt32 >>> ((2 : Int32) &&& 31).toUInt32).toInt32) &&& (3 : Int32))), .unset, .unset, .unset] [(.long v7), (.long q1)])) _
              refine XS.lcmp X15.here hx rfl (hb hby at_142) rfl ?_
              show Steps p.tables e below (T15.setTop (mkF m 143 #[.val (.long q0), .second, .val (.long q1), .second, .val (.long q2), .second, .val (.long q3), .second, .val (.int p4), .val (.long v3), .second, .val (.long v7), .second, .val (.ref b9), .val (.ref b13), .val (.int (((p4.toUInt32 >>> ((2 : Int32) &&& 31).toUInt32).toInt32) &&& (3 : Int32))), .unset, .unset, .unset] [(.int (lcmpW q1 v7))])) _
              refine XS.ifYes X15.here hx rfl (pc0 := 143) (pc' := 150) rfl (hb hby at_143) rfl ((if0 _ _).trans (feq (mt (lw_eq q1 v7).mp hm42)).2) (by decide) (by decide) ?_
              show Steps p.tables e below (T15.setTop (mkF m 150 #[.val (.long q0), .second, .val (.long q1), .second, .val (.long q2), .second, .val (.long q3), .second, .val (.int p4), .val (.long v3), .second, .val (.long v7), .second, .val (.ref b9), .val (.ref b13), .val (.int (((p4.toUInt32 >>> ((2 : Int32) &&& 31).toUInt32).toInt32) &&& (3 : Int32))), .unset, .unset, .unset] [])) _
              refine XS.iconst X15.here hx rfl (hb hby at_150) ?_
              show Steps p.tables e below (T15.setTop (mkF m 151 #[.val (.long q0), .second, .val (.long q1), .second, .val (.long q2), .second, .val (.long q3), .second, .val (.int p4), .val (.long v3), .second, .val (.long v7), .second, .val (.ref b9), .val (.ref b13), .val (.int (((p4.toUInt32 >>> ((2 : Int32) &&& 31).toUInt32).toInt32) &&& (3 : Int32))), .unset, .unset, .unset] [(.int (0 : Int32))])) _
              exact q
          ·
            refine ⟨(0 : Int32), by rw [if_neg hm41], fun t q => k40 t (?_)⟩
            refine XS.ifYes X15.here hx rfl (pc0 := 136) (pc' := 150) rfl (hb hby at_136) rfl ((if0 _ _).trans (feq (mt (lw_eq q0 v3).mp hm41)).2) (by decide) (by decide) ?_
            show Steps p.tables e below (T15.setTop (mkF m 150 #[.val (.long q0), .second, .val (.long q1), .second, .val (.long q2), .second, .val (.long q3), .second, .val (.int p4), .val (.long v3), .second, .val (.long v7), .second, .val (.ref b9), .val (.ref b13), .val (.int (((p4.toUInt32 >>> ((2 : Int32) &&& 31).toUInt32).toInt32) &&& (3 : Int32))), .unset, .unset, .unset] [])) _
            refine XS.iconst X15.here hx rfl (hb hby at_150) ?_
            show Steps p.tables e below (T15.setTop (mkF m 151 #[.val (.long q0), .second, .val (.long q1), .second, .val (.long q2), .second, .val (.long q3), .second, .val (.int p4), .val (.long v3), .second, .val (.long v7), .second, .val (.ref b9), .val (.ref b13), .val (.int (((p4.toUInt32 >>> ((2 : Int32) &&& 31).toUInt32).toInt32) &&& (3 : Int32))), .unset, .unset, .unset] [(.int (0 : Int32))])) _
            exact q
        have F46 := ((F11_0.ext E13).keep K15 (ninS ne_b9_b13 nin0))
        have F47 := ((F11_1.ext E13).keep K15 (ninS ne_b9_b13 nin0))
        have K48 : Keep h0 T15.heap [] := (K16.trans K15 (allS (P := fun x => x ∈ ([] : List Addr) ∨ h0.size ≤ x) (Or.inr sz_b13) all0))
        have F49 := ((E11.ext E13).keep K15)
        obtain ⟨cq45, kq45, q45a, q45b, q45c⟩ := isOf hZ rfl F49
        obtain ⟨_, _, ⟨T45, L45, kk45, n45⟩, -, X45, ⟨Lc45, hQ45, l45, y45, z45⟩, st45⟩ := X15.virtualBack hx (y := (⟨"com/example/feeddb/feeddb/core/Position", "equals", "(Ljava/lang/Object;)Z"⟩ : MethodName)) (z := (⟨"com/example/feeddb/feeddb/core/Position", "equals", "(Ljava/lang/Object;)Z"⟩ : MethodName)) hown (mvT hZ (hw _ (List.mem_of_getElem? (i := 13) rfl))) (mvT hZ (hw _ (List.mem_of_getElem? (i := 14) rfl))) (notFace_of_selects (args := #[]) (mvT hZ (hw _ (List.mem_of_getElem? (i := 16) rfl)))) (mvT hZ (hw _ (List.mem_of_getElem? (i := 16) rfl))) (mvT hZ (hw _ (List.mem_of_getElem? (i := 15) rfl))) (by decide) (backOf (W := 0) (rm3p l Z a0 hw [] b9 b13 q0 q1 v3 v7 T15.heap n0 (Nat.le_trans Z0 K48.1) F46 F47 F15_0 F15_1 E15) hZ (hw _ (List.mem_of_getElem? (i := 17) rfl)) (hw _ (List.mem_of_getElem? (i := 2) rfl)) (by decide) (by decide)) q45a q45c (g := (mkF m 165 #[.val (.long q0), .second, .val (.long q1), .second, .val (.long q2), .second, .val (.long q3), .second, .val (.int p4), .val (.long v3), .second, .val (.long v7), .second, .val (.ref b9), .val (.ref b13), .val (.int (((p4.toUInt32 >>> ((2 : Int32) &&& 31).toUInt32).toInt32) &&& (3 : Int32))), .val (.int v43), .val (.ref b13), .val (.ref b9)] [(.ref b13), (.ref b9)])) rfl (by rw [hml]; rfl) (Steps.refl _) (argsL := [(.ref b13)]) (rest := []) (lenOf own_pd4 rfl) rfl (by show 2 * 0 + _ ≤ _; exact Nat.le_of_eq rfl) (hb hby at_165) (fun _ _ => ⟨rfl, rfl, (by decide : 2 + 0 ≤ _), (by decide : 4 + 0 ≤ _)⟩)
        dsimp only [Pt.U, Pt.locs, Pt.cells, Pt.slots] at X45 l45 y45 z45 st45 hQ45
        subst l45 y45 z45
        obtain ⟨rfl, N45q, e45⟩ := hQ45
        have N45 := Fr.app N15 N45q
        obtain ⟨cq50, kq50, q50a, q50b, q50c⟩ := isOf hZ e45 E15
        obtain ⟨_, _, ⟨T50, L50, kk50, n50⟩, -, X50, ⟨Lc50, hQ50, l50, y50, z50⟩, st50⟩ := X45.virtualBack hx (y := (⟨"com/example/feeddb/feeddb/core/Position", "equals", "(Ljava/lang/Object;)Z"⟩ : MethodName)) (z := (⟨"com/example/feeddb/feeddb/core/Position", "equals", "(Ljava/lang/Object;)Z"⟩ : MethodName)) hown (mvT hZ (hw _ (List.mem_of_getElem? (i := 13) rfl))) (mvT hZ (hw _ (List.mem_of_getElem? (i := 14) rfl))) (notFace_of_selects (args := #[]) (mvT hZ (hw _ (List.mem_of_getElem? (i := 16) rfl)))) (mvT hZ (hw _ (List.mem_of_getElem? (i := 16) rfl))) (mvT hZ (hw _ (List.mem_of_getElem? (i := 15) rfl))) (by decide) (backOf (W := 0) (rm3p l Z a0 hw [] b13 b9 v3 v7 q0 q1 T15.heap n0 (Nat.le_trans Z0 K48.1) F15_0 F15_1 F46 F47 F49) hZ (hw _ (List.mem_of_getElem? (i := 17) rfl)) (hw _ (List.mem_of_getElem? (i := 2) rfl)) (by decide) (by decide)) q50a q50c (g := (mkF m 177 #[.val (.long q0), .second, .val (.long q1), .second, .val (.long q2), .second, .val (.long q3), .second, .val (.int p4), .val (.long v3), .second, .val (.long v7), .second, .val (.ref b9), .val (.ref b13), .val (.int (((p4.toUInt32 >>> ((2 : Int32) &&& 31).toUInt32).toInt32) &&& (3 : Int32))), .val (.int v43), .val (.ref b13), .val (.ref b9)] [(.ref b9), (.ref b13)])) rfl (by rw [hml]; rfl) (Steps.refl _) (argsL := [(.ref b9)]) (rest := []) (lenOf own_pd4 rfl) rfl (by show 2 * 0 + _ ≤ _; exact Nat.le_of_eq rfl) (hb hby at_177) (fun _ _ => ⟨rfl, e45, (by decide : 2 + 0 ≤ _), (by decide : 4 + 0 ≤ _)⟩)
        dsimp only [Pt.U, Pt.locs, Pt.cells, Pt.slots] at X50 l50 y50 z50 st50 hQ50
        subst l50 y50 z50
        obtain ⟨rfl, N50q, e50⟩ := hQ50
        have N50 := Fr.app N45 N50q
        have k51 : own_To p e below T50 (mkF m 190 #[.val (.long q0), .second, .val (.long q1), .second, .val (.long q2), .second, .val (.long q3), .second, .val (.int p4), .val (.long v3), .second, .val (.long v7), .second, .val (.ref b9), .val (.ref b13), .val (.int (((p4.toUInt32 >>> ((2 : Int32) &&& 31).toUInt32).toInt32) &&& (3 : Int32))), .val (.int v43), .val (.ref b13), .val (.ref b9)] [(.int (1 : Int32))]) s₁ (mkF m 0 #[.val (.long q0), .second, .val (.long q1), .second, .val (.long q2), .second, .val (.long q3), .second, .val (.int p4), .unset, .unset, .unset, .unset, .unset, .unset, .unset, .unset, .unset, .unset] []) := fun t q => k44 t (by
          refine XS.istore X15.here hx rfl (hb hby at_151) rfl (l' := #[.val (.long q0), .second, .val (.long q1), .second, .val (.long q2), .second, .val (.long q3), .second, .val (.int p4), .val (.long v3), .second, .val (.long v7), .second, .val (.ref b9), .val (.ref b13), .val (.int (((p4.toUInt32 >>> ((2 : Int32) &&& 31).toUInt32).toInt32) &&& (3 : Int32))), .val (.int v43), .unset, .unset]) rfl ?_
          show Steps p.tables e below (T15.setTop (mkF m 153 #[.val (.long q0), .second, .val (.long q1), .second, .val (.long q2), .second, .val (.long q3), .second, .val (.int p4), .val (.long v3), .second, .val (.long v7), .second, .val (.ref b9), .val (.ref b13), .val (.int (((p4.toUInt32 >>> ((2 : Int32) &&& 31).toUInt32).toInt32) &&& (3 : Int32))), .val (.int v43), .unset, .unset] [])) _
          refine XS.aload X15.here hx rfl (hb hby at_153) rfl rfl ?_
          show Steps p.tables e below (T15.setTop (mkF m 155 #[.val (.long q0), .second, .val (.long q1), .second, .val (.long q2), .second, .val (.long q3), .second, .val (.int p4), .val (.long v3), .second, .val (.long v7), .second, .val (.ref b9), .val (.ref b13), .val (.int (((p4.toUInt32 >>> ((2 : Int32) &&& 31).toUInt32).toInt32) &&& (3 : Int32))), .val (.int v43), .unset, .unset] [(.ref b13)])) _
          refine XS.astore X15.here hx rfl (hb hby at_155) rfl rfl (l' := #[.val (.long q0), .second, .val (.long q1), .second, .val (.long q2), .second, .val (.long q3), .second, .val (.int p4), .val (.long v3), .second, .val (.long v7), .second, .val (.ref b9), .val (.ref b13), .val (.int (((p4.toUInt32 >>> ((2 : Int32) &&& 31).toUInt32).toInt32) &&& (3 : Int32))), .val (.int v43), .val (.ref b13), .unset]) rfl ?_
          show Steps p.tables e below (T15.setTop (mkF m 157 #[.val (.long q0), .second, .val (.long q1), .second, .val (.long q2), .second, .val (.long q3), .second, .val (.int p4), .val (.long v3), .second, .val (.long v7), .second, .val (.ref b9), .val (.ref b13), .val (.int (((p4.toUInt32 >>> ((2 : Int32) &&& 31).toUInt32).toInt32) &&& (3 : Int32))), .val (.int v43), .val (.ref b13), .unset] [])) _
          refine XS.aload X15.here hx rfl (hb hby at_157) rfl rfl ?_
          show Steps p.tables e below (T15.setTop (mkF m 159 #[.val (.long q0), .second, .val (.long q1), .second, .val (.long q2), .second, .val (.long q3), .second, .val (.int p4), .val (.long v3), .second, .val (.long v7), .second, .val (.ref b9), .val (.ref b13), .val (.int (((p4.toUInt32 >>> ((2 : Int32) &&& 31).toUInt32).toInt32) &&& (3 : Int32))), .val (.int v43), .val (.ref b13), .unset] [(.ref b9)])) _
          refine XS.astore X15.here hx rfl (hb hby at_159) rfl rfl (l' := #[.val (.long q0), .second, .val (.long q1), .second, .val (.long q2), .second, .val (.long q3), .second, .val (.int p4), .val (.long v3), .second, .val (.long v7), .second, .val (.ref b9), .val (.ref b13), .val (.int (((p4.toUInt32 >>> ((2 : Int32) &&& 31).toUInt32).toInt32) &&& (3 : Int32))), .val (.int v43), .val (.ref b13), .val (.ref b9)]) rfl ?_
          show Steps p.tables e below (T15.setTop (mkF m 161 #[.val (.long q0), .second, .val (.long q1), .second, .val (.long q2), .second, .val (.long q3), .second, .val (.int p4), .val (.long v3), .second, .val (.long v7), .second, .val (.ref b9), .val (.ref b13), .val (.int (((p4.toUInt32 >>> ((2 : Int32) &&& 31).toUInt32).toInt32) &&& (3 : Int32))), .val (.int v43), .val (.ref b13), .val (.ref b9)] [])) _
          refine XS.aload X15.here hx rfl (hb hby at_161) rfl rfl ?_
          show Steps p.tables e below (T15.setTop (mkF m 163 #[.val (.long q0), .second, .val (.long q1), .second, .val (.long q2), .second, .val (.long q3), .second, .val (.int p4), .val (.long v3), .second, .val (.long v7), .second, .val (.ref b9), .val (.ref b13), .val (.int (((p4.toUInt32 >>> ((2 : Int32) &&& 31).toUInt32).toInt32) &&& (3 : Int32))), .val (.int v43), .val (.ref b13), .val (.ref b9)] [(.ref b9)])) _
          refine XS.aload X15.here hx rfl (hb hby at_163) rfl rfl ?_
          show Steps p.tables e below (T15.setTop (mkF m 165 #[.val (.long q0), .second, .val (.long q1), .second, .val (.long q2), .second, .val (.long q3), .second, .val (.int p4), .val (.long v3), .second, .val (.long v7), .second, .val (.ref b9), .val (.ref b13), .val (.int (((p4.toUInt32 >>> ((2 : Int32) &&& 31).toUInt32).toInt32) &&& (3 : Int32))), .val (.int v43), .val (.ref b13), .val (.ref b9)] [(.ref b13), (.ref b9)])) _
          refine st45.trans ?_
          show Steps p.tables e below (T45.setTop (mkF m 168 #[.val (.long q0), .second, .val (.long q1), .second, .val (.long q2), .second, .val (.long q3), .second, .val (.int p4), .val (.long v3), .second, .val (.long v7), .second, .val (.ref b9), .val (.ref b13), .val (.int (((p4.toUInt32 >>> ((2 : Int32) &&& 31).toUInt32).toInt32) &&& (3 : Int32))), .val (.int v43), .val (.ref b13), .val (.ref b9)] [(.int (own_eq q0 q1 v3 v7))])) _
          refine XS.iload X45.here hx rfl (hb hby at_168) rfl ?_
          show Steps p.tables e below (T45.setTop (mkF m 170 #[.val (.long q0), .second, .val (.long q1), .second, .val (.long q2), .second, .val (.long q3), .second, .val (.int p4), .val (.long v3), .second, .val (.long v7), .second, .val (.ref b9), .val (.ref b13), .val (.int (((p4.toUInt32 >>> ((2 : Int32) &&& 31).toUInt32).toInt32) &&& (3 : Int32))), .val (.int v43), .val (.ref b13), .val (.ref b9)] [(.int v43), (.int (own_eq q0 q1 v3 v7))])) _
          refine XS.icmpNo X45.here hx rfl (hb hby at_170) rfl (teq hv43.symm).2 ?_
          show Steps p.tables e below (T45.setTop (mkF m 173 #[.val (.long q0), .second, .val (.long q1), .second, .val (.long q2), .second, .val (.long q3), .second, .val (.int p4), .val (.long v3), .second, .val (.long v7), .second, .val (.ref b9), .val (.ref b13), .val (.int (((p4.toUInt32 >>> ((2 : Int32) &&& 31).toUInt32).toInt32) &&& (3 : Int32))), .val (.int v43), .val (.ref b13), .val (.ref b9)] [])) _
          refine XS.aload X45.here hx rfl (hb hby at_173) rfl rfl ?_
          show Steps p.tables e below (T45.setTop (mkF m 175 #[.val (.long q0), .second, .val (.long q1), .second, .val (.long q2), .second, .val (.long q3), .second, .val (.int p4), .val (.long v3), .second, .val (.long v7), .second, .val (.ref b9), .val (.ref b13), .val (.int (((p4.toUInt32 >>> ((2 : Int32) &&& 31).toUInt32).toInt32) &&& (3 : Int32))), .val (.int v43), .val (.ref b13), .val (.ref b9)] [(.ref b13)])) _
          refine XS.aload X45.here hx rfl (hb hby at_175) rfl rfl ?_
          show Steps p.tables e below (T45.setTop (mkF m 177 #[.val (.long q0), .second, .val (.long q1), .second, .val (.long q2), .second, .val (.long q3), .second, .val (.int p4), .val (.long v3), .second, .val (.long v7), .second, .val (.ref b9), .val (.ref b13), .val (.int (((p4.toUInt32 >>> ((2 : Int32) &&& 31).toUInt32).toInt32) &&& (3 : Int32))), .val (.int v43), .val (.ref b13), .val (.ref b9)] [(.ref b9), (.ref b13)])) _
          refine st50.trans ?_
          show Steps p.tables e below (T50.setTop (mkF m 180 #[.val (.long q0), .second, .val (.long q1), .second, .val (.long q2), .second, .val (.long q3), .second, .val (.int p4), .val (.long v3), .second, .val (.long v7), .second, .val (.ref b9), .val (.ref b13), .val (.int (((p4.toUInt32 >>> ((2 : Int32) &&& 31).toUInt32).toInt32) &&& (3 : Int32))), .val (.int v43), .val (.ref b13), .val (.ref b9)] [(.int (own_eq v3 v7 q0 q1))])) _
          refine XS.iload X50.here hx rfl (hb hby at_180) rfl ?_
          show Steps p.tables e below (T50.setTop (mkF m 182 #[.val (.long q0), .second, .val (.long q1), .second, .val (.long q2), .second, .val (.long q3), .second, .val (.int p4), .val (.long v3), .second, .val (.long v7), .second, .val (.ref b9), .val (.ref b13), .val (.int (((p4.toUInt32 >>> ((2 : Int32) &&& 31).toUInt32).toInt32) &&& (3 : Int32))), .val (.int v43), .val (.ref b13), .val (.ref b9)] [(.int v43), (.int (own_eq v3 v7 q0 q1))])) _
          refine XS.icmpNo X50.here hx rfl (hb hby at_182) rfl (teq ((own_eqc _ _ _ _).trans hv43.symm)).2 ?_
          show Steps p.tables e below (T50.setTop (mkF m 185 #[.val (.long q0), .second, .val (.long q1), .second, .val (.long q2), .second, .val (.long q3), .second, .val (.int p4), .val (.long v3), .second, .val (.long v7), .second, .val (.ref b9), .val (.ref b13), .val (.int (((p4.toUInt32 >>> ((2 : Int32) &&& 31).toUInt32).toInt32) &&& (3 : Int32))), .val (.int v43), .val (.ref b13), .val (.ref b9)] [])) _
          refine XS.iconst X50.here hx rfl (hb hby at_185) ?_
          show Steps p.tables e below (T50.setTop (mkF m 186 #[.val (.long q0), .second, .val (.long q1), .second, .val (.long q2), .second, .val (.long q3), .second, .val (.int p4), .val (.long v3), .second, .val (.long v7), .second, .val (.ref b9), .val (.ref b13), .val (.int (((p4.toUInt32 >>> ((2 : Int32) &&& 31).toUInt32).toInt32) &&& (3 : Int32))), .val (.int v43), .val (.ref b13), .val (.ref b9)] [(.int (1 : Int32))])) _
          refine XS.goto X50.here hx rfl (pc0 := 186) (pc' := 190) rfl (hb hby at_186) (by decide) (by decide) ?_
          show Steps p.tables e below (T50.setTop (mkF m 190 #[.val (.long q0), .second, .val (.long q1), .second, .val (.long q2), .second, .val (.long q3), .second, .val (.int p4), .val (.long v3), .second, .val (.long v7), .second, .val (.ref b9), .val (.ref b13), .val (.int (((p4.toUInt32 >>> ((2 : Int32) &&& 31).toUInt32).toInt32) &&& (3 : Int32))), .val (.int v43), .val (.ref b13), .val (.ref b9)] [(.int (1 : Int32))])) _
          exact q)
        obtain ⟨fs, hr, hrun, hended, hW, hsame⟩ := X50.leave (v := some (.int (1 : Int32))) (fun h => by rw [Bd.returns] at h; cases h)
        refine ⟨_, _, k0 _ (k51 _ ?_), hrun, hended, _, _, rfl, ?_, ⟨_, rfl⟩, hW, hsame.mono (by decide) (by decide)⟩
        · show Steps p.tables e below (T50.setTop (mkF m 190 #[.val (.long q0), .second, .val (.long q1), .second, .val (.long q2), .second, .val (.long q3), .second, .val (.int p4), .val (.long v3), .second, .val (.long v7), .second, .val (.ref b9), .val (.ref b13), .val (.int (((p4.toUInt32 >>> ((2 : Int32) &&& 31).toUInt32).toInt32) &&& (3 : Int32))), .val (.int v43), .val (.ref b13), .val (.ref b9)] [(.int (1 : Int32))])) _
          exact retN X50 hx (t := .boolean) Bd.returns (by simp) (hb hby at_190) hr
        · show Q0 Z q0 q1 q2 q3 p4 aC clC h0 n0 _ T50.heap _
          rw [e50]
          exact ⟨rfl, N50⟩
theorem own_sets (s : State) (args : Array Value) (hsets : ∀ d ∈ jdkStatics_1, d.before args s = true) : ∃ aC clC, own_cache s aC clC := by
  have w2 := Cond.before_iff.mp (hsets _ (List.mem_of_getElem? (i := 2) rfl))
  obtain ⟨aC, ev⟩ := arr_v w2
  obtain ⟨cl, Ar⟩ := Arr.start ev w2
  have hat := Ar.fin (Vm.Alike.refl _)
  have S := Sta.start ev (Or.inl (hsets _ (List.mem_of_getElem? (i := 1) rfl)))
  obtain ⟨hsz, hsize⟩ := IntBox.length_fwd (hsets _ (List.mem_of_getElem? (i := 4) rfl)) ev Ar.1 Ar.2.1 Ar.2.2
  have h256 : cl.slots.size = 256 := by
    have e := len_toInt hsz
    rw [hsize] at e
    have : ((256 : Int32)).toInt = 256 := by decide
    omega
  have hall := Cond.all_elim ev hat (Cond.before_iff.mp (hsets _ (List.mem_of_getElem? (i := 5) rfl)))
  refine ⟨aC, cl, S, Ar, h256, fun j hj => ?_⟩
  obtain ⟨g1, -⟩ := and_e (hall j (by rw [h256]; exact hj))
  obtain ⟨x, ex⟩ := exa_v g1
  have Ex := exa_at ex g1
  refine ⟨x, ?_, Ex⟩
  obtain ⟨hnn, hback⟩ := IntBox.place_nonneg j hj
  have evj : (Term.static "java/lang/Long$LongCache" "cache" "[Ljava/lang/Long;").eval args s none [j] s = some (.ref aC) := by
    have q := ev
    simp only [Term.eval] at q ⊢
    exact q
  have e2 : (Term.elem (Term.static "java/lang/Long$LongCache" "cache" "[Ljava/lang/Long;") (Term.index 0)).eval args s none [j] s = cl.slots[j]? := by
    rw [elem_f evj (j := j.toInt32) (Term.index_eval _) hat hnn, hback]
  rw [← e2]; exact ex
set_option maxRecDepth 65536 in
set_option maxHeartbeats 40000000 in
theorem comes_1 {Post : Tables → Env → Array Value → State → Outcome → State → Prop} (hpost : ∀ tb e args s v u, (limb_1_1.after args s (.returned v) u = true ∧ limb_1_2.after args s (.returned v) u = true ∧ True) → FrameEnd s (.returned v) u (Jvm.fieldLocs frame_1_writes args s ++ Jvm.arrayLocs frame_1_arrays args s ++ Jvm.staticLocs frame_1_statics s) 16 128 → Post tb e args s (.returned v) u) :
    ArmFor flags0 classFile x code maxLocals ret World_1 tables_1 room_1 Calls_1 rest_1 Pre_1 Post := by
  intro l hfl _ _ p e ha hc hk s m args below hf hA hF happ hP
  obtain ⟨hcalls, hrest, hpre⟩ := hP
  obtain ⟨-, -, -, hnamed, -, -, -, hat⟩ := (Spec.applies_iff hf).mp happ
  obtain ⟨hg, hn⟩ := and_e (Cond.before_iff.mp (show (Jvm.Cond.and given_1 narrow_1).before args s = true from hpre))
  obtain ⟨hgc, hg0⟩ := and_e hg
  obtain ⟨ga0, hg1⟩ := and_e hg0
  obtain ⟨ga1, hg2⟩ := and_e hg1
  obtain ⟨ga2, hg3⟩ := and_e hg2
  obtain ⟨ga3, hg4⟩ := and_e hg3
  obtain ⟨w0, w1, w2, w3, w4, rfl⟩ : ∃ w0 w1 w2 w3 w4 : Value, args = #[w0, w1, w2, w3, w4] := by
    have hs : args.size = 5 := by simpa [Cond.value, given_1] using hgc
    obtain ⟨L⟩ := args
    match L, hs with
    | [w0, w1, w2, w3, w4], _ => exact ⟨w0, w1, w2, w3, w4, rfl⟩
  have hw := fun d (hd : d ∈ tables_1) => atoms_spec (ws := Jvm.Cond.code x code maxLocals ret :: tables_1) hat d (List.mem_cons_of_mem _ hd)
  have hfit : Fit s := fun {y c} hc i hi => by
    obtain ⟨ha, rfl⟩ := Array.getElem?_eq_some_iff.mp hc
    have q := List.all_eq_true.mp ((Array.all_eq_true_iff_forall_mem.mp hF) _ (Array.getElem_mem ha)) i (List.mem_range.mpr hi)
    simpa [Array.getElem?_eq_getElem hi] using q
  obtain ⟨hsets, hown0⟩ := atoms_of _ (rest_1_c_eq ▸ (show rest_1_c.before _ s = true from hrest))
  have hr0 := Cond.before_iff.mp hown0
  obtain ⟨i0, ei0⟩ := isL_v ga0
  obtain rfl : w0 = (.long i0) := Option.some.inj ei0
  obtain ⟨i1, ei1⟩ := isL_v ga1
  obtain rfl : w1 = (.long i1) := Option.some.inj ei1
  obtain ⟨i2, ei2⟩ := isL_v ga2
  obtain rfl : w2 = (.long i2) := Option.some.inj ei2
  obtain ⟨i3, ei3⟩ := isL_v ga3
  obtain rfl : w3 = (.long i3) := Option.some.inj ei3
  obtain ⟨i4, ei4⟩ := is_v hg4
  obtain rfl : w4 = (.int i4) := Option.some.inj ei4
  obtain ⟨aC, clC, HC⟩ := own_sets s _ hsets
  obtain ⟨n, o, h1, h2, h3, _, L, rfl, ⟨rfl, N⟩, hq⟩ := rm0 l s _ hw tables_1 i0 i1 i2 i3 i4 aC clC s.heap s.heap.size (Nat.le_refl _) HC (Old.start s) p e ha hc hk s m _ below hf ((Spec.applies_iff_loose hf).mp happ).1 ⟨rfl, State.Warmed39.refl s, rfl⟩ trivial
  refine ⟨n, _, h1, h2, h3, hpost _ _ _ _ _ _ ⟨Cond.after_iff.mpr rfl, Cond.after_iff.mpr (eq_i res_at (Term.int_eval (1)) rfl), trivial⟩ ⟨hq.1, hq.2.1, (hq.2.2.sift fun y hy => Or.inr (N y hy)).mono (by decide) (by decide)⟩⟩
theorem main_1_1 : Claimed_1_1 := comes_1 fun _ _ _ _ _ _ h hF => ⟨h.1, hF⟩
theorem main_1_2 : Claimed_1_2 := comes_1 fun _ _ _ _ _ _ h hF => ⟨h.2.1, hF⟩
end Jvm.Pilot.@@N@@
namespace Jvm.Pilot.@@N@@
open Jvm Jvm.ClassFile Sem Op Lib Jvm.Free Jvm.Stand Jvm.Pilot.@@N@@.Jvm.D
/-! MADE BY PROGRAM (witnessworld.py) out of the Statement's table words and the real class files: 16 classes; the members and pool entries that the words name. The judged class is class 1, her method 1. -/
namespace start1
open Jvm.ClassFile
def u (s : String) : CpInfo := .utf8 (stringToUtf16 s)
/-- a pool by its gaps: so many unusable entries, then the entry; so many at the end -/
def gap : Nat → List CpInfo → List CpInfo
  | 0, r => r
  | n + 1, r => .unusable :: gap n r
def poolList (es : List (Nat × CpInfo)) (last : Nat) : List CpInfo := es.foldr (fun e r => gap e.1 (e.2 :: r)) (gap last [])
def pool (es : List (Nat × CpInfo)) (last : Nat) : Array CpInfo := ⟨poolList es last⟩
def fileOf (pool : Array CpInfo) (this : Nat) (attrs : Array Attribute := #[]) (ms : Array MethodInfo := #[]) (fl : Nat := 33) (sup : Nat := 0) (ifs : Array Nat := #[]) (fds : Array FieldInfo := #[]) : ClassFile where
  minorVersion := 0
  majorVersion := 65
  constantPool := pool
  accessFlags := fl
  thisClass := this
  superClass := sup
  interfaces := ifs
  fields := fds
  methods := ms
  attributes := attrs
def plain (name : String) (sup : Option ClassId) : Class where
  name := name
  kind := .ordinary
  loader := none
  accessFlags := 33
  super := sup
  interfaces := #[]
  cf := none
  fields := #[]
  methods := #[]
  instanceTypes := #[]
  staticTypes := #[]
  resolved := #[]
  callSites := []
  init := .initialized
  statics := none
  mirror := none

def pool0 : Array CpInfo := pool [(5, u "<init>"), (0, u "()V"), (1, .class_ 10), (1, u "java/lang/Object")] 113

def k0c0 : Code := { maxStack := 0, maxLocals := 1, code := object_method_1_code, exceptionTable := #[], attributes := #[] }
def k0m0 : Method := { name := "<init>", desc := "()V", sig := { parameters := [], returnType := none }, accessFlags := 1, code := some k0c0 }
/-- java/lang/Object -/
def k0 : Class := { plain "java/lang/Object" none with
  accessFlags := 33
  interfaces := #[]
  cf := some (fileOf pool0 8 #[] #[{ accessFlags := 1, nameIndex := 5, descriptorIndex := 6, attributes := #[] }] 33 0 #[] #[])
  fields := #[]
  methods := #[k0m0]
  instanceTypes := #[]
  staticTypes := #[]
  resolved := Array.replicate 124 none
  statics := none }

def pool1 : Array CpInfo := pool [(2, .class_ 4), (1, u "java/lang/Object"), (0, u "<init>"), (0, u "()V"), (0, .class_ 8), (0, u "com/example/feeddb/feeddb/core/Position"), (0, .methodref 7 10), (0, .nameAndType 5 11), (0, u "(JJ)V"), (0, .methodref 7 13), (0, .nameAndType 14 15), (0, u "equals"), (0, u "(Ljava/lang/Object;)Z"), (0, .methodref 17 18), (0, .class_ 19), (0, .nameAndType 20 21), (0, u "java/lang/Long"), (0, u "valueOf"), (0, u "(J)Ljava/lang/Long;"), (0, .class_ 23), (0, u "com/example/feeddb/feeddb/core/PositionEqualsPinLaw"), (2, u "law"), (0, u "(JJJJI)Z")] 3

def k1m0 : Method := { name := "<init>", desc := "()V", sig := { parameters := [], returnType := none }, accessFlags := 1, code := none }
def k1c1 : Code := { maxStack := 6, maxLocals := 19, code := code, exceptionTable := #[], attributes := #[] }
def k1m1 : Method := { name := "law", desc := "(JJJJI)Z", sig := { parameters := [.long, .long, .long, .long, .int], returnType := some .boolean }, accessFlags := 9, code := some k1c1 }
/-- com/example/feeddb/feeddb/core/PositionEqualsPinLaw -/
def k1 : Class := { plain "com/example/feeddb/feeddb/core/PositionEqualsPinLaw" (some 0) with
  accessFlags := 49
  interfaces := #[]
  cf := some (fileOf pool1 22 #[] #[{ accessFlags := 1, nameIndex := 5, descriptorIndex := 6, attributes := #[] }, { accessFlags := 9, nameIndex := 26, descriptorIndex := 27, attributes := #[] }] 49 2 #[] #[])
  fields := #[]
  methods := #[k1m0, k1m1]
  instanceTypes := #[]
  staticTypes := #[]
  resolved := Array.replicate 31 none
  statics := none }

def pool2 : Array CpInfo := pool [(1, .methodref 2 3), (0, .class_ 4), (0, .nameAndType 5 6), (0, u "java/lang/Object"), (0, u "<init>"), (0, u "()V"), (0, .fieldref 8 9), (0, .class_ 10), (0, .nameAndType 11 12), (0, u "com/example/feeddb/feeddb/core/Position"), (0, u "time"), (0, u "J"), (0, .fieldref 8 14), (0, .nameAndType 15 12), (0, u "id"), (16, u "(JJ)V"), (5, u "equals"), (0, u "(Ljava/lang/Object;)Z")] 22

def k2c0 : Code := { maxStack := 3, maxLocals := 5, code := prog_7_method_1_code, exceptionTable := #[], attributes := #[] }
def k2m0 : Method := { name := "<init>", desc := "(JJ)V", sig := { parameters := [.long, .long], returnType := none }, accessFlags := 1, code := some k2c0 }
def k2c1 : Code := { maxStack := 4, maxLocals := 3, code := prog_7_method_4_code, exceptionTable := #[], attributes := #[] }
def k2m1 : Method := { name := "equals", desc := "(Ljava/lang/Object;)Z", sig := { parameters := [(.object "java/lang/Object")], returnType := some .boolean }, accessFlags := 1, code := some k2c1 }
/-- com/example/feeddb/feeddb/core/Position -/
def k2 : Class := { plain "com/example/feeddb/feeddb/core/Position" (some 0) with
  accessFlags := 33
  interfaces := #[]
  cf := some (fileOf pool2 8 #[] #[{ accessFlags := 1, nameIndex := 5, descriptorIndex := 32, attributes := #[] }, { accessFlags := 1, nameIndex := 38, descriptorIndex := 39, attributes := #[] }] 33 2 #[] #[{ accessFlags := 18, nameIndex := 11, descriptorIndex := 12, attributes := #[] }, { accessFlags := 18, nameIndex := 15, descriptorIndex := 12, attributes := #[] }])
  fields := #[{ name := "time", type := .long, accessFlags := 18, slot := 0, constantValue := 0 }, { name := "id", type := .long, accessFlags := 18, slot := 1, constantValue := 0 }]
  methods := #[k2m0, k2m1]
  instanceTypes := #[.long, .long]
  staticTypes := #[]
  resolved := Array.replicate 62 none
  statics := none }

def pool3 : Array CpInfo := pool [(1, .class_ 2), (0, u "java/io/Serializable"), (0, .class_ 4), (0, u "java/lang/Object")] 2

/-- java/io/Serializable -/
def k3 : Class := { plain "java/io/Serializable" (some 0) with
  accessFlags := 1537
  interfaces := #[]
  cf := some (fileOf pool3 1 #[] #[] 1537 3 #[] #[])
  fields := #[]
  methods := #[]
  instanceTypes := #[]
  staticTypes := #[]
  resolved := Array.replicate 7 none
  statics := none }

def pool4 : Array CpInfo := pool [(1, .methodref 2 3), (0, .class_ 4), (0, .nameAndType 5 6), (0, u "java/lang/Object"), (0, u "<init>"), (0, u "()V"), (1, .class_ 10), (1, u "java/lang/Number"), (2, .class_ 14), (0, u "java/io/Serializable"), (0, u "serialVersionUID"), (0, u "J")] 20

def k4c0 : Code := { maxStack := 1, maxLocals := 1, code := jdk_18_method_1_code, exceptionTable := #[], attributes := #[] }
def k4m0 : Method := { name := "<init>", desc := "()V", sig := { parameters := [], returnType := none }, accessFlags := 1, code := some k4c0 }
/-- java/lang/Number -/
def k4 : Class := { plain "java/lang/Number" (some 0) with
  accessFlags := 1057
  interfaces := #[3]
  cf := some (fileOf pool4 8 #[] #[{ accessFlags := 1, nameIndex := 5, descriptorIndex := 6, attributes := #[] }] 1057 2 #[13] #[{ accessFlags := 26, nameIndex := 15, descriptorIndex := 16, attributes := #[] }])
  fields := #[{ name := "serialVersionUID", type := .long, accessFlags := 26, slot := 0, constantValue := 0 }]
  methods := #[k4m0]
  instanceTypes := #[]
  staticTypes := #[.long]
  resolved := Array.replicate 37 none
  statics := none }

def pool5 : Array CpInfo := pool [(1, .class_ 2), (0, u "java/lang/Comparable"), (0, .class_ 4), (0, u "java/lang/Object")] 7

/-- java/lang/Comparable -/
def k5 : Class := { plain "java/lang/Comparable" (some 0) with
  accessFlags := 1537
  interfaces := #[]
  cf := some (fileOf pool5 1 #[] #[] 1537 3 #[] #[])
  fields := #[]
  methods := #[]
  instanceTypes := #[]
  staticTypes := #[]
  resolved := Array.replicate 12 none
  statics := none }

def pool6 : Array CpInfo := pool [(1, .class_ 2), (0, u "java/lang/constant/Constable"), (0, .class_ 4), (0, u "java/lang/Object")] 6

/-- java/lang/constant/Constable -/
def k6 : Class := { plain "java/lang/constant/Constable" (some 0) with
  accessFlags := 1537
  interfaces := #[]
  cf := some (fileOf pool6 1 #[] #[] 1537 3 #[] #[])
  fields := #[]
  methods := #[]
  instanceTypes := #[]
  staticTypes := #[]
  resolved := Array.replicate 11 none
  statics := none }

def pool7 : Array CpInfo := pool [(1, .class_ 2), (0, u "java/lang/constant/ConstantDesc"), (0, .class_ 4), (0, u "java/lang/Object")] 32

/-- java/lang/constant/ConstantDesc -/
def k7 : Class := { plain "java/lang/constant/ConstantDesc" (some 0) with
  accessFlags := 1537
  interfaces := #[]
  cf := some (fileOf pool7 1 #[] #[] 1537 3 #[] #[])
  fields := #[]
  methods := #[]
  instanceTypes := #[]
  staticTypes := #[]
  resolved := Array.replicate 37 none
  statics := none }

def pool8 : Array CpInfo := pool [(1, .class_ 2), (0, u "java/lang/Long"), (55, .nameAndType 59 60), (0, u "<init>"), (0, u "()V"), (24, u "valueOf"), (143, u "(J)Ljava/lang/Long;"), (0, .long 18446744073709551488), (1, .long 127), (1, .fieldref 235 236), (0, .class_ 237), (0, .nameAndType 238 239), (0, u "java/lang/Long$LongCache"), (0, u "cache"), (0, u "[Ljava/lang/Long;"), (0, .methodref 1 241), (0, .nameAndType 59 242), (0, u "(J)V"), (27, .methodref 271 58), (0, .class_ 272), (0, u "java/lang/Number"), (0, .fieldref 1 274), (0, .nameAndType 275 276), (0, u "value"), (0, u "J"), (84, u "TYPE"), (0, u "Ljava/lang/Class;"), (0, .class_ 364), (0, u "java/lang/Comparable"), (0, .class_ 366), (0, u "java/lang/constant/Constable"), (0, .class_ 368), (0, u "java/lang/constant/ConstantDesc"), (0, u "MIN_VALUE"), (1, u "MAX_VALUE"), (4, u "SIZE"), (0, u "I"), (1, u "BYTES"), (1, u "serialVersionUID")] 142

def k8c0 : Code := { maxStack := 4, maxLocals := 3, code := jdk_35_method_24_code, exceptionTable := #[], attributes := #[] }
def k8m0 : Method := { name := "valueOf", desc := "(J)Ljava/lang/Long;", sig := { parameters := [.long], returnType := some (.object "java/lang/Long") }, accessFlags := 9, code := some k8c0 }
def k8c1 : Code := { maxStack := 3, maxLocals := 3, code := jdk_35_method_26_code, exceptionTable := #[], attributes := #[] }
def k8m1 : Method := { name := "<init>", desc := "(J)V", sig := { parameters := [.long], returnType := none }, accessFlags := 1, code := some k8c1 }
/-- java/lang/Long -/
def k8 : Class := { plain "java/lang/Long" (some 4) with
  accessFlags := 49
  interfaces := #[5, 6, 7]
  cf := some (fileOf pool8 1 #[.nestMembers #[235]] #[{ accessFlags := 9, nameIndex := 85, descriptorIndex := 229, attributes := #[] }, { accessFlags := 1, nameIndex := 59, descriptorIndex := 242, attributes := #[] }] 49 271 #[363, 365, 367] #[{ accessFlags := 25, nameIndex := 369, descriptorIndex := 276, attributes := #[] }, { accessFlags := 25, nameIndex := 371, descriptorIndex := 276, attributes := #[] }, { accessFlags := 25, nameIndex := 361, descriptorIndex := 362, attributes := #[] }, { accessFlags := 18, nameIndex := 275, descriptorIndex := 276, attributes := #[] }, { accessFlags := 25, nameIndex := 376, descriptorIndex := 377, attributes := #[] }, { accessFlags := 25, nameIndex := 379, descriptorIndex := 377, attributes := #[] }, { accessFlags := 26, nameIndex := 381, descriptorIndex := 276, attributes := #[] }])
  fields := #[{ name := "MIN_VALUE", type := .long, accessFlags := 25, slot := 0, constantValue := 0 }, { name := "MAX_VALUE", type := .long, accessFlags := 25, slot := 1, constantValue := 0 }, { name := "TYPE", type := (.object "java/lang/Class"), accessFlags := 25, slot := 2, constantValue := 0 }, { name := "value", type := .long, accessFlags := 18, slot := 0, constantValue := 0 }, { name := "SIZE", type := .int, accessFlags := 25, slot := 3, constantValue := 0 }, { name := "BYTES", type := .int, accessFlags := 25, slot := 4, constantValue := 0 }, { name := "serialVersionUID", type := .long, accessFlags := 26, slot := 5, constantValue := 0 }]
  methods := #[k8m0, k8m1]
  instanceTypes := #[.long]
  staticTypes := #[.long, .long, (.object "java/lang/Class"), .int, .int, .long]
  resolved := Array.replicate 524 none
  statics := none }

def pool9 : Array CpInfo := pool [(2, .class_ 4), (1, u "java/lang/Object"), (0, u "<init>"), (0, u "()V"), (0, .class_ 8), (0, u "java/lang/Long"), (7, .class_ 18), (1, u "java/lang/Long$LongCache"), (0, u "$assertionsDisabled"), (0, u "Z"), (8, u "archivedCache"), (0, u "[Ljava/lang/Long;"), (7, u "cache")] 24

def k9m0 : Method := { name := "<init>", desc := "()V", sig := { parameters := [], returnType := none }, accessFlags := 2, code := none }
/-- java/lang/Long$LongCache -/
def k9 : Class := { plain "java/lang/Long$LongCache" (some 0) with
  accessFlags := 48
  interfaces := #[]
  cf := some (fileOf pool9 16 #[.nestHost 7] #[{ accessFlags := 2, nameIndex := 5, descriptorIndex := 6, attributes := #[] }] 48 2 #[] #[{ accessFlags := 24, nameIndex := 38, descriptorIndex := 30, attributes := #[] }, { accessFlags := 8, nameIndex := 29, descriptorIndex := 30, attributes := #[] }, { accessFlags := 4120, nameIndex := 19, descriptorIndex := 20, attributes := #[] }])
  fields := #[{ name := "cache", type := (.array (.object "java/lang/Long")), accessFlags := 24, slot := 0, constantValue := 0 }, { name := "archivedCache", type := (.array (.object "java/lang/Long")), accessFlags := 8, slot := 1, constantValue := 0 }, { name := "$assertionsDisabled", type := .boolean, accessFlags := 4120, slot := 2, constantValue := 0 }]
  methods := #[k9m0]
  instanceTypes := #[]
  staticTypes := #[(.array (.object "java/lang/Long")), (.array (.object "java/lang/Long")), .boolean]
  resolved := Array.replicate 63 none
  statics := some 0 }

def pool10 : Array CpInfo := pool [(1, u "java/lang/Cloneable"), (0, .class_ 1), (0, u "java/lang/Object"), (0, .class_ 3)] 3

/-- java/lang/Cloneable -/
def k10 : Class := { plain "java/lang/Cloneable" (some 0) with
  accessFlags := 1537
  interfaces := #[]
  cf := some (fileOf pool10 2 #[] #[] 1537 4 #[] #[])
  fields := #[]
  methods := #[]
  instanceTypes := #[]
  staticTypes := #[]
  resolved := Array.replicate 8 none
  statics := none }

/-- the primitive byte -/
def k11 : Class := { plain "byte" none with kind := .primitive 'B', accessFlags := 0x411 }
/-- [B -/
def k12 : Class := { plain "[B" (some 0) with kind := .array 11 .byte, interfaces := #[10, 3], accessFlags := 1041 }

/-- the primitive int -/
def k13 : Class := { plain "int" none with kind := .primitive 'I', accessFlags := 0x411 }
/-- [I -/
def k14 : Class := { plain "[I" (some 0) with kind := .array 13 .int, interfaces := #[10, 3], accessFlags := 1041 }

/-- [Ljava/lang/Long; -/
def k15 : Class := { plain "[Ljava/lang/Long;" (some 0) with kind := .array 8 (.object "java/lang/Long"), interfaces := #[10, 3], accessFlags := 1041 }

def heap : Heap := #[{ cls := 9, slots := #[.ref 1, .null, .int 0], vm := .statics 9 },
  { cls := 15, slots := #[.ref 2, .ref 3, .ref 4, .ref 5, .ref 6, .ref 7, .ref 8, .ref 9, .ref 10, .ref 11, .ref 12, .ref 13, .ref 14, .ref 15, .ref 16, .ref 17, .ref 18, .ref 19, .ref 20, .ref 21, .ref 22, .ref 23, .ref 24, .ref 25, .ref 26, .ref 27, .ref 28, .ref 29, .ref 30, .ref 31, .ref 32, .ref 33, .ref 34, .ref 35, .ref 36, .ref 37, .ref 38, .ref 39, .ref 40, .ref 41, .ref 42, .ref 43, .ref 44, .ref 45, .ref 46, .ref 47, .ref 48, .ref 49, .ref 50, .ref 51, .ref 52, .ref 53, .ref 54, .ref 55, .ref 56, .ref 57, .ref 58, .ref 59, .ref 60, .ref 61, .ref 62, .ref 63, .ref 64, .ref 65, .ref 66, .ref 67, .ref 68, .ref 69, .ref 70, .ref 71, .ref 72, .ref 73, .ref 74, .ref 75, .ref 76, .ref 77, .ref 78, .ref 79, .ref 80, .ref 81, .ref 82, .ref 83, .ref 84, .ref 85, .ref 86, .ref 87, .ref 88, .ref 89, .ref 90, .ref 91, .ref 92, .ref 93, .ref 94, .ref 95, .ref 96, .ref 97, .ref 98, .ref 99, .ref 100, .ref 101, .ref 102, .ref 103, .ref 104, .ref 105, .ref 106, .ref 107, .ref 108, .ref 109, .ref 110, .ref 111, .ref 112, .ref 113, .ref 114, .ref 115, .ref 116, .ref 117, .ref 118, .ref 119, .ref 120, .ref 121, .ref 122, .ref 123, .ref 124, .ref 125, .ref 126, .ref 127, .ref 128, .ref 129, .ref 130, .ref 131, .ref 132, .ref 133, .ref 134, .ref 135, .ref 136, .ref 137, .ref 138, .ref 139, .ref 140, .ref 141, .ref 142, .ref 143, .ref 144, .ref 145, .ref 146, .ref 147, .ref 148, .ref 149, .ref 150, .ref 151, .ref 152, .ref 153, .ref 154, .ref 155, .ref 156, .ref 157, .ref 158, .ref 159, .ref 160, .ref 161, .ref 162, .ref 163, .ref 164, .ref 165, .ref 166, .ref 167, .ref 168, .ref 169, .ref 170, .ref 171, .ref 172, .ref 173, .ref 174, .ref 175, .ref 176, .ref 177, .ref 178, .ref 179, .ref 180, .ref 181, .ref 182, .ref 183, .ref 184, .ref 185, .ref 186, .ref 187, .ref 188, .ref 189, .ref 190, .ref 191, .ref 192, .ref 193, .ref 194, .ref 195, .ref 196, .ref 197, .ref 198, .ref 199, .ref 200, .ref 201, .ref 202, .ref 203, .ref 204, .ref 205, .ref 206, .ref 207, .ref 208, .ref 209, .ref 210, .ref 211, .ref 212, .ref 213, .ref 214, .ref 215, .ref 216, .ref 217, .ref 218, .ref 219, .ref 220, .ref 221, .ref 222, .ref 223, .ref 224, .ref 225, .ref 226, .ref 227, .ref 228, .ref 229, .ref 230, .ref 231, .ref 232, .ref 233, .ref 234, .ref 235, .ref 236, .ref 237, .ref 238, .ref 239, .ref 240, .ref 241, .ref 242, .ref 243, .ref 244, .ref 245, .ref 246, .ref 247, .ref 248, .ref 249, .ref 250, .ref 251, .ref 252, .ref 253, .ref 254, .ref 255, .ref 256, .ref 257], vm := .none },
  { cls := 8, slots := #[.long (-128)], vm := .none },
  { cls := 8, slots := #[.long (-127)], vm := .none },
  { cls := 8, slots := #[.long (-126)], vm := .none },
  { cls := 8, slots := #[.long (-125)], vm := .none },
  { cls := 8, slots := #[.long (-124)], vm := .none },
  { cls := 8, slots := #[.long (-123)], vm := .none },
  { cls := 8, slots := #[.long (-122)], vm := .none },
  { cls := 8, slots := #[.long (-121)], vm := .none },
  { cls := 8, slots := #[.long (-120)], vm := .none },
  { cls := 8, slots := #[.long (-119)], vm := .none },
  { cls := 8, slots := #[.long (-118)], vm := .none },
  { cls := 8, slots := #[.long (-117)], vm := .none },
  { cls := 8, slots := #[.long (-116)], vm := .none },
  { cls := 8, slots := #[.long (-115)], vm := .none },
  { cls := 8, slots := #[.long (-114)], vm := .none },
  { cls := 8, slots := #[.long (-113)], vm := .none },
  { cls := 8, slots := #[.long (-112)], vm := .none },
  { cls := 8, slots := #[.long (-111)], vm := .none },
  { cls := 8, slots := #[.long (-110)], vm := .none },
  { cls := 8, slots := #[.long (-109)], vm := .none },
  { cls := 8, slots := #[.long (-108)], vm := .none },
  { cls := 8, slots := #[.long (-107)], vm := .none },
  { cls := 8, slots := #[.long (-106)], vm := .none },
  { cls := 8, slots := #[.long (-105)], vm := .none },
  { cls := 8, slots := #[.long (-104)], vm := .none },
  { cls := 8, slots := #[.long (-103)], vm := .none },
  { cls := 8, slots := #[.long (-102)], vm := .none },
  { cls := 8, slots := #[.long (-101)], vm := .none },
  { cls := 8, slots := #[.long (-100)], vm := .none },
  { cls := 8, slots := #[.long (-99)], vm := .none },
  { cls := 8, slots := #[.long (-98)], vm := .none },
  { cls := 8, slots := #[.long (-97)], vm := .none },
  { cls := 8, slots := #[.long (-96)], vm := .none },
  { cls := 8, slots := #[.long (-95)], vm := .none },
  { cls := 8, slots := #[.long (-94)], vm := .none },
  { cls := 8, slots := #[.long (-93)], vm := .none },
  { cls := 8, slots := #[.long (-92)], vm := .none },
  { cls := 8, slots := #[.long (-91)], vm := .none },
  { cls := 8, slots := #[.long (-90)], vm := .none },
  { cls := 8, slots := #[.long (-89)], vm := .none },
  { cls := 8, slots := #[.long (-88)], vm := .none },
  { cls := 8, slots := #[.long (-87)], vm := .none },
  { cls := 8, slots := #[.long (-86)], vm := .none },
  { cls := 8, slots := #[.long (-85)], vm := .none },
  { cls := 8, slots := #[.long (-84)], vm := .none },
  { cls := 8, slots := #[.long (-83)], vm := .none },
  { cls := 8, slots := #[.long (-82)], vm := .none },
  { cls := 8, slots := #[.long (-81)], vm := .none },
  { cls := 8, slots := #[.long (-80)], vm := .none },
  { cls := 8, slots := #[.long (-79)], vm := .none },
  { cls := 8, slots := #[.long (-78)], vm := .none },
  { cls := 8, slots := #[.long (-77)], vm := .none },
  { cls := 8, slots := #[.long (-76)], vm := .none },
  { cls := 8, slots := #[.long (-75)], vm := .none },
  { cls := 8, slots := #[.long (-74)], vm := .none },
  { cls := 8, slots := #[.long (-73)], vm := .none },
  { cls := 8, slots := #[.long (-72)], vm := .none },
  { cls := 8, slots := #[.long (-71)], vm := .none },
  { cls := 8, slots := #[.long (-70)], vm := .none },
  { cls := 8, slots := #[.long (-69)], vm := .none },
  { cls := 8, slots := #[.long (-68)], vm := .none },
  { cls := 8, slots := #[.long (-67)], vm := .none },
  { cls := 8, slots := #[.long (-66)], vm := .none },
  { cls := 8, slots := #[.long (-65)], vm := .none },
  { cls := 8, slots := #[.long (-64)], vm := .none },
  { cls := 8, slots := #[.long (-63)], vm := .none },
  { cls := 8, slots := #[.long (-62)], vm := .none },
  { cls := 8, slots := #[.long (-61)], vm := .none },
  { cls := 8, slots := #[.long (-60)], vm := .none },
  { cls := 8, slots := #[.long (-59)], vm := .none },
  { cls := 8, slots := #[.long (-58)], vm := .none },
  { cls := 8, slots := #[.long (-57)], vm := .none },
  { cls := 8, slots := #[.long (-56)], vm := .none },
  { cls := 8, slots := #[.long (-55)], vm := .none },
  { cls := 8, slots := #[.long (-54)], vm := .none },
  { cls := 8, slots := #[.long (-53)], vm := .none },
  { cls := 8, slots := #[.long (-52)], vm := .none },
  { cls := 8, slots := #[.long (-51)], vm := .none },
  { cls := 8, slots := #[.long (-50)], vm := .none },
  { cls := 8, slots := #[.long (-49)], vm := .none },
  { cls := 8, slots := #[.long (-48)], vm := .none },
  { cls := 8, slots := #[.long (-47)], vm := .none },
  { cls := 8, slots := #[.long (-46)], vm := .none },
  { cls := 8, slots := #[.long (-45)], vm := .none },
  { cls := 8, slots := #[.long (-44)], vm := .none },
  { cls := 8, slots := #[.long (-43)], vm := .none },
  { cls := 8, slots := #[.long (-42)], vm := .none },
  { cls := 8, slots := #[.long (-41)], vm := .none },
  { cls := 8, slots := #[.long (-40)], vm := .none },
  { cls := 8, slots := #[.long (-39)], vm := .none },
  { cls := 8, slots := #[.long (-38)], vm := .none },
  { cls := 8, slots := #[.long (-37)], vm := .none },
  { cls := 8, slots := #[.long (-36)], vm := .none },
  { cls := 8, slots := #[.long (-35)], vm := .none },
  { cls := 8, slots := #[.long (-34)], vm := .none },
  { cls := 8, slots := #[.long (-33)], vm := .none },
  { cls := 8, slots := #[.long (-32)], vm := .none },
  { cls := 8, slots := #[.long (-31)], vm := .none },
  { cls := 8, slots := #[.long (-30)], vm := .none },
  { cls := 8, slots := #[.long (-29)], vm := .none },
  { cls := 8, slots := #[.long (-28)], vm := .none },
  { cls := 8, slots := #[.long (-27)], vm := .none },
  { cls := 8, slots := #[.long (-26)], vm := .none },
  { cls := 8, slots := #[.long (-25)], vm := .none },
  { cls := 8, slots := #[.long (-24)], vm := .none },
  { cls := 8, slots := #[.long (-23)], vm := .none },
  { cls := 8, slots := #[.long (-22)], vm := .none },
  { cls := 8, slots := #[.long (-21)], vm := .none },
  { cls := 8, slots := #[.long (-20)], vm := .none },
  { cls := 8, slots := #[.long (-19)], vm := .none },
  { cls := 8, slots := #[.long (-18)], vm := .none },
  { cls := 8, slots := #[.long (-17)], vm := .none },
  { cls := 8, slots := #[.long (-16)], vm := .none },
  { cls := 8, slots := #[.long (-15)], vm := .none },
  { cls := 8, slots := #[.long (-14)], vm := .none },
  { cls := 8, slots := #[.long (-13)], vm := .none },
  { cls := 8, slots := #[.long (-12)], vm := .none },
  { cls := 8, slots := #[.long (-11)], vm := .none },
  { cls := 8, slots := #[.long (-10)], vm := .none },
  { cls := 8, slots := #[.long (-9)], vm := .none },
  { cls := 8, slots := #[.long (-8)], vm := .none },
  { cls := 8, slots := #[.long (-7)], vm := .none },
  { cls := 8, slots := #[.long (-6)], vm := .none },
  { cls := 8, slots := #[.long (-5)], vm := .none },
  { cls := 8, slots := #[.long (-4)], vm := .none },
  { cls := 8, slots := #[.long (-3)], vm := .none },
  { cls := 8, slots := #[.long (-2)], vm := .none },
  { cls := 8, slots := #[.long (-1)], vm := .none },
  { cls := 8, slots := #[.long 0], vm := .none },
  { cls := 8, slots := #[.long 1], vm := .none },
  { cls := 8, slots := #[.long 2], vm := .none },
  { cls := 8, slots := #[.long 3], vm := .none },
  { cls := 8, slots := #[.long 4], vm := .none },
  { cls := 8, slots := #[.long 5], vm := .none },
  { cls := 8, slots := #[.long 6], vm := .none },
  { cls := 8, slots := #[.long 7], vm := .none },
  { cls := 8, slots := #[.long 8], vm := .none },
  { cls := 8, slots := #[.long 9], vm := .none },
  { cls := 8, slots := #[.long 10], vm := .none },
  { cls := 8, slots := #[.long 11], vm := .none },
  { cls := 8, slots := #[.long 12], vm := .none },
  { cls := 8, slots := #[.long 13], vm := .none },
  { cls := 8, slots := #[.long 14], vm := .none },
  { cls := 8, slots := #[.long 15], vm := .none },
  { cls := 8, slots := #[.long 16], vm := .none },
  { cls := 8, slots := #[.long 17], vm := .none },
  { cls := 8, slots := #[.long 18], vm := .none },
  { cls := 8, slots := #[.long 19], vm := .none },
  { cls := 8, slots := #[.long 20], vm := .none },
  { cls := 8, slots := #[.long 21], vm := .none },
  { cls := 8, slots := #[.long 22], vm := .none },
  { cls := 8, slots := #[.long 23], vm := .none },
  { cls := 8, slots := #[.long 24], vm := .none },
  { cls := 8, slots := #[.long 25], vm := .none },
  { cls := 8, slots := #[.long 26], vm := .none },
  { cls := 8, slots := #[.long 27], vm := .none },
  { cls := 8, slots := #[.long 28], vm := .none },
  { cls := 8, slots := #[.long 29], vm := .none },
  { cls := 8, slots := #[.long 30], vm := .none },
  { cls := 8, slots := #[.long 31], vm := .none },
  { cls := 8, slots := #[.long 32], vm := .none },
  { cls := 8, slots := #[.long 33], vm := .none },
  { cls := 8, slots := #[.long 34], vm := .none },
  { cls := 8, slots := #[.long 35], vm := .none },
  { cls := 8, slots := #[.long 36], vm := .none },
  { cls := 8, slots := #[.long 37], vm := .none },
  { cls := 8, slots := #[.long 38], vm := .none },
  { cls := 8, slots := #[.long 39], vm := .none },
  { cls := 8, slots := #[.long 40], vm := .none },
  { cls := 8, slots := #[.long 41], vm := .none },
  { cls := 8, slots := #[.long 42], vm := .none },
  { cls := 8, slots := #[.long 43], vm := .none },
  { cls := 8, slots := #[.long 44], vm := .none },
  { cls := 8, slots := #[.long 45], vm := .none },
  { cls := 8, slots := #[.long 46], vm := .none },
  { cls := 8, slots := #[.long 47], vm := .none },
  { cls := 8, slots := #[.long 48], vm := .none },
  { cls := 8, slots := #[.long 49], vm := .none },
  { cls := 8, slots := #[.long 50], vm := .none },
  { cls := 8, slots := #[.long 51], vm := .none },
  { cls := 8, slots := #[.long 52], vm := .none },
  { cls := 8, slots := #[.long 53], vm := .none },
  { cls := 8, slots := #[.long 54], vm := .none },
  { cls := 8, slots := #[.long 55], vm := .none },
  { cls := 8, slots := #[.long 56], vm := .none },
  { cls := 8, slots := #[.long 57], vm := .none },
  { cls := 8, slots := #[.long 58], vm := .none },
  { cls := 8, slots := #[.long 59], vm := .none },
  { cls := 8, slots := #[.long 60], vm := .none },
  { cls := 8, slots := #[.long 61], vm := .none },
  { cls := 8, slots := #[.long 62], vm := .none },
  { cls := 8, slots := #[.long 63], vm := .none },
  { cls := 8, slots := #[.long 64], vm := .none },
  { cls := 8, slots := #[.long 65], vm := .none },
  { cls := 8, slots := #[.long 66], vm := .none },
  { cls := 8, slots := #[.long 67], vm := .none },
  { cls := 8, slots := #[.long 68], vm := .none },
  { cls := 8, slots := #[.long 69], vm := .none },
  { cls := 8, slots := #[.long 70], vm := .none },
  { cls := 8, slots := #[.long 71], vm := .none },
  { cls := 8, slots := #[.long 72], vm := .none },
  { cls := 8, slots := #[.long 73], vm := .none },
  { cls := 8, slots := #[.long 74], vm := .none },
  { cls := 8, slots := #[.long 75], vm := .none },
  { cls := 8, slots := #[.long 76], vm := .none },
  { cls := 8, slots := #[.long 77], vm := .none },
  { cls := 8, slots := #[.long 78], vm := .none },
  { cls := 8, slots := #[.long 79], vm := .none },
  { cls := 8, slots := #[.long 80], vm := .none },
  { cls := 8, slots := #[.long 81], vm := .none },
  { cls := 8, slots := #[.long 82], vm := .none },
  { cls := 8, slots := #[.long 83], vm := .none },
  { cls := 8, slots := #[.long 84], vm := .none },
  { cls := 8, slots := #[.long 85], vm := .none },
  { cls := 8, slots := #[.long 86], vm := .none },
  { cls := 8, slots := #[.long 87], vm := .none },
  { cls := 8, slots := #[.long 88], vm := .none },
  { cls := 8, slots := #[.long 89], vm := .none },
  { cls := 8, slots := #[.long 90], vm := .none },
  { cls := 8, slots := #[.long 91], vm := .none },
  { cls := 8, slots := #[.long 92], vm := .none },
  { cls := 8, slots := #[.long 93], vm := .none },
  { cls := 8, slots := #[.long 94], vm := .none },
  { cls := 8, slots := #[.long 95], vm := .none },
  { cls := 8, slots := #[.long 96], vm := .none },
  { cls := 8, slots := #[.long 97], vm := .none },
  { cls := 8, slots := #[.long 98], vm := .none },
  { cls := 8, slots := #[.long 99], vm := .none },
  { cls := 8, slots := #[.long 100], vm := .none },
  { cls := 8, slots := #[.long 101], vm := .none },
  { cls := 8, slots := #[.long 102], vm := .none },
  { cls := 8, slots := #[.long 103], vm := .none },
  { cls := 8, slots := #[.long 104], vm := .none },
  { cls := 8, slots := #[.long 105], vm := .none },
  { cls := 8, slots := #[.long 106], vm := .none },
  { cls := 8, slots := #[.long 107], vm := .none },
  { cls := 8, slots := #[.long 108], vm := .none },
  { cls := 8, slots := #[.long 109], vm := .none },
  { cls := 8, slots := #[.long 110], vm := .none },
  { cls := 8, slots := #[.long 111], vm := .none },
  { cls := 8, slots := #[.long 112], vm := .none },
  { cls := 8, slots := #[.long 113], vm := .none },
  { cls := 8, slots := #[.long 114], vm := .none },
  { cls := 8, slots := #[.long 115], vm := .none },
  { cls := 8, slots := #[.long 116], vm := .none },
  { cls := 8, slots := #[.long 117], vm := .none },
  { cls := 8, slots := #[.long 118], vm := .none },
  { cls := 8, slots := #[.long 119], vm := .none },
  { cls := 8, slots := #[.long 120], vm := .none },
  { cls := 8, slots := #[.long 121], vm := .none },
  { cls := 8, slots := #[.long 122], vm := .none },
  { cls := 8, slots := #[.long 123], vm := .none },
  { cls := 8, slots := #[.long 124], vm := .none },
  { cls := 8, slots := #[.long 125], vm := .none },
  { cls := 8, slots := #[.long 126], vm := .none },
  { cls := 8, slots := #[.long 127], vm := .none }]
def classes : Array Class := #[k0, k1, k2, k3, k4, k5, k6, k7, k8, k9, k10, k11, k12, k13, k14, k15]
def interned : List (Array UInt16 × Addr) := []
def slotsUsed : Nat := 515
def theMethod : MethodId := ⟨1, 1⟩
def args0 : Array Value := #[.long 5, .long 7, .long 5, .long 8, .int 3]
def aboutOver (below : List Frame) : State where
  vm := { classes := classes, interned := interned.toArray }
  heap := heap
  slotsUsed := slotsUsed
  threads := #[{ frames := .invoking theMethod args0 :: below }]
def below0 : List Frame := [.native { method := ⟨0, 0⟩, args := #[] }]
def about1 : State := aboutOver below0
def p0 : Program := .bare "" "" ""
def e0 : Env := launch0.env 0 0 0
theorem w_frames : about1.frames = Frame.invoking theMethod args0 :: below0 := rfl
set_option maxRecDepth 65536 in
theorem w_args : argsFit about1.vm theMethod args0 = true := by decide +kernel
set_option maxRecDepth 65536 in
theorem w_heap : heapFits about1 = true := by decide +kernel
set_option maxRecDepth 65536 in
theorem w_runnable : about1.curStatus? = some .runnable := by decide +kernel
set_option maxRecDepth 65536 in
theorem w_alone : about1.alone = true := by decide +kernel
set_option maxRecDepth 65536 in
theorem w_named : about1.methodNamed? x = some theMethod := by decide +kernel
set_option maxRecDepth 65536 in
theorem w_hears : about1.hears theMethod below0 = true := by decide +kernel
set_option maxRecDepth 65536 in
theorem w_ripe : about1.ripe theMethod args0 below0 = true := by decide +kernel
theorem w_running : about1.status = .running := rfl
set_option maxRecDepth 65536 in
theorem w_room : about1.hasRoom e0.platform room_1 = true :=
  launch0.hasRoom_least _ room_1 (by decide +kernel) (by decide +kernel) (by decide +kernel) (by decide +kernel) (by decide +kernel) (by decide +kernel)
theorem allAtoms_all (ts : List Jvm.Cond) (a : Array Jvm.Value) (st : Jvm.State) : (allAtoms ts).before a st = ts.all (fun c => c.before a st) := by
  induction ts with
  | nil => rfl
  | cons c t ih =>
    show (Jvm.Cond.and c (allAtoms t)).before a st = _
    rw [Jvm.Cond.before_and, ih, List.all_cons]
def words1 : List Jvm.Cond := Jvm.Cond.code x code maxLocals ret :: tables_1
/-- a 'code' word, met by the world's own term for the bytes: nothing is compared byte by byte -/
theorem code_word {y : MethodName} {bytes : ByteArray} {mx : Nat} {rt : Option FieldType} {a : Array Value} {s : State} {m : MethodId} {meth : Method} {c : Code} (h1 : s.methodNamed? y = some m) (h2 : s.vm.method? m = some meth) (h3 : meth.code = some c) (h4 : c.code = bytes)
    (h5 : (c.maxLocals == mx && c.exceptionTable.isEmpty && decide (c.maxStack ≤ mostOperands) && decide (meth.sig.returnType = rt) && !meth.locks && decide (parseMethodDescriptor y.desc = some meth.sig)) = true) : (Jvm.Cond.code y bytes mx rt).before a s = true := by
  simp only [Bool.and_eq_true, beq_iff_eq, Bool.not_eq_true', decide_eq_true_eq] at h5
  obtain ⟨⟨⟨⟨⟨g1, g2⟩, g3⟩, g4⟩, g5⟩, g6⟩ := h5
  simp [Cond.before, Cond.holds, Cond.value, h1, h2, h3, h4, g1, g2, g3, g4, g5, g6]
def isCode : Jvm.Cond → Bool
  | .code _ _ _ _ => true
  | _ => false
theorem all_split {L : List Jvm.Cond} {P : Jvm.Cond → Bool} (h1 : L.all (fun c => isCode c || P c) = true) (h2 : ∀ c ∈ L.filter isCode, P c = true) : L.all P = true := by
  refine List.all_eq_true.mpr fun c hc => ?_
  have h := List.all_eq_true.mp h1 c hc
  rcases Bool.eq_false_or_eq_true (isCode c) with hi | hi
  · exact h2 c (List.mem_filter.mpr ⟨hc, hi⟩)
  · simpa [hi] using h
set_option maxRecDepth 65536 in
theorem w_c0 : (Jvm.Cond.code x code maxLocals ret).before args0 about1 = true := code_word (m := ⟨1, 1⟩) (meth := k1m1) (c := k1c1) (by decide +kernel) rfl rfl rfl (by decide +kernel)
set_option maxRecDepth 65536 in
theorem w_c1 : (Jvm.Cond.code ({ cls := "com/example/feeddb/feeddb/core/Position", name := "<init>", desc := "(JJ)V" } : Jvm.MethodName) prog_7_method_1_code (5 : Nat) (Option.none : Option Jvm.ClassFile.FieldType)).before args0 about1 = true := code_word (m := ⟨2, 0⟩) (meth := k2m0) (c := k2c0) (by decide +kernel) rfl rfl rfl (by decide +kernel)
set_option maxRecDepth 65536 in
theorem w_c2 : (Jvm.Cond.code ({ cls := "java/lang/Object", name := "<init>", desc := "()V" } : Jvm.MethodName) object_method_1_code (1 : Nat) (Option.none : Option Jvm.ClassFile.FieldType)).before args0 about1 = true := code_word (m := ⟨0, 0⟩) (meth := k0m0) (c := k0c0) (by decide +kernel) rfl rfl rfl (by decide +kernel)
set_option maxRecDepth 65536 in
theorem w_c3 : (Jvm.Cond.code ({ cls := "com/example/feeddb/feeddb/core/Position", name := "equals", desc := "(Ljava/lang/Object;)Z" } : Jvm.MethodName) prog_7_method_4_code (3 : Nat) (Option.some Jvm.ClassFile.FieldType.boolean)).before args0 about1 = true := code_word (m := ⟨2, 1⟩) (meth := k2m1) (c := k2c1) (by decide +kernel) rfl rfl rfl (by decide +kernel)
set_option maxRecDepth 65536 in
theorem w_c4 : (Jvm.Cond.code ({ cls := "java/lang/Long", name := "valueOf", desc := "(J)Ljava/lang/Long;" } : Jvm.MethodName) jdk_35_method_24_code (3 : Nat) (Option.some (Jvm.ClassFile.FieldType.object "java/lang/Long"))).before args0 about1 = true := code_word (m := ⟨8, 0⟩) (meth := k8m0) (c := k8c0) (by decide +kernel) rfl rfl rfl (by decide +kernel)
set_option maxRecDepth 65536 in
theorem w_c5 : (Jvm.Cond.code ({ cls := "java/lang/Long", name := "<init>", desc := "(J)V" } : Jvm.MethodName) jdk_35_method_26_code (3 : Nat) (Option.none : Option Jvm.ClassFile.FieldType)).before args0 about1 = true := code_word (m := ⟨8, 1⟩) (meth := k8m1) (c := k8c1) (by decide +kernel) rfl rfl rfl (by decide +kernel)
set_option maxRecDepth 65536 in
theorem w_c6 : (Jvm.Cond.code ({ cls := "java/lang/Number", name := "<init>", desc := "()V" } : Jvm.MethodName) jdk_18_method_1_code (1 : Nat) (Option.none : Option Jvm.ClassFile.FieldType)).before args0 about1 = true := code_word (m := ⟨4, 0⟩) (meth := k4m0) (c := k4c0) (by decide +kernel) rfl rfl rfl (by decide +kernel)
def codes1 : List Jvm.Cond := [Jvm.Cond.code x code maxLocals ret, Jvm.Cond.code ({ cls := "com/example/feeddb/feeddb/core/Position", name := "<init>", desc := "(JJ)V" } : Jvm.MethodName) prog_7_method_1_code (5 : Nat) (Option.none : Option Jvm.ClassFile.FieldType), Jvm.Cond.code ({ cls := "java/lang/Object", name := "<init>", desc := "()V" } : Jvm.MethodName) object_method_1_code (1 : Nat) (Option.none : Option Jvm.ClassFile.FieldType), Jvm.Cond.code ({ cls := "com/example/feeddb/feeddb/core/Position", name := "equals", desc := "(Ljava/lang/Object;)Z" } : Jvm.MethodName) prog_7_method_4_code (3 : Nat) (Option.some Jvm.ClassFile.FieldType.boolean), Jvm.Cond.code ({ cls := "java/lang/Long", name := "valueOf", desc := "(J)Ljava/lang/Long;" } : Jvm.MethodName) jdk_35_method_24_code (3 : Nat) (Option.some (Jvm.ClassFile.FieldType.object "java/lang/Long")), Jvm.Cond.code ({ cls := "java/lang/Long", name := "<init>", desc := "(J)V" } : Jvm.MethodName) jdk_35_method_26_code (3 : Nat) (Option.none : Option Jvm.ClassFile.FieldType), Jvm.Cond.code ({ cls := "java/lang/Number", name := "<init>", desc := "()V" } : Jvm.MethodName) jdk_18_method_1_code (1 : Nat) (Option.none : Option Jvm.ClassFile.FieldType)]
set_option maxRecDepth 65536 in
theorem codes_eq : words1.filter isCode = codes1 := rfl
theorem w_codes : ∀ c ∈ words1.filter isCode, c.before args0 about1 = true := by
  rw [codes_eq]
  intro c hc
  simp only [codes1, List.mem_cons, List.not_mem_nil, or_false] at hc
  rcases hc with rfl | rfl | rfl | rfl | rfl | rfl | rfl
  · exact w_c0
  · exact w_c1
  · exact w_c2
  · exact w_c3
  · exact w_c4
  · exact w_c5
  · exact w_c6
set_option maxRecDepth 65536 in
theorem w_t1 : (words1.take 24).all (fun c => isCode c || c.before args0 about1) = true := by decide +kernel
set_option maxRecDepth 65536 in
theorem w_t2 : (words1.drop 24).all (fun c => isCode c || c.before args0 about1) = true := by decide +kernel
theorem w_tables : (allAtoms (Jvm.Cond.code x code maxLocals ret :: tables_1)).before args0 about1 = true := by
  rw [allAtoms_all]
  show words1.all (fun c => c.before args0 about1) = true
  refine all_split ?_ w_codes
  rw [← List.take_append_drop 24 words1, List.all_append, w_t1, w_t2]
  rfl
set_option maxRecDepth 65536 in
theorem w_rest : rest_1_c.before args0 about1 = true := by decide +kernel
set_option maxRecDepth 65536 in
theorem w_case : (Jvm.Cond.and given_1 narrow_1).before args0 about1 = true := by decide +kernel
theorem w_applies : (headSpec (Jvm.Cond.code x code maxLocals ret :: tables_1) room_1).applies x e0.platform about1 = true :=
  (Spec.applies_iff w_frames).mpr ⟨w_running, w_runnable, w_alone, w_named, w_hears, w_ripe, w_room, w_tables⟩
theorem atStart : AtStart classFile x code maxLocals ret World_1 tables_1 room_1 Calls_1 rest_1 Pre_1 launch0 p0 e0 about1 theMethod args0 below0 :=
  ⟨lists_1, trivial, launch0.admits_env _ _ _, launch0.least_env, fairChoices_fair.cas, fairChoices_fair.clock, w_frames, w_args, w_heap, w_applies, trivial, w_rest, w_case⟩
end start1
theorem witness_1 : WitnessClaimed_1 := ⟨start1.p0, start1.e0, start1.about1, start1.theMethod, start1.args0, start1.below0, start1.atStart⟩
end Jvm.Pilot.@@N@@
