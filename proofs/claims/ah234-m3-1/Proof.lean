import JvmDerived
import JvmDerived.Pilot.@@N@@Statement
import JvmDerived.Pilot.@@N@@Code
set_option linter.unusedVariables false
set_option linter.unusedSimpArgs false

namespace Jvm.Pilot.@@N@@
open Jvm Jvm.ClassFile Sem Op Lib Jvm.Free Jvm.Stand Jvm.LawKit Jvm.RoadKit Bundle Jvm.Pilot.@@N@@.Jvm.D
/-- from every end that the second place reaches the first does -/
abbrev own_To (p : Program) (e : Env) (below : List Frame) (T' : State) (f' : JFrame) (T : State) (f : JFrame) : Prop := ∀ t, Steps p.tables e below (T'.setTop f') t → Steps p.tables e below (T.setTop f) t
/-- the places written so far, by a name -/
theorem own_fold {p : Program} {l : Launch} {e : Env} {R : Room} {s : State} {m : MethodId} {args : Array Value} {below : List Frame} {meth : Method} {c : Code} {T : State} {locs : List Loc} {cells slots n0 : Nat} (X : Stand p l e R s m args below meth c T locs cells slots) (N : Fr n0 locs) : ∃ L, Fr n0 L ∧ Stand p l e R s m args below meth c T L cells slots := ⟨locs, N, X⟩
def own_EL : List (String × Nat) := consts_1
theorem own_EW (Z : State) (a0 : Array Value) (hw : ∀ d ∈ tables_1, d.before a0 Z = true) : EW Z a0 own_EL := (EW.cons (hw _ (List.mem_of_getElem? (i := 43) rfl)) (by decide) (EW.cons (hw _ (List.mem_of_getElem? (i := 52) rfl)) (by decide) (EW.cons (hw _ (List.mem_of_getElem? (i := 22) rfl)) (by decide) EW.nil)))
theorem own_base {p : Program} {l : Launch} {e : Env} {R : Room} {s : State} {m : MethodId} {args : Array Value} {below : List Frame} {meth : Method} {c : Code} {T : State} {locs : List Loc} {cells slots : Nat} (X : Stand p l e R s m args below meth c T locs cells slots) : Stand p l e R (s.setVm s.vm) m args below meth c T locs cells slots := X
theorem own_again {p : Program} {l : Launch} {e : Env} {R : Room} {s : State} {vm1 vm2 : Vm} {m : MethodId} {args : Array Value} {below : List Frame} {meth : Method} {c : Code} {T : State} {locs : List Loc} {cells slots : Nat} (X : Stand p l e R ((s.setVm vm1).setVm vm2) m args below meth c T locs cells slots) : Stand p l e R (s.setVm vm2) m args below meth c T locs cells slots := X
theorem own_safe {Z : State} {EL : List (String × Nat)} {vm : Vm} {h : Heap} {x : Addr} (hal : Z.vm.Alike vm) (E : Exa Z h x "java/lang/String") (F : Fld Z h x "java/lang/String" "value" "[B" .null) : Safe Z EL vm h x := fun B => by
  obtain ⟨cell, cf, k, i, f, h1, h2, h3, h4, h5, h6, h7⟩ := F
  obtain ⟨c0, k0, e1, e2, e3, -, -⟩ := E
  cases e1.symm.trans h1
  obtain ⟨p, -, u, a, -, q, -, S, rfl | rfl⟩ := B
  · cases (show h[q.sa]? = some q.sC from S.ha).symm.trans h1
    obtain ⟨cS, ⟨⟨-, -, -, ⟨c1, k1, i1, f1, -⟩, -, -, -, v1, -⟩, -⟩, -⟩ := S
    obtain ⟨k3, e3', -⟩ := State.fieldFound?_setVm (s := Z) hal h2
    have e4 := (show (Wst Z vm h).fieldFound? _ _ _ = _ from e3').symm.trans f1
    simp only [Option.some.injEq, Prod.mk.injEq] at e4
    rw [← e4.2.2.2, h7] at v1
    cases v1
  · cases (show h[q.sd]? = some q.SA from S.hd).symm.trans h1
    obtain ⟨cS, -, -, g, -⟩ := S
    have g' : Z.vm.findClass "[B" = some q.SA.cls := by rw [← hal.findClass]; exact g
    obtain ⟨k1, q1, q2⟩ := Vm.findClass_spec g'
    obtain ⟨k2, q3, q4⟩ := Vm.findClass_spec e2
    cases q1.symm.trans q3
    exact absurd (q2.symm.trans q4) (by decide)
theorem own_root {Z : State} {a0 : Array Value} {O K : String} {n : Nat} (w : (Jvm.Cond.noSuperclass O).before a0 Z = true) (wi : (Jvm.Cond.instantiable K n).before a0 Z = true) (hn : O ≠ K) : NS Z O K := by
  obtain ⟨c, k, h1, h2, h3, -, -⟩ := Cond.noSuperclass_spec w
  obtain ⟨t, kt, g1, -⟩ := Cond.instantiable_spec wi
  have ne := ids_ne h1 g1 hn
  refine ⟨c, t, h1, g1, fun fuel => ?_⟩
  cases fuel with
  | zero => rfl
  | succ f => simp [Vm.isSubclassAux, ne, h2, h3]
theorem own_no {Z : State} {a0 : Array Value} {C S K : String} {n : Nat} (w : (Jvm.Cond.superclass C S).before a0 Z = true) (wi : (Jvm.Cond.instantiable K n).before a0 Z = true) (q : NS Z C K) (hn : C ≠ K) : ∃ c t, Z.vm.findClass C = some c ∧ Z.vm.findClass K = some t ∧ Z.vm.assignable c t = false := by
  obtain ⟨c, t, h0, g0, n3⟩ := q
  obtain ⟨p, k, kp, h1, h2, h3, h4, h5, -, h7⟩ := Cond.superclass_spec h0 w
  obtain ⟨t', kt, g1, g2, g3, g4, -⟩ := Cond.instantiable_spec wi
  cases g0.symm.trans g1
  have g5 : kt.isInterface = false := by cases hq : kt.isInterface with
    | false => rfl
    | true => rw [hq] at g4; cases g4
  have ne := ids_ne h0 g0 hn
  refine ⟨c, t, h0, g0, ?_⟩
  show Z.vm.assignableAux (255 + 1) c t = false
  simp [Vm.assignableAux, ne, h2, g2, h5, g3, g5, Vm.isSubclass, n3]
def own_min (p0 p1 : Int32) : Int32 := (if p1 < p0 then p1 else p0)
theorem own_d1_0 : decode jdk_29_method_69_code 0 = .ok (.iload_n 0, 1) := by decide +kernel
theorem own_d1_1 : decode jdk_29_method_69_code 1 = .ok (.iload_n 1, 1) := by decide +kernel
theorem own_d1_2 : decode jdk_29_method_69_code 2 = .ok (.if_icmp .gt 7, 3) := by decide +kernel
theorem own_d1_5 : decode jdk_29_method_69_code 5 = .ok (.iload_n 0, 1) := by decide +kernel
theorem own_d1_6 : decode jdk_29_method_69_code 6 = .ok (.goto 4, 3) := by decide +kernel
theorem own_d1_9 : decode jdk_29_method_69_code 9 = .ok (.iload_n 1, 1) := by decide +kernel
theorem own_d1_10 : decode jdk_29_method_69_code 10 = .ok (.ireturn, 1) := by decide +kernel
theorem own_ef1 (m : MethodId) (x0 : Int32) (x1 : Int32) : entryFrame m #[(.int x0), (.int x1)] 2 = mkF m 0 #[.val (.int x0), .val (.int x1)] [] := by first | (simp [entryFrame, mkF, argsToLocals, Value.category]; done) | rfl
def Q1 (Z : State) (p0 : Int32) (p1 : Int32) (h0 : Heap) (n0 : Nat) (v : Option Value) (h : Heap) (L : List Loc) : Prop := v = some (.int (own_min p0 p1)) ∧ Fr n0 L ∧ h = h0
set_option maxRecDepth 65536 in
set_option maxHeartbeats 40000000 in
theorem rm1 (l : Launch) (Z : State) (a0 : Array Value) (hw : ∀ d ∈ tables_1, d.before a0 Z = true) (ws : List Jvm.Cond) (p0 : Int32) (p1 : Int32) (h0 : Heap) (n0 : Nat) (Z0 : n0 ≤ h0.size) :
    MetFree l (⟨"java/lang/Math", "min", "(II)I"⟩ : MethodName) (head1 (Jvm.Cond.code (⟨"java/lang/Math", "min", "(II)I"⟩ : MethodName) jdk_29_method_69_code 2 (some .int) :: ws) ({ frames := 0, cells := 0, slots := 0, locals := 0 } : Room)) (fun a U => a = #[(.int p0), (.int p1)] ∧ Z.Warmed39 U.vm ∧ U.heap = h0) (fun _ _ _ _ _ => True) (fun _ U o U' => ∃ v L, o = .returned v ∧ Q1 Z p0 p1 h0 n0 v U'.heap L ∧ FrameEnd U o U' L ({ frames := 0, cells := 0, slots := 0, locals := 0 } : Room).cells ({ frames := 0, cells := 0, slots := 0, locals := 0 } : Room).slots) := by
  refine MetFree.of_bodySF (Jvm.Free.JP.mathPlain rfl (by decide +kernel)) hisR ?_
  intro p e s m args below meth c s₁ Bd hml0 hP hK
  obtain ⟨rfl, hZ, hh⟩ := hP
  have hx := Bd.exec
  have hby := Bd.bytes
  have hml : c.maxLocals = 2 := hml0
  have hown : s.vm.findClass "java/lang/Math" = some m.cls := findClass_of_methodNamed Bd.named
  have hnm := (name_of_methodNamed Bd.named Bd.method).1
  have X0 : Stand p l e ({ frames := 0, cells := 0, slots := 0, locals := 0 } : Room) s m #[(.int p0), (.int p1)] below meth c s₁ [] 0 0 := Stand.of_body Bd
  have e0 : s₁.heap = h0 := by rw [← hh, Bd.state]; rfl
  have N0 := Fr.nil n0
  have k0 : own_To p e below s₁ (mkF m 0 #[.val (.int p0), .val (.int p1)] []) s₁ (entryFrame m #[(.int p0), (.int p1)] 2) := fun t k => castTop (own_ef1 m p0 p1) k
  have ki : own_To p e below s₁ (mkF m 0 #[.val (.int p0), .val (.int p1)] []) s₁ (mkF m 0 #[.val (.int p0), .val (.int p1)] []) := fun t q => q
  have k1 : own_To p e below s₁ (mkF m 2 #[.val (.int p0), .val (.int p1)] [(.int p1), (.int p0)]) s₁ (mkF m 0 #[.val (.int p0), .val (.int p1)] []) := fun t q => ki t (by
    refine XS.iloadN X0.here hx rfl (hb hby own_d1_0) rfl ?_
    show Steps p.tables e below (s₁.setTop (mkF m 1 #[.val (.int p0), .val (.int p1)] [(.int p0)])) _
    refine XS.iloadN X0.here hx rfl (hb hby own_d1_1) rfl ?_
    show Steps p.tables e below (s₁.setTop (mkF m 2 #[.val (.int p0), .val (.int p1)] [(.int p1), (.int p0)])) _
    exact q)
  by_cases hc2 : p1 < p0
  ·
    have k3 : own_To p e below s₁ (mkF m 10 #[.val (.int p0), .val (.int p1)] [(.int p1)]) s₁ (mkF m 0 #[.val (.int p0), .val (.int p1)] []) := fun t q => k1 t (by
      refine XS.icmpYes X0.here hx rfl (pc0 := 2) (pc' := 9) rfl (hb hby own_d1_2) rfl (tlt hc2).2.2.1 (by decide) (by decide) ?_
      show Steps p.tables e below (s₁.setTop (mkF m 9 #[.val (.int p0), .val (.int p1)] [])) _
      refine XS.iloadN X0.here hx rfl (hb hby own_d1_9) rfl ?_
      show Steps p.tables e below (s₁.setTop (mkF m 10 #[.val (.int p0), .val (.int p1)] [(.int p1)])) _
      exact q)
    obtain ⟨fs, hr, hrun, hended, hW, hsame⟩ := X0.leave (v := some (.int p1)) (fun h => by rw [Bd.returns] at h; cases h)
    refine ⟨_, _, k0 _ (k3 _ ?_), hrun, hended, _, _, rfl, ?_, ⟨_, rfl⟩, hW, hsame.mono (by decide) (by decide)⟩
    · show Steps p.tables e below (s₁.setTop (mkF m 10 #[.val (.int p0), .val (.int p1)] [(.int p1)])) _
      exact retOut X0 hx Bd.returns rfl (Or.inl ⟨rfl, Or.inl rfl, _, rfl⟩) (hb hby own_d1_10) hr
    · show Q1 Z p0 p1 h0 n0 _ s₁.heap _
      rw [e0]
      exact ⟨by rw [own_min, if_pos hc2], N0, rfl⟩
  ·
    have k4 : own_To p e below s₁ (mkF m 10 #[.val (.int p0), .val (.int p1)] [(.int p0)]) s₁ (mkF m 0 #[.val (.int p0), .val (.int p1)] []) := fun t q => k1 t (by
      refine XS.icmpNo X0.here hx rfl (hb hby own_d1_2) rfl (flt hc2).2.2.1 ?_
      show Steps p.tables e below (s₁.setTop (mkF m 5 #[.val (.int p0), .val (.int p1)] [])) _
      refine XS.iloadN X0.here hx rfl (hb hby own_d1_5) rfl ?_
      show Steps p.tables e below (s₁.setTop (mkF m 6 #[.val (.int p0), .val (.int p1)] [(.int p0)])) _
      refine XS.goto X0.here hx rfl (pc0 := 6) (pc' := 10) rfl (hb hby own_d1_6) (by decide) (by decide) ?_
      show Steps p.tables e below (s₁.setTop (mkF m 10 #[.val (.int p0), .val (.int p1)] [(.int p0)])) _
      exact q)
    obtain ⟨fs, hr, hrun, hended, hW, hsame⟩ := X0.leave (v := some (.int p0)) (fun h => by rw [Bd.returns] at h; cases h)
    refine ⟨_, _, k0 _ (k4 _ ?_), hrun, hended, _, _, rfl, ?_, ⟨_, rfl⟩, hW, hsame.mono (by decide) (by decide)⟩
    · show Steps p.tables e below (s₁.setTop (mkF m 10 #[.val (.int p0), .val (.int p1)] [(.int p0)])) _
      exact retOut X0 hx Bd.returns rfl (Or.inl ⟨rfl, Or.inl rfl, _, rfl⟩) (hb hby own_d1_10) hr
    · show Q1 Z p0 p1 h0 n0 _ s₁.heap _
      rw [e0]
      exact ⟨by rw [own_min, if_neg hc2], N0, rfl⟩
def own_by (x : Int32) : Int32 := nar .byte x.toInt8.toInt32
theorem own_d13_0 : decode jdk_52_method_21_code 0 = .ok (.iconst 0, 1) := by decide +kernel
theorem own_d13_1 : decode jdk_52_method_21_code 1 = .ok (.istore 5, 2) := by decide +kernel
theorem own_d13_3 : decode jdk_52_method_21_code 3 = .ok (.iload 5, 2) := by decide +kernel
theorem own_d13_5 : decode jdk_52_method_21_code 5 = .ok (.iload 4, 2) := by decide +kernel
theorem own_d13_7 : decode jdk_52_method_21_code 7 = .ok (.if_icmp .ge 37, 3) := by decide +kernel
theorem own_d13_10 : decode jdk_52_method_21_code 10 = .ok (.aload_n 0, 1) := by decide +kernel
theorem own_d13_11 : decode jdk_52_method_21_code 11 = .ok (.iload_n 1, 1) := by decide +kernel
theorem own_d13_12 : decode jdk_52_method_21_code 12 = .ok (.caload, 1) := by decide +kernel
theorem own_d13_13 : decode jdk_52_method_21_code 13 = .ok (.istore 6, 2) := by decide +kernel
theorem own_d13_15 : decode jdk_52_method_21_code 15 = .ok (.iload 6, 2) := by decide +kernel
theorem own_d13_17 : decode jdk_52_method_21_code 17 = .ok (.sipush 255, 3) := by decide +kernel
theorem own_d13_20 : decode jdk_52_method_21_code 20 = .ok (.if_icmp .le 6, 3) := by decide +kernel
theorem own_d13_26 : decode jdk_52_method_21_code 26 = .ok (.aload_n 2, 1) := by decide +kernel
theorem own_d13_27 : decode jdk_52_method_21_code 27 = .ok (.iload_n 3, 1) := by decide +kernel
theorem own_d13_28 : decode jdk_52_method_21_code 28 = .ok (.iload 6, 2) := by decide +kernel
theorem own_d13_30 : decode jdk_52_method_21_code 30 = .ok (.i2b, 1) := by decide +kernel
theorem own_d13_31 : decode jdk_52_method_21_code 31 = .ok (.bastore, 1) := by decide +kernel
theorem own_d13_32 : decode jdk_52_method_21_code 32 = .ok (.iinc 1 1, 3) := by decide +kernel
theorem own_d13_35 : decode jdk_52_method_21_code 35 = .ok (.iinc 3 1, 3) := by decide +kernel
theorem own_d13_38 : decode jdk_52_method_21_code 38 = .ok (.iinc 5 1, 3) := by decide +kernel
theorem own_d13_41 : decode jdk_52_method_21_code 41 = .ok (.goto (-38), 3) := by decide +kernel
theorem own_d13_44 : decode jdk_52_method_21_code 44 = .ok (.iload 4, 2) := by decide +kernel
theorem own_d13_46 : decode jdk_52_method_21_code 46 = .ok (.ireturn, 1) := by decide +kernel
theorem own_pn13 : plainName "java/lang/StringUTF16" = true := by first | (simp [plainName, overriddenIn]; done) | decide +kernel
theorem own_efC1 (m : MethodId) (x0 : Addr) (x2 : Addr) : entryFrame m #[(.ref x0), (.int (0 : Int32)), (.ref x2), (.int (0 : Int32)), (.int (1 : Int32))] 7 = mkF m 0 #[.val (.ref x0), .val (.int (0 : Int32)), .val (.ref x2), .val (.int (0 : Int32)), .val (.int (1 : Int32)), .unset, .unset] [] := by first | (simp [entryFrame, mkF, argsToLocals, Value.category]; done) | rfl
def QC1 (Z : State) (a0_ : Addr) (a2 : Addr) (kc_ : ClassId) (kb_ : ClassId) (x0 : Int32) (h0 : Heap) (n0 : Nat) (v : Option Value) (h : Heap) (L : List Loc) : Prop := v = some (.int (1 : Int32)) ∧ Fr n0 L ∧ Keep h0 h [a2] ∧ Arv Z h a2 kb_ .byte (1 : Int32) [(.int (own_by x0))] (.int (0 : Int32))
set_option maxRecDepth 65536 in
set_option maxHeartbeats 40000000 in
theorem rmC1 (l : Launch) (Z : State) (a0 : Array Value) (hw : ∀ d ∈ tables_1, d.before a0 Z = true) (ws : List Jvm.Cond) (a0_ : Addr) (a2 : Addr) (kc_ : ClassId) (kb_ : ClassId) (x0 : Int32) (h0 : Heap) (n0 : Nat) (Z0 : n0 ≤ h0.size) (V0 : Arv Z h0 a0_ kc_ .char (1 : Int32) [(.int x0)] (.int (0 : Int32))) (V2 : Arv Z h0 a2 kb_ .byte (1 : Int32) [(.int (0 : Int32))] (.int (0 : Int32))) (g_ : n0 ≤ a2) (ne_ : a0_ ≠ a2) (hx0 : ¬ (255 : Int32) < x0) :
    MetFree l (⟨"java/lang/StringUTF16", "compress", "([CI[BII)I"⟩ : MethodName) (head1 (Jvm.Cond.code (⟨"java/lang/StringUTF16", "compress", "([CI[BII)I"⟩ : MethodName) jdk_52_method_21_code 7 (some .int) :: ws) ({ frames := 0, cells := 0, slots := 0, locals := 0 } : Room)) (fun a U => a = #[(.ref a0_), (.int (0 : Int32)), (.ref a2), (.int (0 : Int32)), (.int (1 : Int32))] ∧ Z.Warmed39 U.vm ∧ U.heap = h0) (fun _ _ _ _ _ => True) (fun _ U o U' => ∃ v L, o = .returned v ∧ QC1 Z a0_ a2 kc_ kb_ x0 h0 n0 v U'.heap L ∧ FrameEnd U o U' L ({ frames := 0, cells := 0, slots := 0, locals := 0 } : Room).cells ({ frames := 0, cells := 0, slots := 0, locals := 0 } : Room).slots) := by
  refine MetFree.of_bodySF (plainFor_of_name own_pn13) hisR ?_
  intro p e s m args below meth c s₁ Bd hml0 hP hK
  obtain ⟨rfl, hZ, hh⟩ := hP
  have hx := Bd.exec
  have hby := Bd.bytes
  have hml : c.maxLocals = 7 := hml0
  have hown : s.vm.findClass "java/lang/StringUTF16" = some m.cls := findClass_of_methodNamed Bd.named
  have hnm := (name_of_methodNamed Bd.named Bd.method).1
  have X0 : Stand p l e ({ frames := 0, cells := 0, slots := 0, locals := 0 } : Room) s m #[(.ref a0_), (.int (0 : Int32)), (.ref a2), (.int (0 : Int32)), (.int (1 : Int32))] below meth c s₁ [] 0 0 := Stand.of_body Bd
  have e0 : s₁.heap = h0 := by rw [← hh, Bd.state]; rfl
  have N0 := Fr.nil n0
  have k0 : own_To p e below s₁ (mkF m 0 #[.val (.ref a0_), .val (.int (0 : Int32)), .val (.ref a2), .val (.int (0 : Int32)), .val (.int (1 : Int32)), .unset, .unset] []) s₁ (entryFrame m #[(.ref a0_), (.int (0 : Int32)), (.ref a2), (.int (0 : Int32)), (.int (1 : Int32))] 7) := fun t k => castTop (own_efC1 m a0_ a2) k
  have ki : own_To p e below s₁ (mkF m 0 #[.val (.ref a0_), .val (.int (0 : Int32)), .val (.ref a2), .val (.int (0 : Int32)), .val (.int (1 : Int32)), .unset, .unset] []) s₁ (mkF m 0 #[.val (.ref a0_), .val (.int (0 : Int32)), .val (.ref a2), .val (.int (0 : Int32)), .val (.int (1 : Int32)), .unset, .unset] []) := fun t q => q
  obtain ⟨clr1, Arr1, qr1, Sr1, Mr1, Hhr1, Gr1⟩ := id V0
  have hinr1 : ¬ ((0 : Int32) < 0 ∨ clr1.slots.size ≤ ((0 : Int32)).toNatClampNeg) := inb_of Sr1 ⟨by decide, by decide⟩
  have hatr1 : clr1.slots[((0 : Int32)).toNatClampNeg]? = some (.int x0) := Has.at Hhr1 hinr1 rfl
  have k2 : own_To p e below s₁ (mkF m 26 #[.val (.ref a0_), .val (.int (0 : Int32)), .val (.ref a2), .val (.int (0 : Int32)), .val (.int (1 : Int32)), .val (.int (0 : Int32)), .val (.int x0)] []) s₁ (mkF m 0 #[.val (.ref a0_), .val (.int (0 : Int32)), .val (.ref a2), .val (.int (0 : Int32)), .val (.int (1 : Int32)), .unset, .unset] []) := fun t q => ki t (by
    refine XS.iconst X0.here hx rfl (hb hby own_d13_0) ?_
    show Steps p.tables e below (s₁.setTop (mkF m 1 #[.val (.ref a0_), .val (.int (0 : Int32)), .val (.ref a2), .val (.int (0 : Int32)), .val (.int (1 : Int32)), .unset, .unset] [(.int (0 : Int32))])) _
    refine XS.istore X0.here hx rfl (hb hby own_d13_1) rfl (l' := #[.val (.ref a0_), .val (.int (0 : Int32)), .val (.ref a2), .val (.int (0 : Int32)), .val (.int (1 : Int32)), .val (.int (0 : Int32)), .unset]) rfl ?_
    show Steps p.tables e below (s₁.setTop (mkF m 3 #[.val (.ref a0_), .val (.int (0 : Int32)), .val (.ref a2), .val (.int (0 : Int32)), .val (.int (1 : Int32)), .val (.int (0 : Int32)), .unset] [])) _
    refine XS.iload X0.here hx rfl (hb hby own_d13_3) rfl ?_
    show Steps p.tables e below (s₁.setTop (mkF m 5 #[.val (.ref a0_), .val (.int (0 : Int32)), .val (.ref a2), .val (.int (0 : Int32)), .val (.int (1 : Int32)), .val (.int (0 : Int32)), .unset] [(.int (0 : Int32))])) _
    refine XS.iload X0.here hx rfl (hb hby own_d13_5) rfl ?_
    show Steps p.tables e below (s₁.setTop (mkF m 7 #[.val (.ref a0_), .val (.int (0 : Int32)), .val (.ref a2), .val (.int (0 : Int32)), .val (.int (1 : Int32)), .val (.int (0 : Int32)), .unset] [(.int (1 : Int32)), (.int (0 : Int32))])) _
    refine XS.icmpNo X0.here hx rfl (hb hby own_d13_7) rfl (tlt (by decide)).2.1 ?_
    show Steps p.tables e below (s₁.setTop (mkF m 10 #[.val (.ref a0_), .val (.int (0 : Int32)), .val (.ref a2), .val (.int (0 : Int32)), .val (.int (1 : Int32)), .val (.int (0 : Int32)), .unset] [])) _
    refine XS.aloadN X0.here hx rfl (hb hby own_d13_10) rfl rfl ?_
    show Steps p.tables e below (s₁.setTop (mkF m 11 #[.val (.ref a0_), .val (.int (0 : Int32)), .val (.ref a2), .val (.int (0 : Int32)), .val (.int (1 : Int32)), .val (.int (0 : Int32)), .unset] [(.ref a0_)])) _
    refine XS.iloadN X0.here hx rfl (hb hby own_d13_11) rfl ?_
    show Steps p.tables e below (s₁.setTop (mkF m 12 #[.val (.ref a0_), .val (.int (0 : Int32)), .val (.ref a2), .val (.int (0 : Int32)), .val (.int (1 : Int32)), .val (.int (0 : Int32)), .unset] [(.int (0 : Int32)), (.ref a0_)])) _
    refine X0.caload hx (j := (0 : Int32)) (v := (.int x0)) (by rw [e0]; exact Arr1.1) (State.isArrayOf_alike hZ.alike Arr1.2.1) Arr1.2.2 hinr1 hatr1 (g := (mkF m 12 #[.val (.ref a0_), .val (.int (0 : Int32)), .val (.ref a2), .val (.int (0 : Int32)), .val (.int (1 : Int32)), .val (.int (0 : Int32)), .unset] [(.int (0 : Int32)), (.ref a0_)])) rfl rfl (hb hby own_d13_12) _ ?_
    show Steps p.tables e below (s₁.setTop (mkF m 13 #[.val (.ref a0_), .val (.int (0 : Int32)), .val (.ref a2), .val (.int (0 : Int32)), .val (.int (1 : Int32)), .val (.int (0 : Int32)), .unset] [(.int x0)])) _
    refine XS.istore X0.here hx rfl (hb hby own_d13_13) rfl (l' := #[.val (.ref a0_), .val (.int (0 : Int32)), .val (.ref a2), .val (.int (0 : Int32)), .val (.int (1 : Int32)), .val (.int (0 : Int32)), .val (.int x0)]) rfl ?_
    show Steps p.tables e below (s₁.setTop (mkF m 15 #[.val (.ref a0_), .val (.int (0 : Int32)), .val (.ref a2), .val (.int (0 : Int32)), .val (.int (1 : Int32)), .val (.int (0 : Int32)), .val (.int x0)] [])) _
    refine XS.iload X0.here hx rfl (hb hby own_d13_15) rfl ?_
    show Steps p.tables e below (s₁.setTop (mkF m 17 #[.val (.ref a0_), .val (.int (0 : Int32)), .val (.ref a2), .val (.int (0 : Int32)), .val (.int (1 : Int32)), .val (.int (0 : Int32)), .val (.int x0)] [(.int x0)])) _
    refine XS.sipush X0.here hx rfl (hb hby own_d13_17) ?_
    show Steps p.tables e below (s₁.setTop (mkF m 20 #[.val (.ref a0_), .val (.int (0 : Int32)), .val (.ref a2), .val (.int (0 : Int32)), .val (.int (1 : Int32)), .val (.int (0 : Int32)), .val (.int x0)] [(.int (255 : Int32)), (.int x0)])) _
    refine XS.icmpYes X0.here hx rfl (pc0 := 20) (pc' := 26) rfl (hb hby own_d13_20) rfl (flt hx0).2.2.2 (by decide) (by decide) ?_
    show Steps p.tables e below (s₁.setTop (mkF m 26 #[.val (.ref a0_), .val (.int (0 : Int32)), .val (.ref a2), .val (.int (0 : Int32)), .val (.int (1 : Int32)), .val (.int (0 : Int32)), .val (.int x0)] [])) _
    exact q)
  obtain ⟨clr3, Arr3, qr3, Sr3, Mr3, Hhr3, Gr3⟩ := id V2
  have hinr3 : ¬ ((0 : Int32) < 0 ∨ clr3.slots.size ≤ ((0 : Int32)).toNatClampNeg) := inb_of Sr3 ⟨by decide, by decide⟩
  obtain ⟨T4, h4, X4, e4, W4, st4⟩ := stB X0 hx hZ e0 Arr3 (j := (0 : Int32)) hinr3 (g := (mkF m 31 #[.val (.ref a0_), .val (.int (0 : Int32)), .val (.ref a2), .val (.int (0 : Int32)), .val (.int (1 : Int32)), .val (.int (0 : Int32)), .val (.int x0)] [(.int (x0.toInt8.toInt32)), (.int (0 : Int32)), (.ref a2)])) rfl rfl (hb hby own_d13_31)
  have N4 := Fr.snoc X4 N0 g_
  obtain ⟨Lf4, Nf4, Xf4⟩ := own_fold X4 N4
  have V4 : Arv Z h4 a2 kb_ .byte (1 : Int32) [(.int (nar .byte (x0.toInt8.toInt32)))] (.int (0 : Int32)) := Arv.set Arr3 qr3 Sr3 Mr3 Hhr3 Gr3 (fits_nar_byte _) W4 0 rfl (Nat.le_of_ble_eq_true rfl)
  have k5 : own_To p e below T4 (mkF m 44 #[.val (.ref a0_), .val (.int (1 : Int32)), .val (.ref a2), .val (.int (1 : Int32)), .val (.int (1 : Int32)), .val (.int (1 : Int32)), .val (.int x0)] []) s₁ (mkF m 0 #[.val (.ref a0_), .val (.int (0 : Int32)), .val (.ref a2), .val (.int (0 : Int32)), .val (.int (1 : Int32)), .unset, .unset] []) := fun t q => k2 t (by
    refine XS.aloadN X0.here hx rfl (hb hby own_d13_26) rfl rfl ?_
    show Steps p.tables e below (s₁.setTop (mkF m 27 #[.val (.ref a0_), .val (.int (0 : Int32)), .val (.ref a2), .val (.int (0 : Int32)), .val (.int (1 : Int32)), .val (.int (0 : Int32)), .val (.int x0)] [(.ref a2)])) _
    refine XS.iloadN X0.here hx rfl (hb hby own_d13_27) rfl ?_
    show Steps p.tables e below (s₁.setTop (mkF m 28 #[.val (.ref a0_), .val (.int (0 : Int32)), .val (.ref a2), .val (.int (0 : Int32)), .val (.int (1 : Int32)), .val (.int (0 : Int32)), .val (.int x0)] [(.int (0 : Int32)), (.ref a2)])) _
    refine XS.iload X0.here hx rfl (hb hby own_d13_28) rfl ?_
    show Steps p.tables e below (s₁.setTop (mkF m 30 #[.val (.ref a0_), .val (.int (0 : Int32)), .val (.ref a2), .val (.int (0 : Int32)), .val (.int (1 : Int32)), .val (.int (0 : Int32)), .val (.int x0)] [(.int x0), (.int (0 : Int32)), (.ref a2)])) _
    refine XS.i2b X0.here hx rfl (hb hby own_d13_30) rfl ?_
    show Steps p.tables e below (s₁.setTop (mkF m 31 #[.val (.ref a0_), .val (.int (0 : Int32)), .val (.ref a2), .val (.int (0 : Int32)), .val (.int (1 : Int32)), .val (.int (0 : Int32)), .val (.int x0)] [(.int (x0.toInt8.toInt32)), (.int (0 : Int32)), (.ref a2)])) _
    refine st4 _ ?_
    show Steps p.tables e below (T4.setTop (mkF m 32 #[.val (.ref a0_), .val (.int (0 : Int32)), .val (.ref a2), .val (.int (0 : Int32)), .val (.int (1 : Int32)), .val (.int (0 : Int32)), .val (.int x0)] [])) _
    refine XS.iinc Xf4.here hx rfl (hb hby own_d13_32) rfl (l' := #[.val (.ref a0_), .val (.int (1 : Int32)), .val (.ref a2), .val (.int (0 : Int32)), .val (.int (1 : Int32)), .val (.int (0 : Int32)), .val (.int x0)]) rfl ?_
    show Steps p.tables e below (T4.setTop (mkF m 35 #[.val (.ref a0_), .val (.int (1 : Int32)), .val (.ref a2), .val (.int (0 : Int32)), .val (.int (1 : Int32)), .val (.int (0 : Int32)), .val (.int x0)] [])) _
    refine XS.iinc Xf4.here hx rfl (hb hby own_d13_35) rfl (l' := #[.val (.ref a0_), .val (.int (1 : Int32)), .val (.ref a2), .val (.int (1 : Int32)), .val (.int (1 : Int32)), .val (.int (0 : Int32)), .val (.int x0)]) rfl ?_
    show Steps p.tables e below (T4.setTop (mkF m 38 #[.val (.ref a0_), .val (.int (1 : Int32)), .val (.ref a2), .val (.int (1 : Int32)), .val (.int (1 : Int32)), .val (.int (0 : Int32)), .val (.int x0)] [])) _
    refine XS.iinc Xf4.here hx rfl (hb hby own_d13_38) rfl (l' := #[.val (.ref a0_), .val (.int (1 : Int32)), .val (.ref a2), .val (.int (1 : Int32)), .val (.int (1 : Int32)), .val (.int (1 : Int32)), .val (.int x0)]) rfl ?_
    show Steps p.tables e below (T4.setTop (mkF m 41 #[.val (.ref a0_), .val (.int (1 : Int32)), .val (.ref a2), .val (.int (1 : Int32)), .val (.int (1 : Int32)), .val (.int (1 : Int32)), .val (.int x0)] [])) _
    refine XS.goto Xf4.here hx rfl (pc0 := 41) (pc' := 3) rfl (hb hby own_d13_41) (by decide) (by decide) ?_
    show Steps p.tables e below (T4.setTop (mkF m 3 #[.val (.ref a0_), .val (.int (1 : Int32)), .val (.ref a2), .val (.int (1 : Int32)), .val (.int (1 : Int32)), .val (.int (1 : Int32)), .val (.int x0)] [])) _
    refine XS.iload Xf4.here hx rfl (hb hby own_d13_3) rfl ?_
    show Steps p.tables e below (T4.setTop (mkF m 5 #[.val (.ref a0_), .val (.int (1 : Int32)), .val (.ref a2), .val (.int (1 : Int32)), .val (.int (1 : Int32)), .val (.int (1 : Int32)), .val (.int x0)] [(.int (1 : Int32))])) _
    refine XS.iload Xf4.here hx rfl (hb hby own_d13_5) rfl ?_
    show Steps p.tables e below (T4.setTop (mkF m 7 #[.val (.ref a0_), .val (.int (1 : Int32)), .val (.ref a2), .val (.int (1 : Int32)), .val (.int (1 : Int32)), .val (.int (1 : Int32)), .val (.int x0)] [(.int (1 : Int32)), (.int (1 : Int32))])) _
    refine XS.icmpYes Xf4.here hx rfl (pc0 := 7) (pc' := 44) rfl (hb hby own_d13_7) rfl (flt (by decide)).2.1 (by decide) (by decide) ?_
    show Steps p.tables e below (T4.setTop (mkF m 44 #[.val (.ref a0_), .val (.int (1 : Int32)), .val (.ref a2), .val (.int (1 : Int32)), .val (.int (1 : Int32)), .val (.int (1 : Int32)), .val (.int x0)] [])) _
    exact q)
  have K6 : Keep h0 h4 [a2] := ((Keep.refl h0 [a2]).wr W4 (Or.inl (List.mem_of_getElem? (i := 0) rfl)))
  have k7 : own_To p e below T4 (mkF m 46 #[.val (.ref a0_), .val (.int (1 : Int32)), .val (.ref a2), .val (.int (1 : Int32)), .val (.int (1 : Int32)), .val (.int (1 : Int32)), .val (.int x0)] [(.int (1 : Int32))]) s₁ (mkF m 0 #[.val (.ref a0_), .val (.int (0 : Int32)), .val (.ref a2), .val (.int (0 : Int32)), .val (.int (1 : Int32)), .unset, .unset] []) := fun t q => k5 t (by
    refine XS.iload Xf4.here hx rfl (hb hby own_d13_44) rfl ?_
    show Steps p.tables e below (T4.setTop (mkF m 46 #[.val (.ref a0_), .val (.int (1 : Int32)), .val (.ref a2), .val (.int (1 : Int32)), .val (.int (1 : Int32)), .val (.int (1 : Int32)), .val (.int x0)] [(.int (1 : Int32))])) _
    exact q)
  obtain ⟨fs, hr, hrun, hended, hW, hsame⟩ := Xf4.leave (v := some (.int (1 : Int32))) (fun h => by rw [Bd.returns] at h; cases h)
  refine ⟨_, _, k0 _ (k7 _ ?_), hrun, hended, _, _, rfl, ?_, ⟨_, rfl⟩, hW, hsame.mono (by decide) (by decide)⟩
  · show Steps p.tables e below (T4.setTop (mkF m 46 #[.val (.ref a0_), .val (.int (1 : Int32)), .val (.ref a2), .val (.int (1 : Int32)), .val (.int (1 : Int32)), .val (.int (1 : Int32)), .val (.int x0)] [(.int (1 : Int32))])) _
    exact retOut Xf4 hx Bd.returns rfl (Or.inl ⟨rfl, Or.inl rfl, _, rfl⟩) (hb hby own_d13_46) hr
  · show QC1 Z a0_ a2 kc_ kb_ x0 h0 n0 _ T4.heap _
    rw [e4]
    exact ⟨rfl, Nf4, K6, V4⟩
theorem own_efC2 (m : MethodId) (x0 : Addr) (x2 : Addr) : entryFrame m #[(.ref x0), (.int (0 : Int32)), (.ref x2), (.int (0 : Int32)), (.int (2 : Int32))] 7 = mkF m 0 #[.val (.ref x0), .val (.int (0 : Int32)), .val (.ref x2), .val (.int (0 : Int32)), .val (.int (2 : Int32)), .unset, .unset] [] := by first | (simp [entryFrame, mkF, argsToLocals, Value.category]; done) | rfl
def QC2 (Z : State) (a0_ : Addr) (a2 : Addr) (kc_ : ClassId) (kb_ : ClassId) (x0 : Int32) (x1 : Int32) (h0 : Heap) (n0 : Nat) (v : Option Value) (h : Heap) (L : List Loc) : Prop := v = some (.int (2 : Int32)) ∧ Fr n0 L ∧ Keep h0 h [a2] ∧ Arv Z h a2 kb_ .byte (2 : Int32) [(.int (own_by x0)), (.int (own_by x1))] (.int (0 : Int32))
set_option maxRecDepth 65536 in
set_option maxHeartbeats 40000000 in
theorem rmC2 (l : Launch) (Z : State) (a0 : Array Value) (hw : ∀ d ∈ tables_1, d.before a0 Z = true) (ws : List Jvm.Cond) (a0_ : Addr) (a2 : Addr) (kc_ : ClassId) (kb_ : ClassId) (x0 : Int32) (x1 : Int32) (h0 : Heap) (n0 : Nat) (Z0 : n0 ≤ h0.size) (V0 : Arv Z h0 a0_ kc_ .char (2 : Int32) [(.int x0), (.int x1)] (.int (0 : Int32))) (V2 : Arv Z h0 a2 kb_ .byte (2 : Int32) [(.int (0 : Int32)), (.int (0 : Int32))] (.int (0 : Int32))) (g_ : n0 ≤ a2) (ne_ : a0_ ≠ a2) (hx0 : ¬ (255 : Int32) < x0) (hx1 : ¬ (255 : Int32) < x1) :
    MetFree l (⟨"java/lang/StringUTF16", "compress", "([CI[BII)I"⟩ : MethodName) (head1 (Jvm.Cond.code (⟨"java/lang/StringUTF16", "compress", "([CI[BII)I"⟩ : MethodName) jdk_52_method_21_code 7 (some .int) :: ws) ({ frames := 0, cells := 0, slots := 0, locals := 0 } : Room)) (fun a U => a = #[(.ref a0_), (.int (0 : Int32)), (.ref a2), (.int (0 : Int32)), (.int (2 : Int32))] ∧ Z.Warmed39 U.vm ∧ U.heap = h0) (fun _ _ _ _ _ => True) (fun _ U o U' => ∃ v L, o = .returned v ∧ QC2 Z a0_ a2 kc_ kb_ x0 x1 h0 n0 v U'.heap L ∧ FrameEnd U o U' L ({ frames := 0, cells := 0, slots := 0, locals := 0 } : Room).cells ({ frames := 0, cells := 0, slots := 0, locals := 0 } : Room).slots) := by
  refine MetFree.of_bodySF (plainFor_of_name own_pn13) hisR ?_
  intro p e s m args below meth c s₁ Bd hml0 hP hK
  obtain ⟨rfl, hZ, hh⟩ := hP
  have hx := Bd.exec
  have hby := Bd.bytes
  have hml : c.maxLocals = 7 := hml0
  have hown : s.vm.findClass "java/lang/StringUTF16" = some m.cls := findClass_of_methodNamed Bd.named
  have hnm := (name_of_methodNamed Bd.named Bd.method).1
  have X0 : Stand p l e ({ frames := 0, cells := 0, slots := 0, locals := 0 } : Room) s m #[(.ref a0_), (.int (0 : Int32)), (.ref a2), (.int (0 : Int32)), (.int (2 : Int32))] below meth c s₁ [] 0 0 := Stand.of_body Bd
  have e0 : s₁.heap = h0 := by rw [← hh, Bd.state]; rfl
  have N0 := Fr.nil n0
  have k0 : own_To p e below s₁ (mkF m 0 #[.val (.ref a0_), .val (.int (0 : Int32)), .val (.ref a2), .val (.int (0 : Int32)), .val (.int (2 : Int32)), .unset, .unset] []) s₁ (entryFrame m #[(.ref a0_), (.int (0 : Int32)), (.ref a2), (.int (0 : Int32)), (.int (2 : Int32))] 7) := fun t k => castTop (own_efC2 m a0_ a2) k
  have ki : own_To p e below s₁ (mkF m 0 #[.val (.ref a0_), .val (.int (0 : Int32)), .val (.ref a2), .val (.int (0 : Int32)), .val (.int (2 : Int32)), .unset, .unset] []) s₁ (mkF m 0 #[.val (.ref a0_), .val (.int (0 : Int32)), .val (.ref a2), .val (.int (0 : Int32)), .val (.int (2 : Int32)), .unset, .unset] []) := fun t q => q
  obtain ⟨clr1, Arr1, qr1, Sr1, Mr1, Hhr1, Gr1⟩ := id V0
  have hinr1 : ¬ ((0 : Int32) < 0 ∨ clr1.slots.size ≤ ((0 : Int32)).toNatClampNeg) := inb_of Sr1 ⟨by decide, by decide⟩
  have hatr1 : clr1.slots[((0 : Int32)).toNatClampNeg]? = some (.int x0) := Has.at Hhr1 hinr1 rfl
  have k2 : own_To p e below s₁ (mkF m 26 #[.val (.ref a0_), .val (.int (0 : Int32)), .val (.ref a2), .val (.int (0 : Int32)), .val (.int (2 : Int32)), .val (.int (0 : Int32)), .val (.int x0)] []) s₁ (mkF m 0 #[.val (.ref a0_), .val (.int (0 : Int32)), .val (.ref a2), .val (.int (0 : Int32)), .val (.int (2 : Int32)), .unset, .unset] []) := fun t q => ki t (by
    refine XS.iconst X0.here hx rfl (hb hby own_d13_0) ?_
    show Steps p.tables e below (s₁.setTop (mkF m 1 #[.val (.ref a0_), .val (.int (0 : Int32)), .val (.ref a2), .val (.int (0 : Int32)), .val (.int (2 : Int32)), .unset, .unset] [(.int (0 : Int32))])) _
    refine XS.istore X0.here hx rfl (hb hby own_d13_1) rfl (l' := #[.val (.ref a0_), .val (.int (0 : Int32)), .val (.ref a2), .val (.int (0 : Int32)), .val (.int (2 : Int32)), .val (.int (0 : Int32)), .unset]) rfl ?_
    show Steps p.tables e below (s₁.setTop (mkF m 3 #[.val (.ref a0_), .val (.int (0 : Int32)), .val (.ref a2), .val (.int (0 : Int32)), .val (.int (2 : Int32)), .val (.int (0 : Int32)), .unset] [])) _
    refine XS.iload X0.here hx rfl (hb hby own_d13_3) rfl ?_
    show Steps p.tables e below (s₁.setTop (mkF m 5 #[.val (.ref a0_), .val (.int (0 : Int32)), .val (.ref a2), .val (.int (0 : Int32)), .val (.int (2 : Int32)), .val (.int (0 : Int32)), .unset] [(.int (0 : Int32))])) _
    refine XS.iload X0.here hx rfl (hb hby own_d13_5) rfl ?_
    show Steps p.tables e below (s₁.setTop (mkF m 7 #[.val (.ref a0_), .val (.int (0 : Int32)), .val (.ref a2), .val (.int (0 : Int32)), .val (.int (2 : Int32)), .val (.int (0 : Int32)), .unset] [(.int (2 : Int32)), (.int (0 : Int32))])) _
    refine XS.icmpNo X0.here hx rfl (hb hby own_d13_7) rfl (tlt (by decide)).2.1 ?_
    show Steps p.tables e below (s₁.setTop (mkF m 10 #[.val (.ref a0_), .val (.int (0 : Int32)), .val (.ref a2), .val (.int (0 : Int32)), .val (.int (2 : Int32)), .val (.int (0 : Int32)), .unset] [])) _
    refine XS.aloadN X0.here hx rfl (hb hby own_d13_10) rfl rfl ?_
    show Steps p.tables e below (s₁.setTop (mkF m 11 #[.val (.ref a0_), .val (.int (0 : Int32)), .val (.ref a2), .val (.int (0 : Int32)), .val (.int (2 : Int32)), .val (.int (0 : Int32)), .unset] [(.ref a0_)])) _
    refine XS.iloadN X0.here hx rfl (hb hby own_d13_11) rfl ?_
    show Steps p.tables e below (s₁.setTop (mkF m 12 #[.val (.ref a0_), .val (.int (0 : Int32)), .val (.ref a2), .val (.int (0 : Int32)), .val (.int (2 : Int32)), .val (.int (0 : Int32)), .unset] [(.int (0 : Int32)), (.ref a0_)])) _
    refine X0.caload hx (j := (0 : Int32)) (v := (.int x0)) (by rw [e0]; exact Arr1.1) (State.isArrayOf_alike hZ.alike Arr1.2.1) Arr1.2.2 hinr1 hatr1 (g := (mkF m 12 #[.val (.ref a0_), .val (.int (0 : Int32)), .val (.ref a2), .val (.int (0 : Int32)), .val (.int (2 : Int32)), .val (.int (0 : Int32)), .unset] [(.int (0 : Int32)), (.ref a0_)])) rfl rfl (hb hby own_d13_12) _ ?_
    show Steps p.tables e below (s₁.setTop (mkF m 13 #[.val (.ref a0_), .val (.int (0 : Int32)), .val (.ref a2), .val (.int (0 : Int32)), .val (.int (2 : Int32)), .val (.int (0 : Int32)), .unset] [(.int x0)])) _
    refine XS.istore X0.here hx rfl (hb hby own_d13_13) rfl (l' := #[.val (.ref a0_), .val (.int (0 : Int32)), .val (.ref a2), .val (.int (0 : Int32)), .val (.int (2 : Int32)), .val (.int (0 : Int32)), .val (.int x0)]) rfl ?_
    show Steps p.tables e below (s₁.setTop (mkF m 15 #[.val (.ref a0_), .val (.int (0 : Int32)), .val (.ref a2), .val (.int (0 : Int32)), .val (.int (2 : Int32)), .val (.int (0 : Int32)), .val (.int x0)] [])) _
    refine XS.iload X0.here hx rfl (hb hby own_d13_15) rfl ?_
    show Steps p.tables e below (s₁.setTop (mkF m 17 #[.val (.ref a0_), .val (.int (0 : Int32)), .val (.ref a2), .val (.int (0 : Int32)), .val (.int (2 : Int32)), .val (.int (0 : Int32)), .val (.int x0)] [(.int x0)])) _
    refine XS.sipush X0.here hx rfl (hb hby own_d13_17) ?_
    show Steps p.tables e below (s₁.setTop (mkF m 20 #[.val (.ref a0_), .val (.int (0 : Int32)), .val (.ref a2), .val (.int (0 : Int32)), .val (.int (2 : Int32)), .val (.int (0 : Int32)), .val (.int x0)] [(.int (255 : Int32)), (.int x0)])) _
    refine XS.icmpYes X0.here hx rfl (pc0 := 20) (pc' := 26) rfl (hb hby own_d13_20) rfl (flt hx0).2.2.2 (by decide) (by decide) ?_
    show Steps p.tables e below (s₁.setTop (mkF m 26 #[.val (.ref a0_), .val (.int (0 : Int32)), .val (.ref a2), .val (.int (0 : Int32)), .val (.int (2 : Int32)), .val (.int (0 : Int32)), .val (.int x0)] [])) _
    exact q)
  obtain ⟨clr3, Arr3, qr3, Sr3, Mr3, Hhr3, Gr3⟩ := id V2
  have hinr3 : ¬ ((0 : Int32) < 0 ∨ clr3.slots.size ≤ ((0 : Int32)).toNatClampNeg) := inb_of Sr3 ⟨by decide, by decide⟩
  obtain ⟨T4, h4, X4, e4, W4, st4⟩ := stB X0 hx hZ e0 Arr3 (j := (0 : Int32)) hinr3 (g := (mkF m 31 #[.val (.ref a0_), .val (.int (0 : Int32)), .val (.ref a2), .val (.int (0 : Int32)), .val (.int (2 : Int32)), .val (.int (0 : Int32)), .val (.int x0)] [(.int (x0.toInt8.toInt32)), (.int (0 : Int32)), (.ref a2)])) rfl rfl (hb hby own_d13_31)
  have N4 := Fr.snoc X4 N0 g_
  obtain ⟨Lf4, Nf4, Xf4⟩ := own_fold X4 N4
  have V4 : Arv Z h4 a2 kb_ .byte (2 : Int32) [(.int (nar .byte (x0.toInt8.toInt32))), (.int (0 : Int32))] (.int (0 : Int32)) := Arv.set Arr3 qr3 Sr3 Mr3 Hhr3 Gr3 (fits_nar_byte _) W4 0 rfl (Nat.le_of_ble_eq_true rfl)
  have k5 : own_To p e below T4 (mkF m 10 #[.val (.ref a0_), .val (.int (1 : Int32)), .val (.ref a2), .val (.int (1 : Int32)), .val (.int (2 : Int32)), .val (.int (1 : Int32)), .val (.int x0)] []) s₁ (mkF m 0 #[.val (.ref a0_), .val (.int (0 : Int32)), .val (.ref a2), .val (.int (0 : Int32)), .val (.int (2 : Int32)), .unset, .unset] []) := fun t q => k2 t (by
    refine XS.aloadN X0.here hx rfl (hb hby own_d13_26) rfl rfl ?_
    show Steps p.tables e below (s₁.setTop (mkF m 27 #[.val (.ref a0_), .val (.int (0 : Int32)), .val (.ref a2), .val (.int (0 : Int32)), .val (.int (2 : Int32)), .val (.int (0 : Int32)), .val (.int x0)] [(.ref a2)])) _
    refine XS.iloadN X0.here hx rfl (hb hby own_d13_27) rfl ?_
    show Steps p.tables e below (s₁.setTop (mkF m 28 #[.val (.ref a0_), .val (.int (0 : Int32)), .val (.ref a2), .val (.int (0 : Int32)), .val (.int (2 : Int32)), .val (.int (0 : Int32)), .val (.int x0)] [(.int (0 : Int32)), (.ref a2)])) _
    refine XS.iload X0.here hx rfl (hb hby own_d13_28) rfl ?_
    show Steps p.tables e below (s₁.setTop (mkF m 30 #[.val (.ref a0_), .val (.int (0 : Int32)), .val (.ref a2), .val (.int (0 : Int32)), .val (.int (2 : Int32)), .val (.int (0 : Int32)), .val (.int x0)] [(.int x0), (.int (0 : Int32)), (.ref a2)])) _
    refine XS.i2b X0.here hx rfl (hb hby own_d13_30) rfl ?_
    show Steps p.tables e below (s₁.setTop (mkF m 31 #[.val (.ref a0_), .val (.int (0 : Int32)), .val (.ref a2), .val (.int (0 : Int32)), .val (.int (2 : Int32)), .val (.int (0 : Int32)), .val (.int x0)] [(.int (x0.toInt8.toInt32)), (.int (0 : Int32)), (.ref a2)])) _
    refine st4 _ ?_
    show Steps p.tables e below (T4.setTop (mkF m 32 #[.val (.ref a0_), .val (.int (0 : Int32)), .val (.ref a2), .val (.int (0 : Int32)), .val (.int (2 : Int32)), .val (.int (0 : Int32)), .val (.int x0)] [])) _
    refine XS.iinc Xf4.here hx rfl (hb hby own_d13_32) rfl (l' := #[.val (.ref a0_), .val (.int (1 : Int32)), .val (.ref a2), .val (.int (0 : Int32)), .val (.int (2 : Int32)), .val (.int (0 : Int32)), .val (.int x0)]) rfl ?_
    show Steps p.tables e below (T4.setTop (mkF m 35 #[.val (.ref a0_), .val (.int (1 : Int32)), .val (.ref a2), .val (.int (0 : Int32)), .val (.int (2 : Int32)), .val (.int (0 : Int32)), .val (.int x0)] [])) _
    refine XS.iinc Xf4.here hx rfl (hb hby own_d13_35) rfl (l' := #[.val (.ref a0_), .val (.int (1 : Int32)), .val (.ref a2), .val (.int (1 : Int32)), .val (.int (2 : Int32)), .val (.int (0 : Int32)), .val (.int x0)]) rfl ?_
    show Steps p.tables e below (T4.setTop (mkF m 38 #[.val (.ref a0_), .val (.int (1 : Int32)), .val (.ref a2), .val (.int (1 : Int32)), .val (.int (2 : Int32)), .val (.int (0 : Int32)), .val (.int x0)] [])) _
    refine XS.iinc Xf4.here hx rfl (hb hby own_d13_38) rfl (l' := #[.val (.ref a0_), .val (.int (1 : Int32)), .val (.ref a2), .val (.int (1 : Int32)), .val (.int (2 : Int32)), .val (.int (1 : Int32)), .val (.int x0)]) rfl ?_
    show Steps p.tables e below (T4.setTop (mkF m 41 #[.val (.ref a0_), .val (.int (1 : Int32)), .val (.ref a2), .val (.int (1 : Int32)), .val (.int (2 : Int32)), .val (.int (1 : Int32)), .val (.int x0)] [])) _
    refine XS.goto Xf4.here hx rfl (pc0 := 41) (pc' := 3) rfl (hb hby own_d13_41) (by decide) (by decide) ?_
    show Steps p.tables e below (T4.setTop (mkF m 3 #[.val (.ref a0_), .val (.int (1 : Int32)), .val (.ref a2), .val (.int (1 : Int32)), .val (.int (2 : Int32)), .val (.int (1 : Int32)), .val (.int x0)] [])) _
    refine XS.iload Xf4.here hx rfl (hb hby own_d13_3) rfl ?_
    show Steps p.tables e below (T4.setTop (mkF m 5 #[.val (.ref a0_), .val (.int (1 : Int32)), .val (.ref a2), .val (.int (1 : Int32)), .val (.int (2 : Int32)), .val (.int (1 : Int32)), .val (.int x0)] [(.int (1 : Int32))])) _
    refine XS.iload Xf4.here hx rfl (hb hby own_d13_5) rfl ?_
    show Steps p.tables e below (T4.setTop (mkF m 7 #[.val (.ref a0_), .val (.int (1 : Int32)), .val (.ref a2), .val (.int (1 : Int32)), .val (.int (2 : Int32)), .val (.int (1 : Int32)), .val (.int x0)] [(.int (2 : Int32)), (.int (1 : Int32))])) _
    refine XS.icmpNo Xf4.here hx rfl (hb hby own_d13_7) rfl (tlt (by decide)).2.1 ?_
    show Steps p.tables e below (T4.setTop (mkF m 10 #[.val (.ref a0_), .val (.int (1 : Int32)), .val (.ref a2), .val (.int (1 : Int32)), .val (.int (2 : Int32)), .val (.int (1 : Int32)), .val (.int x0)] [])) _
    exact q)
  have F6 := (V0.other W4 ne_)
  obtain ⟨clr7, Arr7, qr7, Sr7, Mr7, Hhr7, Gr7⟩ := id F6
  have hinr7 : ¬ ((1 : Int32) < 0 ∨ clr7.slots.size ≤ ((1 : Int32)).toNatClampNeg) := inb_of Sr7 ⟨by decide, by decide⟩
  have hatr7 : clr7.slots[((1 : Int32)).toNatClampNeg]? = some (.int x1) := Has.at Hhr7 hinr7 rfl
  obtain ⟨clr8, Arr8, qr8, Sr8, Mr8, Hhr8, Gr8⟩ := id V4
  have hinr8 : ¬ ((1 : Int32) < 0 ∨ clr8.slots.size ≤ ((1 : Int32)).toNatClampNeg) := inb_of Sr8 ⟨by decide, by decide⟩
  obtain ⟨T9, h9, X9, e9, W9, st9⟩ := stB Xf4 hx hZ e4 Arr8 (j := (1 : Int32)) hinr8 (g := (mkF m 31 #[.val (.ref a0_), .val (.int (1 : Int32)), .val (.ref a2), .val (.int (1 : Int32)), .val (.int (2 : Int32)), .val (.int (1 : Int32)), .val (.int x1)] [(.int (x1.toInt8.toInt32)), (.int (1 : Int32)), (.ref a2)])) rfl rfl (hb hby own_d13_31)
  have N9 := Fr.snoc X9 Nf4 g_
  obtain ⟨Lf9, Nf9, Xf9⟩ := own_fold X9 N9
  have V9 : Arv Z h9 a2 kb_ .byte (2 : Int32) [(.int (nar .byte (x0.toInt8.toInt32))), (.int (nar .byte (x1.toInt8.toInt32)))] (.int (0 : Int32)) := Arv.set Arr8 qr8 Sr8 Mr8 Hhr8 Gr8 (fits_nar_byte _) W9 1 rfl (Nat.le_of_ble_eq_true rfl)
  have k10 : own_To p e below T9 (mkF m 32 #[.val (.ref a0_), .val (.int (1 : Int32)), .val (.ref a2), .val (.int (1 : Int32)), .val (.int (2 : Int32)), .val (.int (1 : Int32)), .val (.int x1)] []) s₁ (mkF m 0 #[.val (.ref a0_), .val (.int (0 : Int32)), .val (.ref a2), .val (.int (0 : Int32)), .val (.int (2 : Int32)), .unset, .unset] []) := fun t q => k5 t (by
    refine XS.aloadN Xf4.here hx rfl (hb hby own_d13_10) rfl rfl ?_
    show Steps p.tables e below (T4.setTop (mkF m 11 #[.val (.ref a0_), .val (.int (1 : Int32)), .val (.ref a2), .val (.int (1 : Int32)), .val (.int (2 : Int32)), .val (.int (1 : Int32)), .val (.int x0)] [(.ref a0_)])) _
    refine XS.iloadN Xf4.here hx rfl (hb hby own_d13_11) rfl ?_
    show Steps p.tables e below (T4.setTop (mkF m 12 #[.val (.ref a0_), .val (.int (1 : Int32)), .val (.ref a2), .val (.int (1 : Int32)), .val (.int (2 : Int32)), .val (.int (1 : Int32)), .val (.int x0)] [(.int (1 : Int32)), (.ref a0_)])) _
    refine Xf4.caload hx (j := (1 : Int32)) (v := (.int x1)) (by rw [e4]; exact Arr7.1) (State.isArrayOf_alike hZ.alike Arr7.2.1) Arr7.2.2 hinr7 hatr7 (g := (mkF m 12 #[.val (.ref a0_), .val (.int (1 : Int32)), .val (.ref a2), .val (.int (1 : Int32)), .val (.int (2 : Int32)), .val (.int (1 : Int32)), .val (.int x0)] [(.int (1 : Int32)), (.ref a0_)])) rfl rfl (hb hby own_d13_12) _ ?_
    show Steps p.tables e below (T4.setTop (mkF m 13 #[.val (.ref a0_), .val (.int (1 : Int32)), .val (.ref a2), .val (.int (1 : Int32)), .val (.int (2 : Int32)), .val (.int (1 : Int32)), .val (.int x0)] [(.int x1)])) _
    refine XS.istore Xf4.here hx rfl (hb hby own_d13_13) rfl (l' := #[.val (.ref a0_), .val (.int (1 : Int32)), .val (.ref a2), .val (.int (1 : Int32)), .val (.int (2 : Int32)), .val (.int (1 : Int32)), .val (.int x1)]) rfl ?_
    show Steps p.tables e below (T4.setTop (mkF m 15 #[.val (.ref a0_), .val (.int (1 : Int32)), .val (.ref a2), .val (.int (1 : Int32)), .val (.int (2 : Int32)), .val (.int (1 : Int32)), .val (.int x1)] [])) _
    refine XS.iload Xf4.here hx rfl (hb hby own_d13_15) rfl ?_
    show Steps p.tables e below (T4.setTop (mkF m 17 #[.val (.ref a0_), .val (.int (1 : Int32)), .val (.ref a2), .val (.int (1 : Int32)), .val (.int (2 : Int32)), .val (.int (1 : Int32)), .val (.int x1)] [(.int x1)])) _
    refine XS.sipush Xf4.here hx rfl (hb hby own_d13_17) ?_
    show Steps p.tables e below (T4.setTop (mkF m 20 #[.val (.ref a0_), .val (.int (1 : Int32)), .val (.ref a2), .val (.int (1 : Int32)), .val (.int (2 : Int32)), .val (.int (1 : Int32)), .val (.int x1)] [(.int (255 : Int32)), (.int x1)])) _
    refine XS.icmpYes Xf4.here hx rfl (pc0 := 20) (pc' := 26) rfl (hb hby own_d13_20) rfl (flt hx1).2.2.2 (by decide) (by decide) ?_
    show Steps p.tables e below (T4.setTop (mkF m 26 #[.val (.ref a0_), .val (.int (1 : Int32)), .val (.ref a2), .val (.int (1 : Int32)), .val (.int (2 : Int32)), .val (.int (1 : Int32)), .val (.int x1)] [])) _
    refine XS.aloadN Xf4.here hx rfl (hb hby own_d13_26) rfl rfl ?_
    show Steps p.tables e below (T4.setTop (mkF m 27 #[.val (.ref a0_), .val (.int (1 : Int32)), .val (.ref a2), .val (.int (1 : Int32)), .val (.int (2 : Int32)), .val (.int (1 : Int32)), .val (.int x1)] [(.ref a2)])) _
    refine XS.iloadN Xf4.here hx rfl (hb hby own_d13_27) rfl ?_
    show Steps p.tables e below (T4.setTop (mkF m 28 #[.val (.ref a0_), .val (.int (1 : Int32)), .val (.ref a2), .val (.int (1 : Int32)), .val (.int (2 : Int32)), .val (.int (1 : Int32)), .val (.int x1)] [(.int (1 : Int32)), (.ref a2)])) _
    refine XS.iload Xf4.here hx rfl (hb hby own_d13_28) rfl ?_
    show Steps p.tables e below (T4.setTop (mkF m 30 #[.val (.ref a0_), .val (.int (1 : Int32)), .val (.ref a2), .val (.int (1 : Int32)), .val (.int (2 : Int32)), .val (.int (1 : Int32)), .val (.int x1)] [(.int x1), (.int (1 : Int32)), (.ref a2)])) _
    refine XS.i2b Xf4.here hx rfl (hb hby own_d13_30) rfl ?_
    show Steps p.tables e below (T4.setTop (mkF m 31 #[.val (.ref a0_), .val (.int (1 : Int32)), .val (.ref a2), .val (.int (1 : Int32)), .val (.int (2 : Int32)), .val (.int (1 : Int32)), .val (.int x1)] [(.int (x1.toInt8.toInt32)), (.int (1 : Int32)), (.ref a2)])) _
    refine st9 _ ?_
    show Steps p.tables e below (T9.setTop (mkF m 32 #[.val (.ref a0_), .val (.int (1 : Int32)), .val (.ref a2), .val (.int (1 : Int32)), .val (.int (2 : Int32)), .val (.int (1 : Int32)), .val (.int x1)] [])) _
    exact q)
  have K11 : Keep h0 h9 [a2] := (((Keep.refl h0 [a2]).wr W4 (Or.inl (List.mem_of_getElem? (i := 0) rfl))).wr W9 (Or.inl (List.mem_of_getElem? (i := 0) rfl)))
  have k12 : own_To p e below T9 (mkF m 46 #[.val (.ref a0_), .val (.int (2 : Int32)), .val (.ref a2), .val (.int (2 : Int32)), .val (.int (2 : Int32)), .val (.int (2 : Int32)), .val (.int x1)] [(.int (2 : Int32))]) s₁ (mkF m 0 #[.val (.ref a0_), .val (.int (0 : Int32)), .val (.ref a2), .val (.int (0 : Int32)), .val (.int (2 : Int32)), .unset, .unset] []) := fun t q => k10 t (by
    refine XS.iinc Xf9.here hx rfl (hb hby own_d13_32) rfl (l' := #[.val (.ref a0_), .val (.int (2 : Int32)), .val (.ref a2), .val (.int (1 : Int32)), .val (.int (2 : Int32)), .val (.int (1 : Int32)), .val (.int x1)]) rfl ?_
    show Steps p.tables e below (T9.setTop (mkF m 35 #[.val (.ref a0_), .val (.int (2 : Int32)), .val (.ref a2), .val (.int (1 : Int32)), .val (.int (2 : Int32)), .val (.int (1 : Int32)), .val (.int x1)] [])) _
    refine XS.iinc Xf9.here hx rfl (hb hby own_d13_35) rfl (l' := #[.val (.ref a0_), .val (.int (2 : Int32)), .val (.ref a2), .val (.int (2 : Int32)), .val (.int (2 : Int32)), .val (.int (1 : Int32)), .val (.int x1)]) rfl ?_
    show Steps p.tables e below (T9.setTop (mkF m 38 #[.val (.ref a0_), .val (.int (2 : Int32)), .val (.ref a2), .val (.int (2 : Int32)), .val (.int (2 : Int32)), .val (.int (1 : Int32)), .val (.int x1)] [])) _
    refine XS.iinc Xf9.here hx rfl (hb hby own_d13_38) rfl (l' := #[.val (.ref a0_), .val (.int (2 : Int32)), .val (.ref a2), .val (.int (2 : Int32)), .val (.int (2 : Int32)), .val (.int (2 : Int32)), .val (.int x1)]) rfl ?_
    show Steps p.tables e below (T9.setTop (mkF m 41 #[.val (.ref a0_), .val (.int (2 : Int32)), .val (.ref a2), .val (.int (2 : Int32)), .val (.int (2 : Int32)), .val (.int (2 : Int32)), .val (.int x1)] [])) _
    refine XS.goto Xf9.here hx rfl (pc0 := 41) (pc' := 3) rfl (hb hby own_d13_41) (by decide) (by decide) ?_
    show Steps p.tables e below (T9.setTop (mkF m 3 #[.val (.ref a0_), .val (.int (2 : Int32)), .val (.ref a2), .val (.int (2 : Int32)), .val (.int (2 : Int32)), .val (.int (2 : Int32)), .val (.int x1)] [])) _
    refine XS.iload Xf9.here hx rfl (hb hby own_d13_3) rfl ?_
    show Steps p.tables e below (T9.setTop (mkF m 5 #[.val (.ref a0_), .val (.int (2 : Int32)), .val (.ref a2), .val (.int (2 : Int32)), .val (.int (2 : Int32)), .val (.int (2 : Int32)), .val (.int x1)] [(.int (2 : Int32))])) _
    refine XS.iload Xf9.here hx rfl (hb hby own_d13_5) rfl ?_
    show Steps p.tables e below (T9.setTop (mkF m 7 #[.val (.ref a0_), .val (.int (2 : Int32)), .val (.ref a2), .val (.int (2 : Int32)), .val (.int (2 : Int32)), .val (.int (2 : Int32)), .val (.int x1)] [(.int (2 : Int32)), (.int (2 : Int32))])) _
    refine XS.icmpYes Xf9.here hx rfl (pc0 := 7) (pc' := 44) rfl (hb hby own_d13_7) rfl (flt (by decide)).2.1 (by decide) (by decide) ?_
    show Steps p.tables e below (T9.setTop (mkF m 44 #[.val (.ref a0_), .val (.int (2 : Int32)), .val (.ref a2), .val (.int (2 : Int32)), .val (.int (2 : Int32)), .val (.int (2 : Int32)), .val (.int x1)] [])) _
    refine XS.iload Xf9.here hx rfl (hb hby own_d13_44) rfl ?_
    show Steps p.tables e below (T9.setTop (mkF m 46 #[.val (.ref a0_), .val (.int (2 : Int32)), .val (.ref a2), .val (.int (2 : Int32)), .val (.int (2 : Int32)), .val (.int (2 : Int32)), .val (.int x1)] [(.int (2 : Int32))])) _
    exact q)
  obtain ⟨fs, hr, hrun, hended, hW, hsame⟩ := Xf9.leave (v := some (.int (2 : Int32))) (fun h => by rw [Bd.returns] at h; cases h)
  refine ⟨_, _, k0 _ (k12 _ ?_), hrun, hended, _, _, rfl, ?_, ⟨_, rfl⟩, hW, hsame.mono (by decide) (by decide)⟩
  · show Steps p.tables e below (T9.setTop (mkF m 46 #[.val (.ref a0_), .val (.int (2 : Int32)), .val (.ref a2), .val (.int (2 : Int32)), .val (.int (2 : Int32)), .val (.int (2 : Int32)), .val (.int x1)] [(.int (2 : Int32))])) _
    exact retOut Xf9 hx Bd.returns rfl (Or.inl ⟨rfl, Or.inl rfl, _, rfl⟩) (hb hby own_d13_46) hr
  · show QC2 Z a0_ a2 kc_ kb_ x0 x1 h0 n0 _ T9.heap _
    rw [e9]
    exact ⟨rfl, Nf9, K11, V9⟩
theorem own_pd12 : parseMethodDescriptor "([CI[BII)I" = some ⟨[(.array .char), .int, (.array .byte), .int, .int], some .int⟩ := by decide +kernel
theorem own_d12_0 : decode jdk_52_method_16_code 0 = .ok (.iload_n 2, 1) := by decide +kernel
theorem own_d12_1 : decode jdk_52_method_16_code 1 = .ok (.newarray .byte, 2) := by decide +kernel
theorem own_d12_3 : decode jdk_52_method_16_code 3 = .ok (.astore_n 3, 1) := by decide +kernel
theorem own_d12_4 : decode jdk_52_method_16_code 4 = .ok (.aload_n 0, 1) := by decide +kernel
theorem own_d12_5 : decode jdk_52_method_16_code 5 = .ok (.iload_n 1, 1) := by decide +kernel
theorem own_d12_6 : decode jdk_52_method_16_code 6 = .ok (.aload_n 3, 1) := by decide +kernel
theorem own_d12_7 : decode jdk_52_method_16_code 7 = .ok (.iconst 0, 1) := by decide +kernel
theorem own_d12_8 : decode jdk_52_method_16_code 8 = .ok (.iload_n 2, 1) := by decide +kernel
theorem own_d12_9 : decode jdk_52_method_16_code 9 = .ok (.invokestatic 115, 3) := by decide +kernel
theorem own_d12_12 : decode jdk_52_method_16_code 12 = .ok (.istore 4, 2) := by decide +kernel
theorem own_d12_14 : decode jdk_52_method_16_code 14 = .ok (.iload 4, 2) := by decide +kernel
theorem own_d12_16 : decode jdk_52_method_16_code 16 = .ok (.iload_n 2, 1) := by decide +kernel
theorem own_d12_17 : decode jdk_52_method_16_code 17 = .ok (.if_icmp .eq 40, 3) := by decide +kernel
theorem own_d12_57 : decode jdk_52_method_16_code 57 = .ok (.aload_n 3, 1) := by decide +kernel
theorem own_d12_58 : decode jdk_52_method_16_code 58 = .ok (.areturn, 1) := by decide +kernel
theorem own_pn12 : plainName "java/lang/StringUTF16" = true := by first | (simp [plainName, overriddenIn]; done) | decide +kernel
theorem own_efD1 (m : MethodId) (x0 : Addr) : entryFrame m #[(.ref x0), (.int (0 : Int32)), (.int (1 : Int32))] 6 = mkF m 0 #[.val (.ref x0), .val (.int (0 : Int32)), .val (.int (1 : Int32)), .unset, .unset, .unset] [] := by first | (simp [entryFrame, mkF, argsToLocals, Value.category]; done) | rfl
def QD1 (Z : State) (a0_ : Addr) (kc_ : ClassId) (x0 : Int32) (h0 : Heap) (n0 : Nat) (v : Option Value) (h : Heap) (L : List Loc) : Prop := ∃ (b : Addr) (kb : ClassId), v = some (.ref b) ∧ Fr n0 L ∧ Keep h0 h [] ∧ h0.size ≤ b ∧ Arv Z h b kb .byte (1 : Int32) [(.int (own_by x0))] (.int (0 : Int32))
set_option maxRecDepth 65536 in
set_option maxHeartbeats 40000000 in
theorem rmD1 (l : Launch) (Z : State) (a0 : Array Value) (hw : ∀ d ∈ tables_1, d.before a0 Z = true) (ws : List Jvm.Cond) (a0_ : Addr) (kc_ : ClassId) (x0 : Int32) (h0 : Heap) (n0 : Nat) (Z0 : n0 ≤ h0.size) (V0 : Arv Z h0 a0_ kc_ .char (1 : Int32) [(.int x0)] (.int (0 : Int32))) (hx0 : ¬ (255 : Int32) < x0) :
    MetFree l (⟨"java/lang/StringUTF16", "compress", "([CII)[B"⟩ : MethodName) (head1 (Jvm.Cond.code (⟨"java/lang/StringUTF16", "compress", "([CII)[B"⟩ : MethodName) jdk_52_method_16_code 6 (some (.array .byte)) :: ws) ({ frames := 1, cells := 1, slots := 1, locals := 18 } : Room)) (fun a U => a = #[(.ref a0_), (.int (0 : Int32)), (.int (1 : Int32))] ∧ Z.Warmed39 U.vm ∧ U.heap = h0) (fun _ _ _ _ _ => True) (fun _ U o U' => ∃ v L, o = .returned v ∧ QD1 Z a0_ kc_ x0 h0 n0 v U'.heap L ∧ FrameEnd U o U' L ({ frames := 1, cells := 1, slots := 1, locals := 18 } : Room).cells ({ frames := 1, cells := 1, slots := 1, locals := 18 } : Room).slots) := by
  refine MetFree.of_bodySF (plainFor_of_name own_pn12) hisR ?_
  intro p e s m args below meth c s₁ Bd hml0 hP hK
  obtain ⟨rfl, hZ, hh⟩ := hP
  have hx := Bd.exec
  have hby := Bd.bytes
  have hml : c.maxLocals = 6 := hml0
  have hown : s.vm.findClass "java/lang/StringUTF16" = some m.cls := findClass_of_methodNamed Bd.named
  have hnm := (name_of_methodNamed Bd.named Bd.method).1
  have X0 : Stand p l e ({ frames := 1, cells := 1, slots := 1, locals := 18 } : Room) s m #[(.ref a0_), (.int (0 : Int32)), (.int (1 : Int32))] below meth c s₁ [] 0 0 := Stand.of_body Bd
  have e0 : s₁.heap = h0 := by rw [← hh, Bd.state]; rfl
  have N0 := Fr.nil n0
  have k0 : own_To p e below s₁ (mkF m 0 #[.val (.ref a0_), .val (.int (0 : Int32)), .val (.int (1 : Int32)), .unset, .unset, .unset] []) s₁ (entryFrame m #[(.ref a0_), (.int (0 : Int32)), (.int (1 : Int32))] 6) := fun t k => castTop (own_efD1 m a0_) k
  have ki : own_To p e below s₁ (mkF m 0 #[.val (.ref a0_), .val (.int (0 : Int32)), .val (.int (1 : Int32)), .unset, .unset, .unset] []) s₁ (mkF m 0 #[.val (.ref a0_), .val (.int (0 : Int32)), .val (.int (1 : Int32)), .unset, .unset, .unset] []) := fun t q => q
  obtain ⟨T1, h1, kk1, X1, e1, E1, A1, st1⟩ := newP X0 hx hZ (hw _ (List.mem_of_getElem? (i := 23) rfl)) e0 (g := (mkF m 1 #[.val (.ref a0_), .val (.int (0 : Int32)), .val (.int (1 : Int32)), .unset, .unset, .unset] [(.int (1 : Int32))])) rfl (hb hby own_d12_1) rfl (by decide) (cap := 1) (by decide) (by decide) (by decide) (by decide)
  obtain ⟨b1, g1⟩ : ∃ z, z = h0.size := ⟨_, rfl⟩
  rw [← g1] at A1 st1
  have ge_b1 : n0 ≤ b1 := Nat.le_trans Z0 (Nat.le_of_eq g1.symm)
  have K2 : Keep h0 h0 [] := (Keep.refl h0 [])
  have sz_b1 : h0.size ≤ b1 := Nat.le_trans K2.1 (Nat.le_of_eq g1.symm)
  have ne_a0__b1 : a0_ ≠ b1 := Nat.ne_of_lt (Nat.lt_of_lt_of_le V0.lt (Nat.le_of_eq g1.symm))
  have V1 : Arv Z h1 b1 kk1 .byte (1 : Int32) [(.int (0 : Int32))] (.int (0 : Int32)) := (Arv.new A1 (by decide)).pad (pad_rep [] (.int (0 : Int32)) 1)
  have K4 : Keep h0 h1 [] := (K2.ext E1)
  have F5 := (V0.ext E1)
  obtain ⟨_, _, ⟨T3, L3, kk3, n3⟩, -, X3, ⟨Lc3, hQ3, l3, y3, z3⟩, st3⟩ := Jvm.LawKit.callS X1 hx (y := (⟨"java/lang/StringUTF16", "compress", "([CI[BII)I"⟩ : MethodName)) hown (mvT hZ (hw _ (List.mem_of_getElem? (i := 84) rfl))) (mvT hZ (hw _ (List.mem_of_getElem? (i := 85) rfl))) (mvT hZ (hw _ (List.mem_of_getElem? (i := 82) rfl))) (mvT hZ (hw _ (List.mem_of_getElem? (i := 86) rfl))) (by decide) (backOf (W := 0) (rmC1 l Z a0 hw [] a0_ b1 kc_ kk1 x0 h1 n0 (Nat.le_trans Z0 K4.1) F5 V1 ge_b1 ne_a0__b1 hx0) hZ (hw _ (List.mem_of_getElem? (i := 86) rfl)) (hw _ (List.mem_of_getElem? (i := 82) rfl)) (by decide) (by decide)) (g := (mkF m 9 #[.val (.ref a0_), .val (.int (0 : Int32)), .val (.int (1 : Int32)), .val (.ref b1), .unset, .unset] [(.int (1 : Int32)), (.int (0 : Int32)), (.ref b1), (.int (0 : Int32)), (.ref a0_)])) rfl (by rw [hml]; rfl) (argsL := [(.ref a0_), (.int (0 : Int32)), (.ref b1), (.int (0 : Int32)), (.int (1 : Int32))]) (rest := []) (lenOf own_pd12 rfl) rfl (by show 2 * 0 + _ ≤ _; exact Nat.le_of_eq rfl) (hb hby own_d12_9) (fun _ _ => ⟨rfl, e1, (by decide : 1 + 0 ≤ _), (by decide : 1 + 0 ≤ _)⟩)
  dsimp only [Pt.U, Pt.locs, Pt.cells, Pt.slots] at X3 l3 y3 z3 st3 hQ3
  subst l3 y3 z3
  obtain ⟨rfl, N3q, K3, V3⟩ := hQ3
  have N3 := Fr.app N0 N3q
  have k6 : own_To p e below T3 (mkF m 17 #[.val (.ref a0_), .val (.int (0 : Int32)), .val (.int (1 : Int32)), .val (.ref b1), .val (.int (1 : Int32)), .unset] [(.int (1 : Int32)), (.int (1 : Int32))]) s₁ (mkF m 0 #[.val (.ref a0_), .val (.int (0 : Int32)), .val (.int (1 : Int32)), .unset, .unset, .unset] []) := fun t q => ki t (by
    refine XS.iloadN X0.here hx rfl (hb hby own_d12_0) rfl ?_
    show Steps p.tables e below (s₁.setTop (mkF m 1 #[.val (.ref a0_), .val (.int (0 : Int32)), .val (.int (1 : Int32)), .unset, .unset, .unset] [(.int (1 : Int32))])) _
    refine st1 _ ?_
    show Steps p.tables e below (T1.setTop (mkF m 3 #[.val (.ref a0_), .val (.int (0 : Int32)), .val (.int (1 : Int32)), .unset, .unset, .unset] [(.ref b1)])) _
    refine XS.astoreN X1.here hx rfl (hb hby own_d12_3) rfl rfl (l' := #[.val (.ref a0_), .val (.int (0 : Int32)), .val (.int (1 : Int32)), .val (.ref b1), .unset, .unset]) rfl ?_
    show Steps p.tables e below (T1.setTop (mkF m 4 #[.val (.ref a0_), .val (.int (0 : Int32)), .val (.int (1 : Int32)), .val (.ref b1), .unset, .unset] [])) _
    refine XS.aloadN X1.here hx rfl (hb hby own_d12_4) rfl rfl ?_
    show Steps p.tables e below (T1.setTop (mkF m 5 #[.val (.ref a0_), .val (.int (0 : Int32)), .val (.int (1 : Int32)), .val (.ref b1), .unset, .unset] [(.ref a0_)])) _
    refine XS.iloadN X1.here hx rfl (hb hby own_d12_5) rfl ?_
    show Steps p.tables e below (T1.setTop (mkF m 6 #[.val (.ref a0_), .val (.int (0 : Int32)), .val (.int (1 : Int32)), .val (.ref b1), .unset, .unset] [(.int (0 : Int32)), (.ref a0_)])) _
    refine XS.aloadN X1.here hx rfl (hb hby own_d12_6) rfl rfl ?_
    show Steps p.tables e below (T1.setTop (mkF m 7 #[.val (.ref a0_), .val (.int (0 : Int32)), .val (.int (1 : Int32)), .val (.ref b1), .unset, .unset] [(.ref b1), (.int (0 : Int32)), (.ref a0_)])) _
    refine XS.iconst X1.here hx rfl (hb hby own_d12_7) ?_
    show Steps p.tables e below (T1.setTop (mkF m 8 #[.val (.ref a0_), .val (.int (0 : Int32)), .val (.int (1 : Int32)), .val (.ref b1), .unset, .unset] [(.int (0 : Int32)), (.ref b1), (.int (0 : Int32)), (.ref a0_)])) _
    refine XS.iloadN X1.here hx rfl (hb hby own_d12_8) rfl ?_
    show Steps p.tables e below (T1.setTop (mkF m 9 #[.val (.ref a0_), .val (.int (0 : Int32)), .val (.int (1 : Int32)), .val (.ref b1), .unset, .unset] [(.int (1 : Int32)), (.int (0 : Int32)), (.ref b1), (.int (0 : Int32)), (.ref a0_)])) _
    refine st3 _ ?_
    show Steps p.tables e below (T3.setTop (mkF m 12 #[.val (.ref a0_), .val (.int (0 : Int32)), .val (.int (1 : Int32)), .val (.ref b1), .unset, .unset] [(.int (1 : Int32))])) _
    refine XS.istore X3.here hx rfl (hb hby own_d12_12) rfl (l' := #[.val (.ref a0_), .val (.int (0 : Int32)), .val (.int (1 : Int32)), .val (.ref b1), .val (.int (1 : Int32)), .unset]) rfl ?_
    show Steps p.tables e below (T3.setTop (mkF m 14 #[.val (.ref a0_), .val (.int (0 : Int32)), .val (.int (1 : Int32)), .val (.ref b1), .val (.int (1 : Int32)), .unset] [])) _
    refine XS.iload X3.here hx rfl (hb hby own_d12_14) rfl ?_
    show Steps p.tables e below (T3.setTop (mkF m 16 #[.val (.ref a0_), .val (.int (0 : Int32)), .val (.int (1 : Int32)), .val (.ref b1), .val (.int (1 : Int32)), .unset] [(.int (1 : Int32))])) _
    refine XS.iloadN X3.here hx rfl (hb hby own_d12_16) rfl ?_
    show Steps p.tables e below (T3.setTop (mkF m 17 #[.val (.ref a0_), .val (.int (0 : Int32)), .val (.int (1 : Int32)), .val (.ref b1), .val (.int (1 : Int32)), .unset] [(.int (1 : Int32)), (.int (1 : Int32))])) _
    exact q)
  have K7 : Keep h0 T3.heap [] := (K4.trans K3 (allS (P := fun x => x ∈ ([] : List Addr) ∨ h0.size ≤ x) (Or.inr sz_b1) all0))
  have k8 : own_To p e below T3 (mkF m 58 #[.val (.ref a0_), .val (.int (0 : Int32)), .val (.int (1 : Int32)), .val (.ref b1), .val (.int (1 : Int32)), .unset] [(.ref b1)]) s₁ (mkF m 0 #[.val (.ref a0_), .val (.int (0 : Int32)), .val (.int (1 : Int32)), .unset, .unset, .unset] []) := fun t q => k6 t (by
    refine XS.icmpYes X3.here hx rfl (pc0 := 17) (pc' := 57) rfl (hb hby own_d12_17) rfl (teq rfl).1 (by decide) (by decide) ?_
    show Steps p.tables e below (T3.setTop (mkF m 57 #[.val (.ref a0_), .val (.int (0 : Int32)), .val (.int (1 : Int32)), .val (.ref b1), .val (.int (1 : Int32)), .unset] [])) _
    refine XS.aloadN X3.here hx rfl (hb hby own_d12_57) rfl rfl ?_
    show Steps p.tables e below (T3.setTop (mkF m 58 #[.val (.ref a0_), .val (.int (0 : Int32)), .val (.int (1 : Int32)), .val (.ref b1), .val (.int (1 : Int32)), .unset] [(.ref b1)])) _
    exact q)
  obtain ⟨fs, hr, hrun, hended, hW, hsame⟩ := X3.leave (v := some (.ref b1)) (fun h => by rw [Bd.returns] at h; cases h)
  refine ⟨_, _, k0 _ (k8 _ ?_), hrun, hended, _, _, rfl, ?_, ⟨_, rfl⟩, hW, hsame.mono (by decide) (by decide)⟩
  · show Steps p.tables e below (T3.setTop (mkF m 58 #[.val (.ref a0_), .val (.int (0 : Int32)), .val (.int (1 : Int32)), .val (.ref b1), .val (.int (1 : Int32)), .unset] [(.ref b1)])) _
    exact retOut X3 hx Bd.returns rfl (Or.inr (Or.inr (Or.inr (Or.inr ⟨rfl, rfl, rfl⟩)))) (hb hby own_d12_58) hr
  · show QD1 Z a0_ kc_ x0 h0 n0 _ T3.heap _
    exact ⟨b1, kk1, rfl, N3, K7, sz_b1, V3⟩
theorem own_efD2 (m : MethodId) (x0 : Addr) : entryFrame m #[(.ref x0), (.int (0 : Int32)), (.int (2 : Int32))] 6 = mkF m 0 #[.val (.ref x0), .val (.int (0 : Int32)), .val (.int (2 : Int32)), .unset, .unset, .unset] [] := by first | (simp [entryFrame, mkF, argsToLocals, Value.category]; done) | rfl
def QD2 (Z : State) (a0_ : Addr) (kc_ : ClassId) (x0 : Int32) (x1 : Int32) (h0 : Heap) (n0 : Nat) (v : Option Value) (h : Heap) (L : List Loc) : Prop := ∃ (b : Addr) (kb : ClassId), v = some (.ref b) ∧ Fr n0 L ∧ Keep h0 h [] ∧ h0.size ≤ b ∧ Arv Z h b kb .byte (2 : Int32) [(.int (own_by x0)), (.int (own_by x1))] (.int (0 : Int32))
set_option maxRecDepth 65536 in
set_option maxHeartbeats 40000000 in
theorem rmD2 (l : Launch) (Z : State) (a0 : Array Value) (hw : ∀ d ∈ tables_1, d.before a0 Z = true) (ws : List Jvm.Cond) (a0_ : Addr) (kc_ : ClassId) (x0 : Int32) (x1 : Int32) (h0 : Heap) (n0 : Nat) (Z0 : n0 ≤ h0.size) (V0 : Arv Z h0 a0_ kc_ .char (2 : Int32) [(.int x0), (.int x1)] (.int (0 : Int32))) (hx0 : ¬ (255 : Int32) < x0) (hx1 : ¬ (255 : Int32) < x1) :
    MetFree l (⟨"java/lang/StringUTF16", "compress", "([CII)[B"⟩ : MethodName) (head1 (Jvm.Cond.code (⟨"java/lang/StringUTF16", "compress", "([CII)[B"⟩ : MethodName) jdk_52_method_16_code 6 (some (.array .byte)) :: ws) ({ frames := 1, cells := 1, slots := 2, locals := 18 } : Room)) (fun a U => a = #[(.ref a0_), (.int (0 : Int32)), (.int (2 : Int32))] ∧ Z.Warmed39 U.vm ∧ U.heap = h0) (fun _ _ _ _ _ => True) (fun _ U o U' => ∃ v L, o = .returned v ∧ QD2 Z a0_ kc_ x0 x1 h0 n0 v U'.heap L ∧ FrameEnd U o U' L ({ frames := 1, cells := 1, slots := 2, locals := 18 } : Room).cells ({ frames := 1, cells := 1, slots := 2, locals := 18 } : Room).slots) := by
  refine MetFree.of_bodySF (plainFor_of_name own_pn12) hisR ?_
  intro p e s m args below meth c s₁ Bd hml0 hP hK
  obtain ⟨rfl, hZ, hh⟩ := hP
  have hx := Bd.exec
  have hby := Bd.bytes
  have hml : c.maxLocals = 6 := hml0
  have hown : s.vm.findClass "java/lang/StringUTF16" = some m.cls := findClass_of_methodNamed Bd.named
  have hnm := (name_of_methodNamed Bd.named Bd.method).1
  have X0 : Stand p l e ({ frames := 1, cells := 1, slots := 2, locals := 18 } : Room) s m #[(.ref a0_), (.int (0 : Int32)), (.int (2 : Int32))] below meth c s₁ [] 0 0 := Stand.of_body Bd
  have e0 : s₁.heap = h0 := by rw [← hh, Bd.state]; rfl
  have N0 := Fr.nil n0
  have k0 : own_To p e below s₁ (mkF m 0 #[.val (.ref a0_), .val (.int (0 : Int32)), .val (.int (2 : Int32)), .unset, .unset, .unset] []) s₁ (entryFrame m #[(.ref a0_), (.int (0 : Int32)), (.int (2 : Int32))] 6) := fun t k => castTop (own_efD2 m a0_) k
  have ki : own_To p e below s₁ (mkF m 0 #[.val (.ref a0_), .val (.int (0 : Int32)), .val (.int (2 : Int32)), .unset, .unset, .unset] []) s₁ (mkF m 0 #[.val (.ref a0_), .val (.int (0 : Int32)), .val (.int (2 : Int32)), .unset, .unset, .unset] []) := fun t q => q
  obtain ⟨T1, h1, kk1, X1, e1, E1, A1, st1⟩ := newP X0 hx hZ (hw _ (List.mem_of_getElem? (i := 23) rfl)) e0 (g := (mkF m 1 #[.val (.ref a0_), .val (.int (0 : Int32)), .val (.int (2 : Int32)), .unset, .unset, .unset] [(.int (2 : Int32))])) rfl (hb hby own_d12_1) rfl (by decide) (cap := 2) (by decide) (by decide) (by decide) (by decide)
  obtain ⟨b1, g1⟩ : ∃ z, z = h0.size := ⟨_, rfl⟩
  rw [← g1] at A1 st1
  have ge_b1 : n0 ≤ b1 := Nat.le_trans Z0 (Nat.le_of_eq g1.symm)
  have K2 : Keep h0 h0 [] := (Keep.refl h0 [])
  have sz_b1 : h0.size ≤ b1 := Nat.le_trans K2.1 (Nat.le_of_eq g1.symm)
  have ne_a0__b1 : a0_ ≠ b1 := Nat.ne_of_lt (Nat.lt_of_lt_of_le V0.lt (Nat.le_of_eq g1.symm))
  have V1 : Arv Z h1 b1 kk1 .byte (2 : Int32) [(.int (0 : Int32)), (.int (0 : Int32))] (.int (0 : Int32)) := (Arv.new A1 (by decide)).pad (pad_rep [] (.int (0 : Int32)) 2)
  have K4 : Keep h0 h1 [] := (K2.ext E1)
  have F5 := (V0.ext E1)
  obtain ⟨_, _, ⟨T3, L3, kk3, n3⟩, -, X3, ⟨Lc3, hQ3, l3, y3, z3⟩, st3⟩ := Jvm.LawKit.callS X1 hx (y := (⟨"java/lang/StringUTF16", "compress", "([CI[BII)I"⟩ : MethodName)) hown (mvT hZ (hw _ (List.mem_of_getElem? (i := 84) rfl))) (mvT hZ (hw _ (List.mem_of_getElem? (i := 85) rfl))) (mvT hZ (hw _ (List.mem_of_getElem? (i := 82) rfl))) (mvT hZ (hw _ (List.mem_of_getElem? (i := 86) rfl))) (by decide) (backOf (W := 0) (rmC2 l Z a0 hw [] a0_ b1 kc_ kk1 x0 x1 h1 n0 (Nat.le_trans Z0 K4.1) F5 V1 ge_b1 ne_a0__b1 hx0 hx1) hZ (hw _ (List.mem_of_getElem? (i := 86) rfl)) (hw _ (List.mem_of_getElem? (i := 82) rfl)) (by decide) (by decide)) (g := (mkF m 9 #[.val (.ref a0_), .val (.int (0 : Int32)), .val (.int (2 : Int32)), .val (.ref b1), .unset, .unset] [(.int (2 : Int32)), (.int (0 : Int32)), (.ref b1), (.int (0 : Int32)), (.ref a0_)])) rfl (by rw [hml]; rfl) (argsL := [(.ref a0_), (.int (0 : Int32)), (.ref b1), (.int (0 : Int32)), (.int (2 : Int32))]) (rest := []) (lenOf own_pd12 rfl) rfl (by show 2 * 0 + _ ≤ _; exact Nat.le_of_eq rfl) (hb hby own_d12_9) (fun _ _ => ⟨rfl, e1, (by decide : 1 + 0 ≤ _), (by decide : 2 + 0 ≤ _)⟩)
  dsimp only [Pt.U, Pt.locs, Pt.cells, Pt.slots] at X3 l3 y3 z3 st3 hQ3
  subst l3 y3 z3
  obtain ⟨rfl, N3q, K3, V3⟩ := hQ3
  have N3 := Fr.app N0 N3q
  have k6 : own_To p e below T3 (mkF m 17 #[.val (.ref a0_), .val (.int (0 : Int32)), .val (.int (2 : Int32)), .val (.ref b1), .val (.int (2 : Int32)), .unset] [(.int (2 : Int32)), (.int (2 : Int32))]) s₁ (mkF m 0 #[.val (.ref a0_), .val (.int (0 : Int32)), .val (.int (2 : Int32)), .unset, .unset, .unset] []) := fun t q => ki t (by
    refine XS.iloadN X0.here hx rfl (hb hby own_d12_0) rfl ?_
    show Steps p.tables e below (s₁.setTop (mkF m 1 #[.val (.ref a0_), .val (.int (0 : Int32)), .val (.int (2 : Int32)), .unset, .unset, .unset] [(.int (2 : Int32))])) _
    refine st1 _ ?_
    show Steps p.tables e below (T1.setTop (mkF m 3 #[.val (.ref a0_), .val (.int (0 : Int32)), .val (.int (2 : Int32)), .unset, .unset, .unset] [(.ref b1)])) _
    refine XS.astoreN X1.here hx rfl (hb hby own_d12_3) rfl rfl (l' := #[.val (.ref a0_), .val (.int (0 : Int32)), .val (.int (2 : Int32)), .val (.ref b1), .unset, .unset]) rfl ?_
    show Steps p.tables e below (T1.setTop (mkF m 4 #[.val (.ref a0_), .val (.int (0 : Int32)), .val (.int (2 : Int32)), .val (.ref b1), .unset, .unset] [])) _
    refine XS.aloadN X1.here hx rfl (hb hby own_d12_4) rfl rfl ?_
    show Steps p.tables e below (T1.setTop (mkF m 5 #[.val (.ref a0_), .val (.int (0 : Int32)), .val (.int (2 : Int32)), .val (.ref b1), .unset, .unset] [(.ref a0_)])) _
    refine XS.iloadN X1.here hx rfl (hb hby own_d12_5) rfl ?_
    show Steps p.tables e below (T1.setTop (mkF m 6 #[.val (.ref a0_), .val (.int (0 : Int32)), .val (.int (2 : Int32)), .val (.ref b1), .unset, .unset] [(.int (0 : Int32)), (.ref a0_)])) _
    refine XS.aloadN X1.here hx rfl (hb hby own_d12_6) rfl rfl ?_
    show Steps p.tables e below (T1.setTop (mkF m 7 #[.val (.ref a0_), .val (.int (0 : Int32)), .val (.int (2 : Int32)), .val (.ref b1), .unset, .unset] [(.ref b1), (.int (0 : Int32)), (.ref a0_)])) _
    refine XS.iconst X1.here hx rfl (hb hby own_d12_7) ?_
    show Steps p.tables e below (T1.setTop (mkF m 8 #[.val (.ref a0_), .val (.int (0 : Int32)), .val (.int (2 : Int32)), .val (.ref b1), .unset, .unset] [(.int (0 : Int32)), (.ref b1), (.int (0 : Int32)), (.ref a0_)])) _
    refine XS.iloadN X1.here hx rfl (hb hby own_d12_8) rfl ?_
    show Steps p.tables e below (T1.setTop (mkF m 9 #[.val (.ref a0_), .val (.int (0 : Int32)), .val (.int (2 : Int32)), .val (.ref b1), .unset, .unset] [(.int (2 : Int32)), (.int (0 : Int32)), (.ref b1), (.int (0 : Int32)), (.ref a0_)])) _
    refine st3 _ ?_
    show Steps p.tables e below (T3.setTop (mkF m 12 #[.val (.ref a0_), .val (.int (0 : Int32)), .val (.int (2 : Int32)), .val (.ref b1), .unset, .unset] [(.int (2 : Int32))])) _
    refine XS.istore X3.here hx rfl (hb hby own_d12_12) rfl (l' := #[.val (.ref a0_), .val (.int (0 : Int32)), .val (.int (2 : Int32)), .val (.ref b1), .val (.int (2 : Int32)), .unset]) rfl ?_
    show Steps p.tables e below (T3.setTop (mkF m 14 #[.val (.ref a0_), .val (.int (0 : Int32)), .val (.int (2 : Int32)), .val (.ref b1), .val (.int (2 : Int32)), .unset] [])) _
    refine XS.iload X3.here hx rfl (hb hby own_d12_14) rfl ?_
    show Steps p.tables e below (T3.setTop (mkF m 16 #[.val (.ref a0_), .val (.int (0 : Int32)), .val (.int (2 : Int32)), .val (.ref b1), .val (.int (2 : Int32)), .unset] [(.int (2 : Int32))])) _
    refine XS.iloadN X3.here hx rfl (hb hby own_d12_16) rfl ?_
    show Steps p.tables e below (T3.setTop (mkF m 17 #[.val (.ref a0_), .val (.int (0 : Int32)), .val (.int (2 : Int32)), .val (.ref b1), .val (.int (2 : Int32)), .unset] [(.int (2 : Int32)), (.int (2 : Int32))])) _
    exact q)
  have K7 : Keep h0 T3.heap [] := (K4.trans K3 (allS (P := fun x => x ∈ ([] : List Addr) ∨ h0.size ≤ x) (Or.inr sz_b1) all0))
  have k8 : own_To p e below T3 (mkF m 58 #[.val (.ref a0_), .val (.int (0 : Int32)), .val (.int (2 : Int32)), .val (.ref b1), .val (.int (2 : Int32)), .unset] [(.ref b1)]) s₁ (mkF m 0 #[.val (.ref a0_), .val (.int (0 : Int32)), .val (.int (2 : Int32)), .unset, .unset, .unset] []) := fun t q => k6 t (by
    refine XS.icmpYes X3.here hx rfl (pc0 := 17) (pc' := 57) rfl (hb hby own_d12_17) rfl (teq rfl).1 (by decide) (by decide) ?_
    show Steps p.tables e below (T3.setTop (mkF m 57 #[.val (.ref a0_), .val (.int (0 : Int32)), .val (.int (2 : Int32)), .val (.ref b1), .val (.int (2 : Int32)), .unset] [])) _
    refine XS.aloadN X3.here hx rfl (hb hby own_d12_57) rfl rfl ?_
    show Steps p.tables e below (T3.setTop (mkF m 58 #[.val (.ref a0_), .val (.int (0 : Int32)), .val (.int (2 : Int32)), .val (.ref b1), .val (.int (2 : Int32)), .unset] [(.ref b1)])) _
    exact q)
  obtain ⟨fs, hr, hrun, hended, hW, hsame⟩ := X3.leave (v := some (.ref b1)) (fun h => by rw [Bd.returns] at h; cases h)
  refine ⟨_, _, k0 _ (k8 _ ?_), hrun, hended, _, _, rfl, ?_, ⟨_, rfl⟩, hW, hsame.mono (by decide) (by decide)⟩
  · show Steps p.tables e below (T3.setTop (mkF m 58 #[.val (.ref a0_), .val (.int (0 : Int32)), .val (.int (2 : Int32)), .val (.ref b1), .val (.int (2 : Int32)), .unset] [(.ref b1)])) _
    exact retOut X3 hx Bd.returns rfl (Or.inr (Or.inr (Or.inr (Or.inr ⟨rfl, rfl, rfl⟩)))) (hb hby own_d12_58) hr
  · show QD2 Z a0_ kc_ x0 x1 h0 n0 _ T3.heap _
    exact ⟨b1, kk1, rfl, N3, K7, sz_b1, V3⟩
theorem own_d14_0 : decode jdk_52_method_15_code 0 = .ok (.iload_n 1, 1) := by decide +kernel
theorem own_d14_1 : decode jdk_52_method_15_code 1 = .ok (.aload_n 0, 1) := by decide +kernel
theorem own_d14_2 : decode jdk_52_method_15_code 2 = .ok (.arraylength, 1) := by decide +kernel
theorem own_d14_3 : decode jdk_52_method_15_code 3 = .ok (.isub, 1) := by decide +kernel
theorem own_d14_4 : decode jdk_52_method_15_code 4 = .ok (.bipush 31, 2) := by decide +kernel
theorem own_d14_6 : decode jdk_52_method_15_code 6 = .ok (.iushr, 1) := by decide +kernel
theorem own_d14_7 : decode jdk_52_method_15_code 7 = .ok (.i2b, 1) := by decide +kernel
theorem own_d14_8 : decode jdk_52_method_15_code 8 = .ok (.ireturn, 1) := by decide +kernel
theorem own_pn14 : plainName "java/lang/StringUTF16" = true := by first | (simp [plainName, overriddenIn]; done) | decide +kernel
theorem own_efF1 (m : MethodId) (x0 : Addr) : entryFrame m #[(.ref x0), (.int (1 : Int32))] 2 = mkF m 0 #[.val (.ref x0), .val (.int (1 : Int32))] [] := by first | (simp [entryFrame, mkF, argsToLocals, Value.category]; done) | rfl
def QF1 (Z : State) (a0_ : Addr) (kb_ : ClassId) (vs : List Value) (h0 : Heap) (n0 : Nat) (v : Option Value) (h : Heap) (L : List Loc) : Prop := v = some (.int (0 : Int32)) ∧ Fr n0 L ∧ h = h0
set_option maxRecDepth 65536 in
set_option maxHeartbeats 40000000 in
theorem rmF1 (l : Launch) (Z : State) (a0 : Array Value) (hw : ∀ d ∈ tables_1, d.before a0 Z = true) (ws : List Jvm.Cond) (a0_ : Addr) (kb_ : ClassId) (vs : List Value) (h0 : Heap) (n0 : Nat) (Z0 : n0 ≤ h0.size) (V0 : Arv Z h0 a0_ kb_ .byte (1 : Int32) vs (.int (0 : Int32))) :
    MetFree l (⟨"java/lang/StringUTF16", "coderFromArrayLen", "([BI)B"⟩ : MethodName) (head1 (Jvm.Cond.code (⟨"java/lang/StringUTF16", "coderFromArrayLen", "([BI)B"⟩ : MethodName) jdk_52_method_15_code 2 (some .byte) :: ws) ({ frames := 0, cells := 0, slots := 0, locals := 0 } : Room)) (fun a U => a = #[(.ref a0_), (.int (1 : Int32))] ∧ Z.Warmed39 U.vm ∧ U.heap = h0) (fun _ _ _ _ _ => True) (fun _ U o U' => ∃ v L, o = .returned v ∧ QF1 Z a0_ kb_ vs h0 n0 v U'.heap L ∧ FrameEnd U o U' L ({ frames := 0, cells := 0, slots := 0, locals := 0 } : Room).cells ({ frames := 0, cells := 0, slots := 0, locals := 0 } : Room).slots) := by
  refine MetFree.of_bodySF (plainFor_of_name own_pn14) hisR ?_
  intro p e s m args below meth c s₁ Bd hml0 hP hK
  obtain ⟨rfl, hZ, hh⟩ := hP
  have hx := Bd.exec
  have hby := Bd.bytes
  have hml : c.maxLocals = 2 := hml0
  have hown : s.vm.findClass "java/lang/StringUTF16" = some m.cls := findClass_of_methodNamed Bd.named
  have hnm := (name_of_methodNamed Bd.named Bd.method).1
  have X0 : Stand p l e ({ frames := 0, cells := 0, slots := 0, locals := 0 } : Room) s m #[(.ref a0_), (.int (1 : Int32))] below meth c s₁ [] 0 0 := Stand.of_body Bd
  have e0 : s₁.heap = h0 := by rw [← hh, Bd.state]; rfl
  have N0 := Fr.nil n0
  have k0 : own_To p e below s₁ (mkF m 0 #[.val (.ref a0_), .val (.int (1 : Int32))] []) s₁ (entryFrame m #[(.ref a0_), (.int (1 : Int32))] 2) := fun t k => castTop (own_efF1 m a0_) k
  have ki : own_To p e below s₁ (mkF m 0 #[.val (.ref a0_), .val (.int (1 : Int32))] []) s₁ (mkF m 0 #[.val (.ref a0_), .val (.int (1 : Int32))] []) := fun t q => q
  obtain ⟨clr1, Arr1, qr1, Sr1, Mr1, Hhr1, Gr1⟩ := id V0
  have k2 : own_To p e below s₁ (mkF m 8 #[.val (.ref a0_), .val (.int (1 : Int32))] [(.int (((((1 : Int32) - (1 : Int32)).toUInt32 >>> ((31 : Int32) &&& 31).toUInt32).toInt32).toInt8.toInt32))]) s₁ (mkF m 0 #[.val (.ref a0_), .val (.int (1 : Int32))] []) := fun t q => ki t (by
    refine XS.iloadN X0.here hx rfl (hb hby own_d14_0) rfl ?_
    show Steps p.tables e below (s₁.setTop (mkF m 1 #[.val (.ref a0_), .val (.int (1 : Int32))] [(.int (1 : Int32))])) _
    refine XS.aloadN X0.here hx rfl (hb hby own_d14_1) rfl rfl ?_
    show Steps p.tables e below (s₁.setTop (mkF m 2 #[.val (.ref a0_), .val (.int (1 : Int32))] [(.ref a0_), (.int (1 : Int32))])) _
    refine X0.arraylength hx (by rw [e0]; exact Arr1.1) (State.isArrayOf_alike hZ.alike Arr1.2.1) (g := (mkF m 2 #[.val (.ref a0_), .val (.int (1 : Int32))] [(.ref a0_), (.int (1 : Int32))])) rfl rfl (hb hby own_d14_2) _ ?_
    rw [len_of Sr1 Mr1]
    show Steps p.tables e below (s₁.setTop (mkF m 3 #[.val (.ref a0_), .val (.int (1 : Int32))] [(.int (1 : Int32)), (.int (1 : Int32))])) _
    refine XS.isub X0.here hx rfl (hb hby own_d14_3) rfl ?_
    show Steps p.tables e below (s₁.setTop (mkF m 4 #[.val (.ref a0_), .val (.int (1 : Int32))] [(.int ((1 : Int32) - (1 : Int32)))])) _
    refine XS.bipush X0.here hx rfl (hb hby own_d14_4) ?_
    show Steps p.tables e below (s₁.setTop (mkF m 6 #[.val (.ref a0_), .val (.int (1 : Int32))] [(.int (31 : Int32)), (.int ((1 : Int32) - (1 : Int32)))])) _
    refine XS.iushr X0.here hx rfl (hb hby own_d14_6) rfl ?_
    show Steps p.tables e below (s₁.setTop (mkF m 7 #[.val (.ref a0_), .val (.int (1 : Int32))] [(.int ((((1 : Int32) - (1 : Int32)).toUInt32 >>> ((31 : Int32) &&& 31).toUInt32).toInt32))])) _
    refine XS.i2b X0.here hx rfl (hb hby own_d14_7) rfl ?_
    show Steps p.tables e below (s₁.setTop (mkF m 8 #[.val (.ref a0_), .val (.int (1 : Int32))] [(.int (((((1 : Int32) - (1 : Int32)).toUInt32 >>> ((31 : Int32) &&& 31).toUInt32).toInt32).toInt8.toInt32))])) _
    exact q)
  obtain ⟨fs, hr, hrun, hended, hW, hsame⟩ := X0.leave (v := some (.int (nar .byte (((((1 : Int32) - (1 : Int32)).toUInt32 >>> ((31 : Int32) &&& 31).toUInt32).toInt32).toInt8.toInt32)))) (fun h => by rw [Bd.returns] at h; cases h)
  refine ⟨_, _, k0 _ (k2 _ ?_), hrun, hended, _, _, rfl, ?_, ⟨_, rfl⟩, hW, hsame.mono (by decide) (by decide)⟩
  · show Steps p.tables e below (s₁.setTop (mkF m 8 #[.val (.ref a0_), .val (.int (1 : Int32))] [(.int (((((1 : Int32) - (1 : Int32)).toUInt32 >>> ((31 : Int32) &&& 31).toUInt32).toInt32).toInt8.toInt32))])) _
    exact retN X0 hx (t := .byte) Bd.returns (by simp) (hb hby own_d14_8) hr
  · show QF1 Z a0_ kb_ vs h0 n0 _ s₁.heap _
    rw [e0]
    exact ⟨congrArg (fun z => some (Value.int z)) (by decide), N0, rfl⟩
theorem own_efF2 (m : MethodId) (x0 : Addr) : entryFrame m #[(.ref x0), (.int (2 : Int32))] 2 = mkF m 0 #[.val (.ref x0), .val (.int (2 : Int32))] [] := by first | (simp [entryFrame, mkF, argsToLocals, Value.category]; done) | rfl
def QF2 (Z : State) (a0_ : Addr) (kb_ : ClassId) (vs : List Value) (h0 : Heap) (n0 : Nat) (v : Option Value) (h : Heap) (L : List Loc) : Prop := v = some (.int (0 : Int32)) ∧ Fr n0 L ∧ h = h0
set_option maxRecDepth 65536 in
set_option maxHeartbeats 40000000 in
theorem rmF2 (l : Launch) (Z : State) (a0 : Array Value) (hw : ∀ d ∈ tables_1, d.before a0 Z = true) (ws : List Jvm.Cond) (a0_ : Addr) (kb_ : ClassId) (vs : List Value) (h0 : Heap) (n0 : Nat) (Z0 : n0 ≤ h0.size) (V0 : Arv Z h0 a0_ kb_ .byte (2 : Int32) vs (.int (0 : Int32))) :
    MetFree l (⟨"java/lang/StringUTF16", "coderFromArrayLen", "([BI)B"⟩ : MethodName) (head1 (Jvm.Cond.code (⟨"java/lang/StringUTF16", "coderFromArrayLen", "([BI)B"⟩ : MethodName) jdk_52_method_15_code 2 (some .byte) :: ws) ({ frames := 0, cells := 0, slots := 0, locals := 0 } : Room)) (fun a U => a = #[(.ref a0_), (.int (2 : Int32))] ∧ Z.Warmed39 U.vm ∧ U.heap = h0) (fun _ _ _ _ _ => True) (fun _ U o U' => ∃ v L, o = .returned v ∧ QF2 Z a0_ kb_ vs h0 n0 v U'.heap L ∧ FrameEnd U o U' L ({ frames := 0, cells := 0, slots := 0, locals := 0 } : Room).cells ({ frames := 0, cells := 0, slots := 0, locals := 0 } : Room).slots) := by
  refine MetFree.of_bodySF (plainFor_of_name own_pn14) hisR ?_
  intro p e s m args below meth c s₁ Bd hml0 hP hK
  obtain ⟨rfl, hZ, hh⟩ := hP
  have hx := Bd.exec
  have hby := Bd.bytes
  have hml : c.maxLocals = 2 := hml0
  have hown : s.vm.findClass "java/lang/StringUTF16" = some m.cls := findClass_of_methodNamed Bd.named
  have hnm := (name_of_methodNamed Bd.named Bd.method).1
  have X0 : Stand p l e ({ frames := 0, cells := 0, slots := 0, locals := 0 } : Room) s m #[(.ref a0_), (.int (2 : Int32))] below meth c s₁ [] 0 0 := Stand.of_body Bd
  have e0 : s₁.heap = h0 := by rw [← hh, Bd.state]; rfl
  have N0 := Fr.nil n0
  have k0 : own_To p e below s₁ (mkF m 0 #[.val (.ref a0_), .val (.int (2 : Int32))] []) s₁ (entryFrame m #[(.ref a0_), (.int (2 : Int32))] 2) := fun t k => castTop (own_efF2 m a0_) k
  have ki : own_To p e below s₁ (mkF m 0 #[.val (.ref a0_), .val (.int (2 : Int32))] []) s₁ (mkF m 0 #[.val (.ref a0_), .val (.int (2 : Int32))] []) := fun t q => q
  obtain ⟨clr1, Arr1, qr1, Sr1, Mr1, Hhr1, Gr1⟩ := id V0
  have k2 : own_To p e below s₁ (mkF m 8 #[.val (.ref a0_), .val (.int (2 : Int32))] [(.int (((((2 : Int32) - (2 : Int32)).toUInt32 >>> ((31 : Int32) &&& 31).toUInt32).toInt32).toInt8.toInt32))]) s₁ (mkF m 0 #[.val (.ref a0_), .val (.int (2 : Int32))] []) := fun t q => ki t (by
    refine XS.iloadN X0.here hx rfl (hb hby own_d14_0) rfl ?_
    show Steps p.tables e below (s₁.setTop (mkF m 1 #[.val (.ref a0_), .val (.int (2 : Int32))] [(.int (2 : Int32))])) _
    refine XS.aloadN X0.here hx rfl (hb hby own_d14_1) rfl rfl ?_
    show Steps p.tables e below (s₁.setTop (mkF m 2 #[.val (.ref a0_), .val (.int (2 : Int32))] [(.ref a0_), (.int (2 : Int32))])) _
    refine X0.arraylength hx (by rw [e0]; exact Arr1.1) (State.isArrayOf_alike hZ.alike Arr1.2.1) (g := (mkF m 2 #[.val (.ref a0_), .val (.int (2 : Int32))] [(.ref a0_), (.int (2 : Int32))])) rfl rfl (hb hby own_d14_2) _ ?_
    rw [len_of Sr1 Mr1]
    show Steps p.tables e below (s₁.setTop (mkF m 3 #[.val (.ref a0_), .val (.int (2 : Int32))] [(.int (2 : Int32)), (.int (2 : Int32))])) _
    refine XS.isub X0.here hx rfl (hb hby own_d14_3) rfl ?_
    show Steps p.tables e below (s₁.setTop (mkF m 4 #[.val (.ref a0_), .val (.int (2 : Int32))] [(.int ((2 : Int32) - (2 : Int32)))])) _
    refine XS.bipush X0.here hx rfl (hb hby own_d14_4) ?_
    show Steps p.tables e below (s₁.setTop (mkF m 6 #[.val (.ref a0_), .val (.int (2 : Int32))] [(.int (31 : Int32)), (.int ((2 : Int32) - (2 : Int32)))])) _
    refine XS.iushr X0.here hx rfl (hb hby own_d14_6) rfl ?_
    show Steps p.tables e below (s₁.setTop (mkF m 7 #[.val (.ref a0_), .val (.int (2 : Int32))] [(.int ((((2 : Int32) - (2 : Int32)).toUInt32 >>> ((31 : Int32) &&& 31).toUInt32).toInt32))])) _
    refine XS.i2b X0.here hx rfl (hb hby own_d14_7) rfl ?_
    show Steps p.tables e below (s₁.setTop (mkF m 8 #[.val (.ref a0_), .val (.int (2 : Int32))] [(.int (((((2 : Int32) - (2 : Int32)).toUInt32 >>> ((31 : Int32) &&& 31).toUInt32).toInt32).toInt8.toInt32))])) _
    exact q)
  obtain ⟨fs, hr, hrun, hended, hW, hsame⟩ := X0.leave (v := some (.int (nar .byte (((((2 : Int32) - (2 : Int32)).toUInt32 >>> ((31 : Int32) &&& 31).toUInt32).toInt32).toInt8.toInt32)))) (fun h => by rw [Bd.returns] at h; cases h)
  refine ⟨_, _, k0 _ (k2 _ ?_), hrun, hended, _, _, rfl, ?_, ⟨_, rfl⟩, hW, hsame.mono (by decide) (by decide)⟩
  · show Steps p.tables e below (s₁.setTop (mkF m 8 #[.val (.ref a0_), .val (.int (2 : Int32))] [(.int (((((2 : Int32) - (2 : Int32)).toUInt32 >>> ((31 : Int32) &&& 31).toUInt32).toInt32).toInt8.toInt32))])) _
    exact retN X0 hx (t := .byte) Bd.returns (by simp) (hb hby own_d14_8) hr
  · show QF2 Z a0_ kb_ vs h0 n0 _ s₁.heap _
    rw [e0]
    exact ⟨congrArg (fun z => some (Value.int z)) (by decide), N0, rfl⟩
theorem own_d4_0 : decode jdk_42_method_149_code 0 = .ok (.aload_n 0, 1) := by decide +kernel
theorem own_d4_1 : decode jdk_42_method_149_code 1 = .ok (.invokespecial 1, 3) := by decide +kernel
theorem own_d4_4 : decode jdk_42_method_149_code 4 = .ok (.iload_n 3, 1) := by decide +kernel
theorem own_d4_5 : decode jdk_42_method_149_code 5 = .ok (.ifCond .ne 22, 3) := by decide +kernel
theorem own_d4_8 : decode jdk_42_method_149_code 8 = .ok (.aload_n 0, 1) := by decide +kernel
theorem own_d4_9 : decode jdk_42_method_149_code 9 = .ok (.ldc 7, 2) := by decide +kernel
theorem own_d4_11 : decode jdk_42_method_149_code 11 = .ok (.getfield 9, 3) := by decide +kernel
theorem own_d4_14 : decode jdk_42_method_149_code 14 = .ok (.putfield 9, 3) := by decide +kernel
theorem own_d4_17 : decode jdk_42_method_149_code 17 = .ok (.aload_n 0, 1) := by decide +kernel
theorem own_d4_18 : decode jdk_42_method_149_code 18 = .ok (.ldc 7, 2) := by decide +kernel
theorem own_d4_20 : decode jdk_42_method_149_code 20 = .ok (.getfield 15, 3) := by decide +kernel
theorem own_d4_23 : decode jdk_42_method_149_code 23 = .ok (.putfield 15, 3) := by decide +kernel
theorem own_d4_26 : decode jdk_42_method_149_code 26 = .ok (.return_, 1) := by decide +kernel
theorem own_pn4 : plainName "java/lang/String" = true := by first | (simp [plainName, overriddenIn]; done) | decide +kernel
theorem own_efI0 (m : MethodId) (x0 : Addr) (x1 : Addr) : entryFrame m #[(.ref x0), (.ref x1), (.int (0 : Int32)), (.int (0 : Int32)), .null] 6 = mkF m 0 #[.val (.ref x0), .val (.ref x1), .val (.int (0 : Int32)), .val (.int (0 : Int32)), .val .null, .unset] [] := by first | (simp [entryFrame, mkF, argsToLocals, Value.category]; done) | rfl
def QI0 (Z : State) (a0_ : Addr) (a1 : Addr) (h0 : Heap) (n0 : Nat) (v : Option Value) (h : Heap) (L : List Loc) : Prop := ∃ (b : Addr) (kb : ClassId), v = none ∧ Fr n0 L ∧ Keep h0 h [a0_] ∧ Exa Z h a0_ "java/lang/String" ∧ Fld Z h a0_ "java/lang/String" "coder" "B" (.int (0 : Int32)) ∧ Fld Z h a0_ "java/lang/String" "value" "[B" (.ref b) ∧ Arv Z h b kb .byte (0 : Int32) [] (.int (0 : Int32))
set_option maxRecDepth 65536 in
set_option maxHeartbeats 40000000 in
theorem rmI0 (l : Launch) (Z : State) (a0 : Array Value) (hw : ∀ d ∈ tables_1, d.before a0 Z = true) (ws : List Jvm.Cond) (a0_ : Addr) (a1 : Addr) (h0 : Heap) (n0 : Nat) (Z0 : n0 ≤ h0.size) (F_value : Fld Z h0 a0_ "java/lang/String" "value" "[B" .null) (F_coder : Fld Z h0 a0_ "java/lang/String" "coder" "B" (.int (0 : Int32))) (E_ : Exa Z h0 a0_ "java/lang/String") (g_ : n0 ≤ a0_) (hEL : EW Z a0 own_EL) :
    MetFree l (⟨"java/lang/String", "<init>", "([CIILjava/lang/Void;)V"⟩ : MethodName) (head1 (Jvm.Cond.code (⟨"java/lang/String", "<init>", "([CIILjava/lang/Void;)V"⟩ : MethodName) jdk_42_method_149_code 6 none :: ws) ({ frames := 1, cells := 4, slots := 8, locals := 12 } : Room)) (fun a U => a = #[(.ref a0_), (.ref a1), (.int (0 : Int32)), (.int (0 : Int32)), .null] ∧ Z.Warmed39 U.vm ∧ U.heap = h0 ∧ CHv Z own_EL U.vm h0) (fun _ _ _ _ _ => True) (fun _ U o U' => ∃ v L, o = .returned v ∧ QI0 Z a0_ a1 h0 n0 v U'.heap L ∧ CHr Z own_EL U.vm U.heap U'.vm U'.heap ∧ ReturnedEndW U o U' L ({ frames := 1, cells := 4, slots := 8, locals := 12 } : Room).cells ({ frames := 1, cells := 4, slots := 8, locals := 12 } : Room).slots) := by
  refine MetFree.of_bodySF (plainFor_of_name own_pn4) hisR ?_
  intro p e s m args below meth c s₁ Bd hml0 hP hK
  obtain ⟨rfl, hZ, hh, hCH⟩ := hP
  have hx := Bd.exec
  have hby := Bd.bytes
  have hml : c.maxLocals = 6 := hml0
  have hown : s.vm.findClass "java/lang/String" = some m.cls := findClass_of_methodNamed Bd.named
  have hnm := (name_of_methodNamed Bd.named Bd.method).1
  have X0 : Stand p l e ({ frames := 1, cells := 4, slots := 8, locals := 12 } : Room) s m #[(.ref a0_), (.ref a1), (.int (0 : Int32)), (.int (0 : Int32)), .null] below meth c s₁ [] 0 0 := Stand.of_body Bd
  have e0 : s₁.heap = h0 := by rw [← hh, Bd.state]; rfl
  have N0 := Fr.nil n0
  have k0 : own_To p e below s₁ (mkF m 0 #[.val (.ref a0_), .val (.ref a1), .val (.int (0 : Int32)), .val (.int (0 : Int32)), .val .null, .unset] []) s₁ (entryFrame m #[(.ref a0_), (.ref a1), (.int (0 : Int32)), (.int (0 : Int32)), .null] 6) := fun t k => castTop (own_efI0 m a0_ a1) k
  have ki : own_To p e below s₁ (mkF m 0 #[.val (.ref a0_), .val (.ref a1), .val (.int (0 : Int32)), .val (.int (0 : Int32)), .val .null, .unset] []) s₁ (mkF m 0 #[.val (.ref a0_), .val (.ref a1), .val (.int (0 : Int32)), .val (.int (0 : Int32)), .val .null, .unset] []) := fun t q => q
  have hstr : ∀ a ∈ Bundle.stringAtoms, a.before a0 Z = true := fun d hd => hw d ((by decide +kernel : ∀ d ∈ Bundle.stringAtoms, d ∈ tables_1) d hd)
  have X0 := own_base X0
  have CR0 := CHr.refl hCH
  have Sf0_a0_ : Safe Z own_EL s.vm h0 a0_ := own_safe hZ.alike E_ F_value
  obtain ⟨T1, X1, e1, st1⟩ := initO X0 hx hZ hown (hw _ (List.mem_of_getElem? (i := 19) rfl)) (hw _ (List.mem_of_getElem? (i := 20) rfl)) (hw _ (List.mem_of_getElem? (i := 21) rfl)) e0 (g := (mkF m 1 #[.val (.ref a0_), .val (.ref a1), .val (.int (0 : Int32)), .val (.int (0 : Int32)), .val .null, .unset] [(.ref a0_)])) rfl (by rw [hml]; rfl) rfl (hb hby own_d4_1) (by decide) (W := 0) (by show 2 * 0 + _ ≤ _; exact Nat.le_of_eq rfl) (by decide)
  have k2 : own_To p e below T1 (mkF m 9 #[.val (.ref a0_), .val (.ref a1), .val (.int (0 : Int32)), .val (.int (0 : Int32)), .val .null, .unset] [(.ref a0_)]) s₁ (mkF m 0 #[.val (.ref a0_), .val (.ref a1), .val (.int (0 : Int32)), .val (.int (0 : Int32)), .val .null, .unset] []) := fun t q => ki t (by
    refine XS.aloadN X0.here hx rfl (hb hby own_d4_0) rfl rfl ?_
    show Steps p.tables e below (s₁.setTop (mkF m 1 #[.val (.ref a0_), .val (.ref a1), .val (.int (0 : Int32)), .val (.int (0 : Int32)), .val .null, .unset] [(.ref a0_)])) _
    refine st1 _ ?_
    show Steps p.tables e below (T1.setTop (mkF m 4 #[.val (.ref a0_), .val (.ref a1), .val (.int (0 : Int32)), .val (.int (0 : Int32)), .val .null, .unset] [])) _
    refine XS.iloadN X1.here hx rfl (hb hby own_d4_4) rfl ?_
    show Steps p.tables e below (T1.setTop (mkF m 5 #[.val (.ref a0_), .val (.ref a1), .val (.int (0 : Int32)), .val (.int (0 : Int32)), .val .null, .unset] [(.int (0 : Int32))])) _
    refine XS.ifNo X1.here hx rfl (hb hby own_d4_5) rfl ((if0 _ _).trans (teq rfl).2) ?_
    show Steps p.tables e below (T1.setTop (mkF m 8 #[.val (.ref a0_), .val (.ref a1), .val (.int (0 : Int32)), .val (.int (0 : Int32)), .val .null, .unset] [])) _
    refine XS.aloadN X1.here hx rfl (hb hby own_d4_8) rfl rfl ?_
    show Steps p.tables e below (T1.setTop (mkF m 9 #[.val (.ref a0_), .val (.ref a1), .val (.int (0 : Int32)), .val (.int (0 : Int32)), .val .null, .unset] [(.ref a0_)])) _
    exact q)
  obtain ⟨b3, T3, h3, kk3, bb3, kb3, X3, e3, E3, hS3, hk3, hZ3, hown3, Ex3, Fc3, Fv3, V3, -, -, hC3, -, -, st3⟩ := ldcCH (vm0 := s.vm) X1 hx hZ hown (hw _ (List.mem_of_getElem? (i := 22) rfl)) hstr e1 (State.WarmedH.since (State.WarmedH.refl s) 0) (Nat.zero_le _) hEL (List.mem_of_getElem? (i := 2) rfl) hCH (vs := []) (z := (0 : Int32)) ⟨by decide, rfl⟩ (by decide) rfl (g := (mkF m 9 #[.val (.ref a0_), .val (.ref a1), .val (.int (0 : Int32)), .val (.int (0 : Int32)), .val .null, .unset] [(.ref a0_)])) rfl (hb hby own_d4_9) (n := 0) (by decide) (by decide) (by decide) (by decide)
  have hZ := hZ3
  have hown := hown3
  have CRl3 := CR0.trans hC3
  have CHl3 := CRl3.1
  have Sf3_a0_ := hC3.safe (E_.lt) Sf0_a0_
  have F4 := (E_.ext E3)
  have neb : a0_ ≠ bb3 := Exa.neArv F4 V3 (hw _ (List.mem_of_getElem? (i := 9) rfl))
  obtain ⟨T5, X5, e5, st5⟩ := getF X3 hx hZ hown (host := "") (Or.inl (hw _ (List.mem_of_getElem? (i := 28) rfl))) Via.refl e3 Fv3 (g := (mkF m 11 #[.val (.ref a0_), .val (.ref a1), .val (.int (0 : Int32)), .val (.int (0 : Int32)), .val .null, .unset] [(.ref b3), (.ref a0_)])) rfl rfl (hb hby own_d4_11)
  have F6 := (F_value.ext E3)
  obtain ⟨T7, h7, X7, e7, W7, st7⟩ := putF X5 hx hZ hown (host := "") (Or.inl (hw _ (List.mem_of_getElem? (i := 28) rfl))) Via.refl e5 F6 F4 (Or.inr ⟨(hw _ (List.mem_of_getElem? (i := 24) rfl)), rfl, hnm⟩) (hw _ (List.mem_of_getElem? (i := 9) rfl)) (ty := (.array .byte)) (by decide) rfl rfl (g := (mkF m 14 #[.val (.ref a0_), .val (.ref a1), .val (.int (0 : Int32)), .val (.int (0 : Int32)), .val .null, .unset] [(.ref bb3), (.ref a0_)])) rfl rfl (hb hby own_d4_14)
  have N7 := Fr.snoc X7 N0 g_
  obtain ⟨Lf7, Nf7, Xf7⟩ := own_fold X7 N7
  have Fw7 := F6.same W7
  have k8 : own_To p e below T7 (mkF m 18 #[.val (.ref a0_), .val (.ref a1), .val (.int (0 : Int32)), .val (.int (0 : Int32)), .val .null, .unset] [(.ref a0_)]) s₁ (mkF m 0 #[.val (.ref a0_), .val (.ref a1), .val (.int (0 : Int32)), .val (.int (0 : Int32)), .val .null, .unset] []) := fun t q => k2 t (by
    refine st3 _ ?_
    show Steps p.tables e below (T3.setTop (mkF m 11 #[.val (.ref a0_), .val (.ref a1), .val (.int (0 : Int32)), .val (.int (0 : Int32)), .val .null, .unset] [(.ref b3), (.ref a0_)])) _
    refine st5 _ ?_
    show Steps p.tables e below (T5.setTop (mkF m 14 #[.val (.ref a0_), .val (.ref a1), .val (.int (0 : Int32)), .val (.int (0 : Int32)), .val .null, .unset] [(.ref bb3), (.ref a0_)])) _
    refine st7 _ ?_
    show Steps p.tables e below (T7.setTop (mkF m 17 #[.val (.ref a0_), .val (.ref a1), .val (.int (0 : Int32)), .val (.int (0 : Int32)), .val .null, .unset] [])) _
    refine XS.aloadN Xf7.here hx rfl (hb hby own_d4_17) rfl rfl ?_
    show Steps p.tables e below (T7.setTop (mkF m 18 #[.val (.ref a0_), .val (.ref a1), .val (.int (0 : Int32)), .val (.int (0 : Int32)), .val .null, .unset] [(.ref a0_)])) _
    exact q)
  have CRc10 := CRl3.trans (CHr.wr W7 Sf3_a0_ CHl3)
  have Sfc10_a0_ := Safe.wr W7 Sf3_a0_ CHl3 Sf3_a0_
  have CHc10 := CRc10.1
  obtain ⟨b9, T9, h9, kk9, bb9, kb9, X9, e9, E9, hS9, hk9, hZ9, hown9, Ex9, Fc9, Fv9, V9, -, -, hC9, -, -, st9⟩ := ldcCH (vm0 := T3.vm) Xf7 hx hZ hown (hw _ (List.mem_of_getElem? (i := 22) rfl)) hstr e7 hS3 (Nat.le_trans hk3 (Keep.of_wr W7).1) hEL (List.mem_of_getElem? (i := 2) rfl) CHc10 (vs := []) (z := (0 : Int32)) ⟨by decide, rfl⟩ (by decide) rfl (g := (mkF m 18 #[.val (.ref a0_), .val (.ref a1), .val (.int (0 : Int32)), .val (.int (0 : Int32)), .val .null, .unset] [(.ref a0_)])) rfl (hb hby own_d4_18) (n := 0) (by decide) (by decide) (by decide) (by decide)
  have hZ := hZ9
  have hown := hown9
  have CRl9 := CRc10.trans hC9
  have CHl9 := CRl9.1
  have Sf9_a0_ := hC9.safe ((F4.wr W7).lt) Sfc10_a0_
  obtain ⟨T11, X11, e11, st11⟩ := getF X9 hx hZ hown (host := "") (Or.inl (hw _ (List.mem_of_getElem? (i := 29) rfl))) Via.refl e9 Fc9 (g := (mkF m 20 #[.val (.ref a0_), .val (.ref a1), .val (.int (0 : Int32)), .val (.int (0 : Int32)), .val .null, .unset] [(.ref b9), (.ref a0_)])) rfl rfl (hb hby own_d4_20)
  have F12 := (((F_coder.ext E3).other W7 (Or.inr (slot_ne (Or.inr (hw _ (List.mem_of_getElem? (i := 25) rfl))) (Or.inr (hw _ (List.mem_of_getElem? (i := 24) rfl))) (by decide) (t := .byte) (t' := (.array .byte)) (by decide) (by decide)))).ext E9)
  have F13 := ((F4.wr W7).ext E9)
  obtain ⟨T14, h14, X14, e14, W14, st14⟩ := putFN X11 hx hZ hown (hw _ (List.mem_of_getElem? (i := 29) rfl)) Via.refl e11 F12 F13 (Or.inr ⟨(hw _ (List.mem_of_getElem? (i := 25) rfl)), rfl, hnm⟩) (hw _ (List.mem_of_getElem? (i := 9) rfl)) (ty := .byte) (v' := (.int (nar .byte (0 : Int32)))) (by decide) rfl (fits_nar_byte _) (g := (mkF m 23 #[.val (.ref a0_), .val (.ref a1), .val (.int (0 : Int32)), .val (.int (0 : Int32)), .val .null, .unset] [(.int (0 : Int32)), (.ref a0_)])) rfl rfl (hb hby own_d4_23)
  have N14 := Fr.snoc X14 Nf7 g_
  obtain ⟨Lf14, Nf14, Xf14⟩ := own_fold X14 N14
  have Fw14 := F12.same W14
  have Fz : Fld Z h14 a0_ "java/lang/String" "coder" "B" (.int (0 : Int32)) := by have q := Fw14; rw [show nar .byte (0 : Int32) = 0 from by decide] at q; exact q
  have F15 := (F13.wr W14)
  have F16 := ((Fw7.ext E9).other W14 (Or.inr (slot_ne (Or.inr (hw _ (List.mem_of_getElem? (i := 24) rfl))) (Or.inr (hw _ (List.mem_of_getElem? (i := 25) rfl))) (by decide) (t := (.array .byte)) (t' := .byte) (by decide) (by decide))))
  have F17 := (((V3.other W7 (Ne.symm neb)).ext E9).other W14 (Ne.symm neb))
  have K18 := ((((Keep.refl h0 [a0_]).ext E3).wr W7 (Or.inl (List.mem_of_getElem? (i := 0) rfl))).ext E9)
  have K19 : Keep h0 h14 [a0_] := (K18.wr W14 (Or.inl (List.mem_of_getElem? (i := 0) rfl)))
  have k20 : own_To p e below T14 (mkF m 26 #[.val (.ref a0_), .val (.ref a1), .val (.int (0 : Int32)), .val (.int (0 : Int32)), .val .null, .unset] []) s₁ (mkF m 0 #[.val (.ref a0_), .val (.ref a1), .val (.int (0 : Int32)), .val (.int (0 : Int32)), .val .null, .unset] []) := fun t q => k8 t (by
    refine st9 _ ?_
    show Steps p.tables e below (T9.setTop (mkF m 20 #[.val (.ref a0_), .val (.ref a1), .val (.int (0 : Int32)), .val (.int (0 : Int32)), .val .null, .unset] [(.ref b9), (.ref a0_)])) _
    refine st11 _ ?_
    show Steps p.tables e below (T11.setTop (mkF m 23 #[.val (.ref a0_), .val (.ref a1), .val (.int (0 : Int32)), .val (.int (0 : Int32)), .val .null, .unset] [(.int (0 : Int32)), (.ref a0_)])) _
    refine st14 _ ?_
    show Steps p.tables e below (T14.setTop (mkF m 26 #[.val (.ref a0_), .val (.ref a1), .val (.int (0 : Int32)), .val (.int (0 : Int32)), .val .null, .unset] [])) _
    exact q)
  have CRc21 := CRl9.trans (CHr.wr W14 Sf9_a0_ CHl9)
  have Sfc21_a0_ := Safe.wr W14 Sf9_a0_ CHl9 Sf9_a0_
  have CHc21 := CRc21.1
  have hCe := CRc21.trans (CHv.at (vm0 := T9.vm) Xf14 hZ hEL CHc21)
  obtain ⟨fs, hr, hrun, hended, hEnd⟩ := Stand.leaveW (s := s) (vm₁ := T9.vm) Xf14 hS9 (by rw [e14]; exact (Nat.le_trans hk9 (Keep.of_wr W14).1)) (v := none) (fun _ => rfl)
  refine ⟨_, _, k0 _ (k20 _ ?_), hrun, hended, _, _, rfl, ?_, ?_, hEnd.1, hEnd.2.1, hEnd.2.2.1, hEnd.2.2.2.mono (by decide) (by decide)⟩
  · show Steps p.tables e below (T14.setTop (mkF m 26 #[.val (.ref a0_), .val (.ref a1), .val (.int (0 : Int32)), .val (.int (0 : Int32)), .val .null, .unset] [])) _
    exact Xf14.returnOut hx Bd.returns (hb hby own_d4_26) hr
  · show QI0 Z a0_ a1 h0 n0 _ T14.heap _
    rw [e14]
    exact ⟨bb3, kb3, rfl, Nf14, K19, F15, Fz, F16, F17⟩
  · show CHr Z own_EL s.vm s.heap T14.vm T14.heap
    rw [hh, e14]; exact hCe
theorem own_pd10 : parseMethodDescriptor "([CII)[B" = some ⟨[(.array .char), .int, .int], some (.array .byte)⟩ := by decide +kernel
theorem own_pd7 : parseMethodDescriptor "([BI)B" = some ⟨[(.array .byte), .int], some .byte⟩ := by decide +kernel
theorem own_d4_27 : decode jdk_42_method_149_code 27 = .ok (.getstatic 38, 3) := by decide +kernel
theorem own_d4_30 : decode jdk_42_method_149_code 30 = .ok (.ifCond .eq 28, 3) := by decide +kernel
theorem own_d4_33 : decode jdk_42_method_149_code 33 = .ok (.aload_n 1, 1) := by decide +kernel
theorem own_d4_34 : decode jdk_42_method_149_code 34 = .ok (.iload_n 2, 1) := by decide +kernel
theorem own_d4_35 : decode jdk_42_method_149_code 35 = .ok (.iload_n 3, 1) := by decide +kernel
theorem own_d4_36 : decode jdk_42_method_149_code 36 = .ok (.invokestatic 177, 3) := by decide +kernel
theorem own_d4_39 : decode jdk_42_method_149_code 39 = .ok (.astore 5, 2) := by decide +kernel
theorem own_d4_41 : decode jdk_42_method_149_code 41 = .ok (.aload_n 0, 1) := by decide +kernel
theorem own_d4_42 : decode jdk_42_method_149_code 42 = .ok (.aload 5, 2) := by decide +kernel
theorem own_d4_44 : decode jdk_42_method_149_code 44 = .ok (.iload_n 3, 1) := by decide +kernel
theorem own_d4_45 : decode jdk_42_method_149_code 45 = .ok (.invokestatic 47, 3) := by decide +kernel
theorem own_d4_48 : decode jdk_42_method_149_code 48 = .ok (.putfield 15, 3) := by decide +kernel
theorem own_d4_51 : decode jdk_42_method_149_code 51 = .ok (.aload_n 0, 1) := by decide +kernel
theorem own_d4_52 : decode jdk_42_method_149_code 52 = .ok (.aload 5, 2) := by decide +kernel
theorem own_d4_54 : decode jdk_42_method_149_code 54 = .ok (.putfield 9, 3) := by decide +kernel
theorem own_d4_57 : decode jdk_42_method_149_code 57 = .ok (.return_, 1) := by decide +kernel
theorem own_efI1 (m : MethodId) (x0 : Addr) (x1 : Addr) : entryFrame m #[(.ref x0), (.ref x1), (.int (0 : Int32)), (.int (1 : Int32)), .null] 6 = mkF m 0 #[.val (.ref x0), .val (.ref x1), .val (.int (0 : Int32)), .val (.int (1 : Int32)), .val .null, .unset] [] := by first | (simp [entryFrame, mkF, argsToLocals, Value.category]; done) | rfl
def QI1 (Z : State) (a0_ : Addr) (a1 : Addr) (kc_ : ClassId) (x0 : Int32) (cs : Int32) (h0 : Heap) (n0 : Nat) (v : Option Value) (h : Heap) (L : List Loc) : Prop := ∃ (b : Addr) (kb : ClassId), v = none ∧ Fr n0 L ∧ Keep h0 h [a0_] ∧ Exa Z h a0_ "java/lang/String" ∧ Fld Z h a0_ "java/lang/String" "coder" "B" (.int (0 : Int32)) ∧ Fld Z h a0_ "java/lang/String" "value" "[B" (.ref b) ∧ Arv Z h b kb .byte (1 : Int32) [(.int (own_by x0))] (.int (0 : Int32))
set_option maxRecDepth 65536 in
set_option maxHeartbeats 40000000 in
theorem rmI1 (l : Launch) (Z : State) (a0 : Array Value) (hw : ∀ d ∈ tables_1, d.before a0 Z = true) (ws : List Jvm.Cond) (a0_ : Addr) (a1 : Addr) (kc_ : ClassId) (x0 : Int32) (cs : Int32) (h0 : Heap) (n0 : Nat) (Z0 : n0 ≤ h0.size) (F_value : Fld Z h0 a0_ "java/lang/String" "value" "[B" .null) (F_coder : Fld Z h0 a0_ "java/lang/String" "coder" "B" (.int (0 : Int32))) (E_ : Exa Z h0 a0_ "java/lang/String") (g_ : n0 ≤ a0_) (V1 : Arv Z h0 a1 kc_ .char (1 : Int32) [(.int x0)] (.int (0 : Int32))) (hx0 : ¬ (255 : Int32) < x0) (SC : Sta Z Z.heap "java/lang/String" "COMPACT_STRINGS" "Z" (.int cs)) (hcs : ¬ cs = (0 : Int32)) (O0 : Old Z n0 h0) :
    MetFree l (⟨"java/lang/String", "<init>", "([CIILjava/lang/Void;)V"⟩ : MethodName) (head1 (Jvm.Cond.code (⟨"java/lang/String", "<init>", "([CIILjava/lang/Void;)V"⟩ : MethodName) jdk_42_method_149_code 6 none :: ws) ({ frames := 2, cells := 1, slots := 1, locals := 35 } : Room)) (fun a U => a = #[(.ref a0_), (.ref a1), (.int (0 : Int32)), (.int (1 : Int32)), .null] ∧ Z.Warmed39 U.vm ∧ U.heap = h0) (fun _ _ _ _ _ => True) (fun _ U o U' => ∃ v L, o = .returned v ∧ QI1 Z a0_ a1 kc_ x0 cs h0 n0 v U'.heap L ∧ FrameEnd U o U' L ({ frames := 2, cells := 1, slots := 1, locals := 35 } : Room).cells ({ frames := 2, cells := 1, slots := 1, locals := 35 } : Room).slots) := by
  refine MetFree.of_bodySF (plainFor_of_name own_pn4) hisR ?_
  intro p e s m args below meth c s₁ Bd hml0 hP hK
  obtain ⟨rfl, hZ, hh⟩ := hP
  have hx := Bd.exec
  have hby := Bd.bytes
  have hml : c.maxLocals = 6 := hml0
  have hown : s.vm.findClass "java/lang/String" = some m.cls := findClass_of_methodNamed Bd.named
  have hnm := (name_of_methodNamed Bd.named Bd.method).1
  have X0 : Stand p l e ({ frames := 2, cells := 1, slots := 1, locals := 35 } : Room) s m #[(.ref a0_), (.ref a1), (.int (0 : Int32)), (.int (1 : Int32)), .null] below meth c s₁ [] 0 0 := Stand.of_body Bd
  have e0 : s₁.heap = h0 := by rw [← hh, Bd.state]; rfl
  have N0 := Fr.nil n0
  have k0 : own_To p e below s₁ (mkF m 0 #[.val (.ref a0_), .val (.ref a1), .val (.int (0 : Int32)), .val (.int (1 : Int32)), .val .null, .unset] []) s₁ (entryFrame m #[(.ref a0_), (.ref a1), (.int (0 : Int32)), (.int (1 : Int32)), .null] 6) := fun t k => castTop (own_efI1 m a0_ a1) k
  have ki : own_To p e below s₁ (mkF m 0 #[.val (.ref a0_), .val (.ref a1), .val (.int (0 : Int32)), .val (.int (1 : Int32)), .val .null, .unset] []) s₁ (mkF m 0 #[.val (.ref a0_), .val (.ref a1), .val (.int (0 : Int32)), .val (.int (1 : Int32)), .val .null, .unset] []) := fun t q => q
  obtain ⟨T1, X1, e1, st1⟩ := initO X0 hx hZ hown (hw _ (List.mem_of_getElem? (i := 19) rfl)) (hw _ (List.mem_of_getElem? (i := 20) rfl)) (hw _ (List.mem_of_getElem? (i := 21) rfl)) e0 (g := (mkF m 1 #[.val (.ref a0_), .val (.ref a1), .val (.int (0 : Int32)), .val (.int (1 : Int32)), .val .null, .unset] [(.ref a0_)])) rfl (by rw [hml]; rfl) rfl (hb hby own_d4_1) (by decide) (W := 0) (by show 2 * 0 + _ ≤ _; exact Nat.le_of_eq rfl) (by decide)
  obtain ⟨T2, X2, e2, st2⟩ := getS2 X1 hx hZ hown (host := "") (Or.inl (hw _ (List.mem_of_getElem? (i := 73) rfl))) Via.refl e1 (SC.ext O0.2) (g := (mkF m 27 #[.val (.ref a0_), .val (.ref a1), .val (.int (0 : Int32)), .val (.int (1 : Int32)), .val .null, .unset] [])) rfl (hb hby own_d4_27)
  obtain ⟨_, _, ⟨T3, L3, kk3, n3⟩, -, X3, ⟨Lc3, hQ3, l3, y3, z3⟩, st3⟩ := Jvm.LawKit.callS X2 hx (y := (⟨"java/lang/StringUTF16", "compress", "([CII)[B"⟩ : MethodName)) hown (mvT hZ (hw _ (List.mem_of_getElem? (i := 80) rfl))) (mvT hZ (hw _ (List.mem_of_getElem? (i := 81) rfl))) (mvT hZ (hw _ (List.mem_of_getElem? (i := 82) rfl))) (mvT hZ (hw _ (List.mem_of_getElem? (i := 83) rfl))) (by decide) (backOf (W := 0) (rmD1 l Z a0 hw [] a1 kc_ x0 h0 n0 Z0 V1 hx0) hZ (hw _ (List.mem_of_getElem? (i := 83) rfl)) (hw _ (List.mem_of_getElem? (i := 82) rfl)) (by decide) (by decide)) (g := (mkF m 36 #[.val (.ref a0_), .val (.ref a1), .val (.int (0 : Int32)), .val (.int (1 : Int32)), .val .null, .unset] [(.int (1 : Int32)), (.int (0 : Int32)), (.ref a1)])) rfl (by rw [hml]; rfl) (argsL := [(.ref a1), (.int (0 : Int32)), (.int (1 : Int32))]) (rest := []) (lenOf own_pd10 rfl) rfl (by show 2 * 0 + _ ≤ _; exact Nat.le_of_eq rfl) (hb hby own_d4_36) (fun _ _ => ⟨rfl, e2, (by decide : 0 + 1 ≤ _), (by decide : 0 + 1 ≤ _)⟩)
  dsimp only [Pt.U, Pt.locs, Pt.cells, Pt.slots] at X3 l3 y3 z3 st3 hQ3
  subst l3 y3 z3
  obtain ⟨rb3, kb3, rfl, N3q, K3, z3z, V3⟩ := hQ3
  have N3 := Fr.app N0 N3q
  have ne_a0__rb3 : a0_ ≠ rb3 := Nat.ne_of_lt (Nat.lt_of_lt_of_le E_.lt z3z)
  have ne_a1_rb3 : a1 ≠ rb3 := Nat.ne_of_lt (Nat.lt_of_lt_of_le V1.lt z3z)
  have K4 : Keep h0 h0 [a0_] := (Keep.refl h0 [a0_])
  have sz_rb3 : h0.size ≤ rb3 := Nat.le_trans K4.1 z3z
  have k5 : own_To p e below T3 (mkF m 42 #[.val (.ref a0_), .val (.ref a1), .val (.int (0 : Int32)), .val (.int (1 : Int32)), .val .null, .val (.ref rb3)] [(.ref a0_)]) s₁ (mkF m 0 #[.val (.ref a0_), .val (.ref a1), .val (.int (0 : Int32)), .val (.int (1 : Int32)), .val .null, .unset] []) := fun t q => ki t (by
    refine XS.aloadN X0.here hx rfl (hb hby own_d4_0) rfl rfl ?_
    show Steps p.tables e below (s₁.setTop (mkF m 1 #[.val (.ref a0_), .val (.ref a1), .val (.int (0 : Int32)), .val (.int (1 : Int32)), .val .null, .unset] [(.ref a0_)])) _
    refine st1 _ ?_
    show Steps p.tables e below (T1.setTop (mkF m 4 #[.val (.ref a0_), .val (.ref a1), .val (.int (0 : Int32)), .val (.int (1 : Int32)), .val .null, .unset] [])) _
    refine XS.iloadN X1.here hx rfl (hb hby own_d4_4) rfl ?_
    show Steps p.tables e below (T1.setTop (mkF m 5 #[.val (.ref a0_), .val (.ref a1), .val (.int (0 : Int32)), .val (.int (1 : Int32)), .val .null, .unset] [(.int (1 : Int32))])) _
    refine XS.ifYes X1.here hx rfl (pc0 := 5) (pc' := 27) rfl (hb hby own_d4_5) rfl ((if0 _ _).trans (feq (by decide)).2) (by decide) (by decide) ?_
    show Steps p.tables e below (T1.setTop (mkF m 27 #[.val (.ref a0_), .val (.ref a1), .val (.int (0 : Int32)), .val (.int (1 : Int32)), .val .null, .unset] [])) _
    refine st2 _ ?_
    show Steps p.tables e below (T2.setTop (mkF m 30 #[.val (.ref a0_), .val (.ref a1), .val (.int (0 : Int32)), .val (.int (1 : Int32)), .val .null, .unset] [(.int cs)])) _
    refine XS.ifNo X2.here hx rfl (hb hby own_d4_30) rfl ((if0 _ _).trans (feq hcs).1) ?_
    show Steps p.tables e below (T2.setTop (mkF m 33 #[.val (.ref a0_), .val (.ref a1), .val (.int (0 : Int32)), .val (.int (1 : Int32)), .val .null, .unset] [])) _
    refine XS.aloadN X2.here hx rfl (hb hby own_d4_33) rfl rfl ?_
    show Steps p.tables e below (T2.setTop (mkF m 34 #[.val (.ref a0_), .val (.ref a1), .val (.int (0 : Int32)), .val (.int (1 : Int32)), .val .null, .unset] [(.ref a1)])) _
    refine XS.iloadN X2.here hx rfl (hb hby own_d4_34) rfl ?_
    show Steps p.tables e below (T2.setTop (mkF m 35 #[.val (.ref a0_), .val (.ref a1), .val (.int (0 : Int32)), .val (.int (1 : Int32)), .val .null, .unset] [(.int (0 : Int32)), (.ref a1)])) _
    refine XS.iloadN X2.here hx rfl (hb hby own_d4_35) rfl ?_
    show Steps p.tables e below (T2.setTop (mkF m 36 #[.val (.ref a0_), .val (.ref a1), .val (.int (0 : Int32)), .val (.int (1 : Int32)), .val .null, .unset] [(.int (1 : Int32)), (.int (0 : Int32)), (.ref a1)])) _
    refine st3 _ ?_
    show Steps p.tables e below (T3.setTop (mkF m 39 #[.val (.ref a0_), .val (.ref a1), .val (.int (0 : Int32)), .val (.int (1 : Int32)), .val .null, .unset] [(.ref rb3)])) _
    refine XS.astore X3.here hx rfl (hb hby own_d4_39) rfl rfl (l' := #[.val (.ref a0_), .val (.ref a1), .val (.int (0 : Int32)), .val (.int (1 : Int32)), .val .null, .val (.ref rb3)]) rfl ?_
    show Steps p.tables e below (T3.setTop (mkF m 41 #[.val (.ref a0_), .val (.ref a1), .val (.int (0 : Int32)), .val (.int (1 : Int32)), .val .null, .val (.ref rb3)] [])) _
    refine XS.aloadN X3.here hx rfl (hb hby own_d4_41) rfl rfl ?_
    show Steps p.tables e below (T3.setTop (mkF m 42 #[.val (.ref a0_), .val (.ref a1), .val (.int (0 : Int32)), .val (.int (1 : Int32)), .val .null, .val (.ref rb3)] [(.ref a0_)])) _
    exact q)
  have K7 : Keep h0 T3.heap [a0_] := (K4.trans K3 all0)
  obtain ⟨_, _, ⟨T6, L6, kk6, n6⟩, -, X6, ⟨Lc6, hQ6, l6, y6, z6⟩, st6⟩ := Jvm.LawKit.callS X3 hx (y := (⟨"java/lang/StringUTF16", "coderFromArrayLen", "([BI)B"⟩ : MethodName)) hown (mvT hZ (hw _ (List.mem_of_getElem? (i := 87) rfl))) (mvT hZ (hw _ (List.mem_of_getElem? (i := 88) rfl))) (mvT hZ (hw _ (List.mem_of_getElem? (i := 82) rfl))) (mvT hZ (hw _ (List.mem_of_getElem? (i := 89) rfl))) (by decide) (backOf (W := 1) (rmF1 l Z a0 hw [] rb3 kb3 [(.int (own_by x0))] T3.heap n0 (Nat.le_trans Z0 K7.1) V3) hZ (hw _ (List.mem_of_getElem? (i := 89) rfl)) (hw _ (List.mem_of_getElem? (i := 82) rfl)) (by decide) (by decide)) (g := (mkF m 45 #[.val (.ref a0_), .val (.ref a1), .val (.int (0 : Int32)), .val (.int (1 : Int32)), .val .null, .val (.ref rb3)] [(.int (1 : Int32)), (.ref rb3), (.ref a0_)])) rfl (by rw [hml]; rfl) (argsL := [(.ref rb3), (.int (1 : Int32))]) (rest := [(.ref a0_)]) (lenOf own_pd7 rfl) rfl (by show 2 * 0 + _ ≤ _; exact Nat.le_of_eq rfl) (hb hby own_d4_45) (fun _ _ => ⟨rfl, rfl, (by decide : 1 + 0 ≤ _), (by decide : 1 + 0 ≤ _)⟩)
  dsimp only [Pt.U, Pt.locs, Pt.cells, Pt.slots] at X6 l6 y6 z6 st6 hQ6
  subst l6 y6 z6
  obtain ⟨rfl, N6q, e6⟩ := hQ6
  have N6 := Fr.app N3 N6q
  have F8 := (F_coder.keep K3 nin0)
  have F9 := (E_.keep K3)
  obtain ⟨T10, h10, X10, e10, W10, st10⟩ := putFN X6 hx hZ hown (hw _ (List.mem_of_getElem? (i := 29) rfl)) Via.refl e6 F8 F9 (Or.inr ⟨(hw _ (List.mem_of_getElem? (i := 25) rfl)), rfl, hnm⟩) (hw _ (List.mem_of_getElem? (i := 9) rfl)) (ty := .byte) (v' := (.int (nar .byte (0 : Int32)))) (by decide) rfl (fits_nar_byte _) (g := (mkF m 48 #[.val (.ref a0_), .val (.ref a1), .val (.int (0 : Int32)), .val (.int (1 : Int32)), .val .null, .val (.ref rb3)] [(.int (0 : Int32)), (.ref a0_)])) rfl rfl (hb hby own_d4_48)
  have N10 := Fr.snoc X10 N6 g_
  obtain ⟨Lf10, Nf10, Xf10⟩ := own_fold X10 N10
  have Fw10 := F8.same W10
  have F11 := ((F_value.keep K3 nin0).other W10 (Or.inr (slot_ne (Or.inr (hw _ (List.mem_of_getElem? (i := 24) rfl))) (Or.inr (hw _ (List.mem_of_getElem? (i := 25) rfl))) (by decide) (t := (.array .byte)) (t' := .byte) (by decide) (by decide))))
  have F12 := (F9.wr W10)
  obtain ⟨T13, h13, X13, e13, W13, st13⟩ := putF Xf10 hx hZ hown (host := "") (Or.inl (hw _ (List.mem_of_getElem? (i := 28) rfl))) Via.refl e10 F11 F12 (Or.inr ⟨(hw _ (List.mem_of_getElem? (i := 24) rfl)), rfl, hnm⟩) (hw _ (List.mem_of_getElem? (i := 9) rfl)) (ty := (.array .byte)) (by decide) rfl rfl (g := (mkF m 54 #[.val (.ref a0_), .val (.ref a1), .val (.int (0 : Int32)), .val (.int (1 : Int32)), .val .null, .val (.ref rb3)] [(.ref rb3), (.ref a0_)])) rfl rfl (hb hby own_d4_54)
  have N13 := Fr.snoc X13 Nf10 g_
  obtain ⟨Lf13, Nf13, Xf13⟩ := own_fold X13 N13
  have Fw13 := F11.same W13
  have F14 := (Fw10.other W13 (Or.inr (slot_ne (Or.inr (hw _ (List.mem_of_getElem? (i := 25) rfl))) (Or.inr (hw _ (List.mem_of_getElem? (i := 24) rfl))) (by decide) (t := .byte) (t' := (.array .byte)) (by decide) (by decide))))
  have Fz : Fld Z h13 a0_ "java/lang/String" "coder" "B" (.int (0 : Int32)) := by have q := F14; rw [show nar .byte (0 : Int32) = 0 from by decide] at q; exact q
  have F15 := (F12.wr W13)
  have F16 := ((V3.other W10 (Ne.symm ne_a0__rb3)).other W13 (Ne.symm ne_a0__rb3))
  have K17 : Keep h0 h13 [a0_] := ((K7.wr W10 (Or.inl (List.mem_of_getElem? (i := 0) rfl))).wr W13 (Or.inl (List.mem_of_getElem? (i := 0) rfl)))
  have k18 : own_To p e below T13 (mkF m 57 #[.val (.ref a0_), .val (.ref a1), .val (.int (0 : Int32)), .val (.int (1 : Int32)), .val .null, .val (.ref rb3)] []) s₁ (mkF m 0 #[.val (.ref a0_), .val (.ref a1), .val (.int (0 : Int32)), .val (.int (1 : Int32)), .val .null, .unset] []) := fun t q => k5 t (by
    refine XS.aload X3.here hx rfl (hb hby own_d4_42) rfl rfl ?_
    show Steps p.tables e below (T3.setTop (mkF m 44 #[.val (.ref a0_), .val (.ref a1), .val (.int (0 : Int32)), .val (.int (1 : Int32)), .val .null, .val (.ref rb3)] [(.ref rb3), (.ref a0_)])) _
    refine XS.iloadN X3.here hx rfl (hb hby own_d4_44) rfl ?_
    show Steps p.tables e below (T3.setTop (mkF m 45 #[.val (.ref a0_), .val (.ref a1), .val (.int (0 : Int32)), .val (.int (1 : Int32)), .val .null, .val (.ref rb3)] [(.int (1 : Int32)), (.ref rb3), (.ref a0_)])) _
    refine st6 _ ?_
    show Steps p.tables e below (T6.setTop (mkF m 48 #[.val (.ref a0_), .val (.ref a1), .val (.int (0 : Int32)), .val (.int (1 : Int32)), .val .null, .val (.ref rb3)] [(.int (0 : Int32)), (.ref a0_)])) _
    refine st10 _ ?_
    show Steps p.tables e below (T10.setTop (mkF m 51 #[.val (.ref a0_), .val (.ref a1), .val (.int (0 : Int32)), .val (.int (1 : Int32)), .val .null, .val (.ref rb3)] [])) _
    refine XS.aloadN Xf10.here hx rfl (hb hby own_d4_51) rfl rfl ?_
    show Steps p.tables e below (T10.setTop (mkF m 52 #[.val (.ref a0_), .val (.ref a1), .val (.int (0 : Int32)), .val (.int (1 : Int32)), .val .null, .val (.ref rb3)] [(.ref a0_)])) _
    refine XS.aload Xf10.here hx rfl (hb hby own_d4_52) rfl rfl ?_
    show Steps p.tables e below (T10.setTop (mkF m 54 #[.val (.ref a0_), .val (.ref a1), .val (.int (0 : Int32)), .val (.int (1 : Int32)), .val .null, .val (.ref rb3)] [(.ref rb3), (.ref a0_)])) _
    refine st13 _ ?_
    show Steps p.tables e below (T13.setTop (mkF m 57 #[.val (.ref a0_), .val (.ref a1), .val (.int (0 : Int32)), .val (.int (1 : Int32)), .val .null, .val (.ref rb3)] [])) _
    exact q)
  obtain ⟨fs, hr, hrun, hended, hW, hsame⟩ := Xf13.leave (v := none) (fun _ => rfl)
  refine ⟨_, _, k0 _ (k18 _ ?_), hrun, hended, _, _, rfl, ?_, ⟨_, rfl⟩, hW, hsame.mono (by decide) (by decide)⟩
  · show Steps p.tables e below (T13.setTop (mkF m 57 #[.val (.ref a0_), .val (.ref a1), .val (.int (0 : Int32)), .val (.int (1 : Int32)), .val .null, .val (.ref rb3)] [])) _
    exact Xf13.returnOut hx Bd.returns (hb hby own_d4_57) hr
  · show QI1 Z a0_ a1 kc_ x0 cs h0 n0 _ T13.heap _
    rw [e13]
    exact ⟨rb3, kb3, rfl, Nf13, K17, F15, Fz, Fw13, F16⟩
theorem own_efI2 (m : MethodId) (x0 : Addr) (x1 : Addr) : entryFrame m #[(.ref x0), (.ref x1), (.int (0 : Int32)), (.int (2 : Int32)), .null] 6 = mkF m 0 #[.val (.ref x0), .val (.ref x1), .val (.int (0 : Int32)), .val (.int (2 : Int32)), .val .null, .unset] [] := by first | (simp [entryFrame, mkF, argsToLocals, Value.category]; done) | rfl
def QI2 (Z : State) (a0_ : Addr) (a1 : Addr) (kc_ : ClassId) (x0 : Int32) (x1 : Int32) (cs : Int32) (h0 : Heap) (n0 : Nat) (v : Option Value) (h : Heap) (L : List Loc) : Prop := ∃ (b : Addr) (kb : ClassId), v = none ∧ Fr n0 L ∧ Keep h0 h [a0_] ∧ Exa Z h a0_ "java/lang/String" ∧ Fld Z h a0_ "java/lang/String" "coder" "B" (.int (0 : Int32)) ∧ Fld Z h a0_ "java/lang/String" "value" "[B" (.ref b) ∧ Arv Z h b kb .byte (2 : Int32) [(.int (own_by x0)), (.int (own_by x1))] (.int (0 : Int32))
set_option maxRecDepth 65536 in
set_option maxHeartbeats 40000000 in
theorem rmI2 (l : Launch) (Z : State) (a0 : Array Value) (hw : ∀ d ∈ tables_1, d.before a0 Z = true) (ws : List Jvm.Cond) (a0_ : Addr) (a1 : Addr) (kc_ : ClassId) (x0 : Int32) (x1 : Int32) (cs : Int32) (h0 : Heap) (n0 : Nat) (Z0 : n0 ≤ h0.size) (F_value : Fld Z h0 a0_ "java/lang/String" "value" "[B" .null) (F_coder : Fld Z h0 a0_ "java/lang/String" "coder" "B" (.int (0 : Int32))) (E_ : Exa Z h0 a0_ "java/lang/String") (g_ : n0 ≤ a0_) (V1 : Arv Z h0 a1 kc_ .char (2 : Int32) [(.int x0), (.int x1)] (.int (0 : Int32))) (hx0 : ¬ (255 : Int32) < x0) (hx1 : ¬ (255 : Int32) < x1) (SC : Sta Z Z.heap "java/lang/String" "COMPACT_STRINGS" "Z" (.int cs)) (hcs : ¬ cs = (0 : Int32)) (O0 : Old Z n0 h0) :
    MetFree l (⟨"java/lang/String", "<init>", "([CIILjava/lang/Void;)V"⟩ : MethodName) (head1 (Jvm.Cond.code (⟨"java/lang/String", "<init>", "([CIILjava/lang/Void;)V"⟩ : MethodName) jdk_42_method_149_code 6 none :: ws) ({ frames := 2, cells := 1, slots := 2, locals := 35 } : Room)) (fun a U => a = #[(.ref a0_), (.ref a1), (.int (0 : Int32)), (.int (2 : Int32)), .null] ∧ Z.Warmed39 U.vm ∧ U.heap = h0) (fun _ _ _ _ _ => True) (fun _ U o U' => ∃ v L, o = .returned v ∧ QI2 Z a0_ a1 kc_ x0 x1 cs h0 n0 v U'.heap L ∧ FrameEnd U o U' L ({ frames := 2, cells := 1, slots := 2, locals := 35 } : Room).cells ({ frames := 2, cells := 1, slots := 2, locals := 35 } : Room).slots) := by
  refine MetFree.of_bodySF (plainFor_of_name own_pn4) hisR ?_
  intro p e s m args below meth c s₁ Bd hml0 hP hK
  obtain ⟨rfl, hZ, hh⟩ := hP
  have hx := Bd.exec
  have hby := Bd.bytes
  have hml : c.maxLocals = 6 := hml0
  have hown : s.vm.findClass "java/lang/String" = some m.cls := findClass_of_methodNamed Bd.named
  have hnm := (name_of_methodNamed Bd.named Bd.method).1
  have X0 : Stand p l e ({ frames := 2, cells := 1, slots := 2, locals := 35 } : Room) s m #[(.ref a0_), (.ref a1), (.int (0 : Int32)), (.int (2 : Int32)), .null] below meth c s₁ [] 0 0 := Stand.of_body Bd
  have e0 : s₁.heap = h0 := by rw [← hh, Bd.state]; rfl
  have N0 := Fr.nil n0
  have k0 : own_To p e below s₁ (mkF m 0 #[.val (.ref a0_), .val (.ref a1), .val (.int (0 : Int32)), .val (.int (2 : Int32)), .val .null, .unset] []) s₁ (entryFrame m #[(.ref a0_), (.ref a1), (.int (0 : Int32)), (.int (2 : Int32)), .null] 6) := fun t k => castTop (own_efI2 m a0_ a1) k
  have ki : own_To p e below s₁ (mkF m 0 #[.val (.ref a0_), .val (.ref a1), .val (.int (0 : Int32)), .val (.int (2 : Int32)), .val .null, .unset] []) s₁ (mkF m 0 #[.val (.ref a0_), .val (.ref a1), .val (.int (0 : Int32)), .val (.int (2 : Int32)), .val .null, .unset] []) := fun t q => q
  obtain ⟨T1, X1, e1, st1⟩ := initO X0 hx hZ hown (hw _ (List.mem_of_getElem? (i := 19) rfl)) (hw _ (List.mem_of_getElem? (i := 20) rfl)) (hw _ (List.mem_of_getElem? (i := 21) rfl)) e0 (g := (mkF m 1 #[.val (.ref a0_), .val (.ref a1), .val (.int (0 : Int32)), .val (.int (2 : Int32)), .val .null, .unset] [(.ref a0_)])) rfl (by rw [hml]; rfl) rfl (hb hby own_d4_1) (by decide) (W := 0) (by show 2 * 0 + _ ≤ _; exact Nat.le_of_eq rfl) (by decide)
  obtain ⟨T2, X2, e2, st2⟩ := getS2 X1 hx hZ hown (host := "") (Or.inl (hw _ (List.mem_of_getElem? (i := 73) rfl))) Via.refl e1 (SC.ext O0.2) (g := (mkF m 27 #[.val (.ref a0_), .val (.ref a1), .val (.int (0 : Int32)), .val (.int (2 : Int32)), .val .null, .unset] [])) rfl (hb hby own_d4_27)
  obtain ⟨_, _, ⟨T3, L3, kk3, n3⟩, -, X3, ⟨Lc3, hQ3, l3, y3, z3⟩, st3⟩ := Jvm.LawKit.callS X2 hx (y := (⟨"java/lang/StringUTF16", "compress", "([CII)[B"⟩ : MethodName)) hown (mvT hZ (hw _ (List.mem_of_getElem? (i := 80) rfl))) (mvT hZ (hw _ (List.mem_of_getElem? (i := 81) rfl))) (mvT hZ (hw _ (List.mem_of_getElem? (i := 82) rfl))) (mvT hZ (hw _ (List.mem_of_getElem? (i := 83) rfl))) (by decide) (backOf (W := 0) (rmD2 l Z a0 hw [] a1 kc_ x0 x1 h0 n0 Z0 V1 hx0 hx1) hZ (hw _ (List.mem_of_getElem? (i := 83) rfl)) (hw _ (List.mem_of_getElem? (i := 82) rfl)) (by decide) (by decide)) (g := (mkF m 36 #[.val (.ref a0_), .val (.ref a1), .val (.int (0 : Int32)), .val (.int (2 : Int32)), .val .null, .unset] [(.int (2 : Int32)), (.int (0 : Int32)), (.ref a1)])) rfl (by rw [hml]; rfl) (argsL := [(.ref a1), (.int (0 : Int32)), (.int (2 : Int32))]) (rest := []) (lenOf own_pd10 rfl) rfl (by show 2 * 0 + _ ≤ _; exact Nat.le_of_eq rfl) (hb hby own_d4_36) (fun _ _ => ⟨rfl, e2, (by decide : 0 + 1 ≤ _), (by decide : 0 + 2 ≤ _)⟩)
  dsimp only [Pt.U, Pt.locs, Pt.cells, Pt.slots] at X3 l3 y3 z3 st3 hQ3
  subst l3 y3 z3
  obtain ⟨rb3, kb3, rfl, N3q, K3, z3z, V3⟩ := hQ3
  have N3 := Fr.app N0 N3q
  have ne_a0__rb3 : a0_ ≠ rb3 := Nat.ne_of_lt (Nat.lt_of_lt_of_le E_.lt z3z)
  have ne_a1_rb3 : a1 ≠ rb3 := Nat.ne_of_lt (Nat.lt_of_lt_of_le V1.lt z3z)
  have K4 : Keep h0 h0 [a0_] := (Keep.refl h0 [a0_])
  have sz_rb3 : h0.size ≤ rb3 := Nat.le_trans K4.1 z3z
  have k5 : own_To p e below T3 (mkF m 42 #[.val (.ref a0_), .val (.ref a1), .val (.int (0 : Int32)), .val (.int (2 : Int32)), .val .null, .val (.ref rb3)] [(.ref a0_)]) s₁ (mkF m 0 #[.val (.ref a0_), .val (.ref a1), .val (.int (0 : Int32)), .val (.int (2 : Int32)), .val .null, .unset] []) := fun t q => ki t (by
    refine XS.aloadN X0.here hx rfl (hb hby own_d4_0) rfl rfl ?_
    show Steps p.tables e below (s₁.setTop (mkF m 1 #[.val (.ref a0_), .val (.ref a1), .val (.int (0 : Int32)), .val (.int (2 : Int32)), .val .null, .unset] [(.ref a0_)])) _
    refine st1 _ ?_
    show Steps p.tables e below (T1.setTop (mkF m 4 #[.val (.ref a0_), .val (.ref a1), .val (.int (0 : Int32)), .val (.int (2 : Int32)), .val .null, .unset] [])) _
    refine XS.iloadN X1.here hx rfl (hb hby own_d4_4) rfl ?_
    show Steps p.tables e below (T1.setTop (mkF m 5 #[.val (.ref a0_), .val (.ref a1), .val (.int (0 : Int32)), .val (.int (2 : Int32)), .val .null, .unset] [(.int (2 : Int32))])) _
    refine XS.ifYes X1.here hx rfl (pc0 := 5) (pc' := 27) rfl (hb hby own_d4_5) rfl ((if0 _ _).trans (feq (by decide)).2) (by decide) (by decide) ?_
    show Steps p.tables e below (T1.setTop (mkF m 27 #[.val (.ref a0_), .val (.ref a1), .val (.int (0 : Int32)), .val (.int (2 : Int32)), .val .null, .unset] [])) _
    refine st2 _ ?_
    show Steps p.tables e below (T2.setTop (mkF m 30 #[.val (.ref a0_), .val (.ref a1), .val (.int (0 : Int32)), .val (.int (2 : Int32)), .val .null, .unset] [(.int cs)])) _
    refine XS.ifNo X2.here hx rfl (hb hby own_d4_30) rfl ((if0 _ _).trans (feq hcs).1) ?_
    show Steps p.tables e below (T2.setTop (mkF m 33 #[.val (.ref a0_), .val (.ref a1), .val (.int (0 : Int32)), .val (.int (2 : Int32)), .val .null, .unset] [])) _
    refine XS.aloadN X2.here hx rfl (hb hby own_d4_33) rfl rfl ?_
    show Steps p.tables e below (T2.setTop (mkF m 34 #[.val (.ref a0_), .val (.ref a1), .val (.int (0 : Int32)), .val (.int (2 : Int32)), .val .null, .unset] [(.ref a1)])) _
    refine XS.iloadN X2.here hx rfl (hb hby own_d4_34) rfl ?_
    show Steps p.tables e below (T2.setTop (mkF m 35 #[.val (.ref a0_), .val (.ref a1), .val (.int (0 : Int32)), .val (.int (2 : Int32)), .val .null, .unset] [(.int (0 : Int32)), (.ref a1)])) _
    refine XS.iloadN X2.here hx rfl (hb hby own_d4_35) rfl ?_
    show Steps p.tables e below (T2.setTop (mkF m 36 #[.val (.ref a0_), .val (.ref a1), .val (.int (0 : Int32)), .val (.int (2 : Int32)), .val .null, .unset] [(.int (2 : Int32)), (.int (0 : Int32)), (.ref a1)])) _
    refine st3 _ ?_
    show Steps p.tables e below (T3.setTop (mkF m 39 #[.val (.ref a0_), .val (.ref a1), .val (.int (0 : Int32)), .val (.int (2 : Int32)), .val .null, .unset] [(.ref rb3)])) _
    refine XS.astore X3.here hx rfl (hb hby own_d4_39) rfl rfl (l' := #[.val (.ref a0_), .val (.ref a1), .val (.int (0 : Int32)), .val (.int (2 : Int32)), .val .null, .val (.ref rb3)]) rfl ?_
    show Steps p.tables e below (T3.setTop (mkF m 41 #[.val (.ref a0_), .val (.ref a1), .val (.int (0 : Int32)), .val (.int (2 : Int32)), .val .null, .val (.ref rb3)] [])) _
    refine XS.aloadN X3.here hx rfl (hb hby own_d4_41) rfl rfl ?_
    show Steps p.tables e below (T3.setTop (mkF m 42 #[.val (.ref a0_), .val (.ref a1), .val (.int (0 : Int32)), .val (.int (2 : Int32)), .val .null, .val (.ref rb3)] [(.ref a0_)])) _
    exact q)
  have K7 : Keep h0 T3.heap [a0_] := (K4.trans K3 all0)
  obtain ⟨_, _, ⟨T6, L6, kk6, n6⟩, -, X6, ⟨Lc6, hQ6, l6, y6, z6⟩, st6⟩ := Jvm.LawKit.callS X3 hx (y := (⟨"java/lang/StringUTF16", "coderFromArrayLen", "([BI)B"⟩ : MethodName)) hown (mvT hZ (hw _ (List.mem_of_getElem? (i := 87) rfl))) (mvT hZ (hw _ (List.mem_of_getElem? (i := 88) rfl))) (mvT hZ (hw _ (List.mem_of_getElem? (i := 82) rfl))) (mvT hZ (hw _ (List.mem_of_getElem? (i := 89) rfl))) (by decide) (backOf (W := 1) (rmF2 l Z a0 hw [] rb3 kb3 [(.int (own_by x0)), (.int (own_by x1))] T3.heap n0 (Nat.le_trans Z0 K7.1) V3) hZ (hw _ (List.mem_of_getElem? (i := 89) rfl)) (hw _ (List.mem_of_getElem? (i := 82) rfl)) (by decide) (by decide)) (g := (mkF m 45 #[.val (.ref a0_), .val (.ref a1), .val (.int (0 : Int32)), .val (.int (2 : Int32)), .val .null, .val (.ref rb3)] [(.int (2 : Int32)), (.ref rb3), (.ref a0_)])) rfl (by rw [hml]; rfl) (argsL := [(.ref rb3), (.int (2 : Int32))]) (rest := [(.ref a0_)]) (lenOf own_pd7 rfl) rfl (by show 2 * 0 + _ ≤ _; exact Nat.le_of_eq rfl) (hb hby own_d4_45) (fun _ _ => ⟨rfl, rfl, (by decide : 1 + 0 ≤ _), (by decide : 2 + 0 ≤ _)⟩)
  dsimp only [Pt.U, Pt.locs, Pt.cells, Pt.slots] at X6 l6 y6 z6 st6 hQ6
  subst l6 y6 z6
  obtain ⟨rfl, N6q, e6⟩ := hQ6
  have N6 := Fr.app N3 N6q
  have F8 := (F_coder.keep K3 nin0)
  have F9 := (E_.keep K3)
  obtain ⟨T10, h10, X10, e10, W10, st10⟩ := putFN X6 hx hZ hown (hw _ (List.mem_of_getElem? (i := 29) rfl)) Via.refl e6 F8 F9 (Or.inr ⟨(hw _ (List.mem_of_getElem? (i := 25) rfl)), rfl, hnm⟩) (hw _ (List.mem_of_getElem? (i := 9) rfl)) (ty := .byte) (v' := (.int (nar .byte (0 : Int32)))) (by decide) rfl (fits_nar_byte _) (g := (mkF m 48 #[.val (.ref a0_), .val (.ref a1), .val (.int (0 : Int32)), .val (.int (2 : Int32)), .val .null, .val (.ref rb3)] [(.int (0 : Int32)), (.ref a0_)])) rfl rfl (hb hby own_d4_48)
  have N10 := Fr.snoc X10 N6 g_
  obtain ⟨Lf10, Nf10, Xf10⟩ := own_fold X10 N10
  have Fw10 := F8.same W10
  have F11 := ((F_value.keep K3 nin0).other W10 (Or.inr (slot_ne (Or.inr (hw _ (List.mem_of_getElem? (i := 24) rfl))) (Or.inr (hw _ (List.mem_of_getElem? (i := 25) rfl))) (by decide) (t := (.array .byte)) (t' := .byte) (by decide) (by decide))))
  have F12 := (F9.wr W10)
  obtain ⟨T13, h13, X13, e13, W13, st13⟩ := putF Xf10 hx hZ hown (host := "") (Or.inl (hw _ (List.mem_of_getElem? (i := 28) rfl))) Via.refl e10 F11 F12 (Or.inr ⟨(hw _ (List.mem_of_getElem? (i := 24) rfl)), rfl, hnm⟩) (hw _ (List.mem_of_getElem? (i := 9) rfl)) (ty := (.array .byte)) (by decide) rfl rfl (g := (mkF m 54 #[.val (.ref a0_), .val (.ref a1), .val (.int (0 : Int32)), .val (.int (2 : Int32)), .val .null, .val (.ref rb3)] [(.ref rb3), (.ref a0_)])) rfl rfl (hb hby own_d4_54)
  have N13 := Fr.snoc X13 Nf10 g_
  obtain ⟨Lf13, Nf13, Xf13⟩ := own_fold X13 N13
  have Fw13 := F11.same W13
  have F14 := (Fw10.other W13 (Or.inr (slot_ne (Or.inr (hw _ (List.mem_of_getElem? (i := 25) rfl))) (Or.inr (hw _ (List.mem_of_getElem? (i := 24) rfl))) (by decide) (t := .byte) (t' := (.array .byte)) (by decide) (by decide))))
  have Fz : Fld Z h13 a0_ "java/lang/String" "coder" "B" (.int (0 : Int32)) := by have q := F14; rw [show nar .byte (0 : Int32) = 0 from by decide] at q; exact q
  have F15 := (F12.wr W13)
  have F16 := ((V3.other W10 (Ne.symm ne_a0__rb3)).other W13 (Ne.symm ne_a0__rb3))
  have K17 : Keep h0 h13 [a0_] := ((K7.wr W10 (Or.inl (List.mem_of_getElem? (i := 0) rfl))).wr W13 (Or.inl (List.mem_of_getElem? (i := 0) rfl)))
  have k18 : own_To p e below T13 (mkF m 57 #[.val (.ref a0_), .val (.ref a1), .val (.int (0 : Int32)), .val (.int (2 : Int32)), .val .null, .val (.ref rb3)] []) s₁ (mkF m 0 #[.val (.ref a0_), .val (.ref a1), .val (.int (0 : Int32)), .val (.int (2 : Int32)), .val .null, .unset] []) := fun t q => k5 t (by
    refine XS.aload X3.here hx rfl (hb hby own_d4_42) rfl rfl ?_
    show Steps p.tables e below (T3.setTop (mkF m 44 #[.val (.ref a0_), .val (.ref a1), .val (.int (0 : Int32)), .val (.int (2 : Int32)), .val .null, .val (.ref rb3)] [(.ref rb3), (.ref a0_)])) _
    refine XS.iloadN X3.here hx rfl (hb hby own_d4_44) rfl ?_
    show Steps p.tables e below (T3.setTop (mkF m 45 #[.val (.ref a0_), .val (.ref a1), .val (.int (0 : Int32)), .val (.int (2 : Int32)), .val .null, .val (.ref rb3)] [(.int (2 : Int32)), (.ref rb3), (.ref a0_)])) _
    refine st6 _ ?_
    show Steps p.tables e below (T6.setTop (mkF m 48 #[.val (.ref a0_), .val (.ref a1), .val (.int (0 : Int32)), .val (.int (2 : Int32)), .val .null, .val (.ref rb3)] [(.int (0 : Int32)), (.ref a0_)])) _
    refine st10 _ ?_
    show Steps p.tables e below (T10.setTop (mkF m 51 #[.val (.ref a0_), .val (.ref a1), .val (.int (0 : Int32)), .val (.int (2 : Int32)), .val .null, .val (.ref rb3)] [])) _
    refine XS.aloadN Xf10.here hx rfl (hb hby own_d4_51) rfl rfl ?_
    show Steps p.tables e below (T10.setTop (mkF m 52 #[.val (.ref a0_), .val (.ref a1), .val (.int (0 : Int32)), .val (.int (2 : Int32)), .val .null, .val (.ref rb3)] [(.ref a0_)])) _
    refine XS.aload Xf10.here hx rfl (hb hby own_d4_52) rfl rfl ?_
    show Steps p.tables e below (T10.setTop (mkF m 54 #[.val (.ref a0_), .val (.ref a1), .val (.int (0 : Int32)), .val (.int (2 : Int32)), .val .null, .val (.ref rb3)] [(.ref rb3), (.ref a0_)])) _
    refine st13 _ ?_
    show Steps p.tables e below (T13.setTop (mkF m 57 #[.val (.ref a0_), .val (.ref a1), .val (.int (0 : Int32)), .val (.int (2 : Int32)), .val .null, .val (.ref rb3)] [])) _
    exact q)
  obtain ⟨fs, hr, hrun, hended, hW, hsame⟩ := Xf13.leave (v := none) (fun _ => rfl)
  refine ⟨_, _, k0 _ (k18 _ ?_), hrun, hended, _, _, rfl, ?_, ⟨_, rfl⟩, hW, hsame.mono (by decide) (by decide)⟩
  · show Steps p.tables e below (T13.setTop (mkF m 57 #[.val (.ref a0_), .val (.ref a1), .val (.int (0 : Int32)), .val (.int (2 : Int32)), .val .null, .val (.ref rb3)] [])) _
    exact Xf13.returnOut hx Bd.returns (hb hby own_d4_57) hr
  · show QI2 Z a0_ a1 kc_ x0 x1 cs h0 n0 _ T13.heap _
    rw [e13]
    exact ⟨rb3, kb3, rfl, Nf13, K17, F15, Fz, Fw13, F16⟩
theorem own_pd11 : parseMethodDescriptor "([CIILjava/lang/Void;)V" = some ⟨[(.array .char), .int, .int, (.object "java/lang/Void")], none⟩ := by decide +kernel
theorem own_d3_0 : decode jdk_42_method_3_code 0 = .ok (.aload_n 0, 1) := by decide +kernel
theorem own_d3_1 : decode jdk_42_method_3_code 1 = .ok (.aload_n 1, 1) := by decide +kernel
theorem own_d3_2 : decode jdk_42_method_3_code 2 = .ok (.iconst 0, 1) := by decide +kernel
theorem own_d3_3 : decode jdk_42_method_3_code 3 = .ok (.aload_n 1, 1) := by decide +kernel
theorem own_d3_4 : decode jdk_42_method_3_code 4 = .ok (.arraylength, 1) := by decide +kernel
theorem own_d3_5 : decode jdk_42_method_3_code 5 = .ok (.aconst_null, 1) := by decide +kernel
theorem own_d3_6 : decode jdk_42_method_3_code 6 = .ok (.invokespecial 27, 3) := by decide +kernel
theorem own_d3_9 : decode jdk_42_method_3_code 9 = .ok (.return_, 1) := by decide +kernel
theorem own_pn3 : plainName "java/lang/String" = true := by first | (simp [plainName, overriddenIn]; done) | decide +kernel
theorem own_efJ0 (m : MethodId) (x0 : Addr) (x1 : Addr) : entryFrame m #[(.ref x0), (.ref x1)] 2 = mkF m 0 #[.val (.ref x0), .val (.ref x1)] [] := by first | (simp [entryFrame, mkF, argsToLocals, Value.category]; done) | rfl
def QJ0 (Z : State) (a0_ : Addr) (a1 : Addr) (kc_ : ClassId) (h0 : Heap) (n0 : Nat) (v : Option Value) (h : Heap) (L : List Loc) : Prop := ∃ (b : Addr) (kb : ClassId), v = none ∧ Fr n0 L ∧ Keep h0 h [a0_] ∧ Exa Z h a0_ "java/lang/String" ∧ Fld Z h a0_ "java/lang/String" "coder" "B" (.int (0 : Int32)) ∧ Fld Z h a0_ "java/lang/String" "value" "[B" (.ref b) ∧ Arv Z h b kb .byte (0 : Int32) [] (.int (0 : Int32))
set_option maxRecDepth 65536 in
set_option maxHeartbeats 40000000 in
theorem rmJ0 (l : Launch) (Z : State) (a0 : Array Value) (hw : ∀ d ∈ tables_1, d.before a0 Z = true) (ws : List Jvm.Cond) (a0_ : Addr) (a1 : Addr) (kc_ : ClassId) (h0 : Heap) (n0 : Nat) (Z0 : n0 ≤ h0.size) (F_value : Fld Z h0 a0_ "java/lang/String" "value" "[B" .null) (F_coder : Fld Z h0 a0_ "java/lang/String" "coder" "B" (.int (0 : Int32))) (E_ : Exa Z h0 a0_ "java/lang/String") (g_ : n0 ≤ a0_) (V1 : Arv Z h0 a1 kc_ .char (0 : Int32) [] (.int (0 : Int32))) (hEL : EW Z a0 own_EL) :
    MetFree l (⟨"java/lang/String", "<init>", "([C)V"⟩ : MethodName) (head1 (Jvm.Cond.code (⟨"java/lang/String", "<init>", "([C)V"⟩ : MethodName) jdk_42_method_3_code 2 none :: ws) ({ frames := 2, cells := 4, slots := 8, locals := 29 } : Room)) (fun a U => a = #[(.ref a0_), (.ref a1)] ∧ Z.Warmed39 U.vm ∧ U.heap = h0 ∧ CHv Z own_EL U.vm h0) (fun _ _ _ _ _ => True) (fun _ U o U' => ∃ v L, o = .returned v ∧ QJ0 Z a0_ a1 kc_ h0 n0 v U'.heap L ∧ CHr Z own_EL U.vm U.heap U'.vm U'.heap ∧ ReturnedEndW U o U' L ({ frames := 2, cells := 4, slots := 8, locals := 29 } : Room).cells ({ frames := 2, cells := 4, slots := 8, locals := 29 } : Room).slots) := by
  refine MetFree.of_bodySF (plainFor_of_name own_pn3) hisR ?_
  intro p e s m args below meth c s₁ Bd hml0 hP hK
  obtain ⟨rfl, hZ, hh, hCH⟩ := hP
  have hx := Bd.exec
  have hby := Bd.bytes
  have hml : c.maxLocals = 2 := hml0
  have hown : s.vm.findClass "java/lang/String" = some m.cls := findClass_of_methodNamed Bd.named
  have hnm := (name_of_methodNamed Bd.named Bd.method).1
  have X0 : Stand p l e ({ frames := 2, cells := 4, slots := 8, locals := 29 } : Room) s m #[(.ref a0_), (.ref a1)] below meth c s₁ [] 0 0 := Stand.of_body Bd
  have e0 : s₁.heap = h0 := by rw [← hh, Bd.state]; rfl
  have N0 := Fr.nil n0
  have k0 : own_To p e below s₁ (mkF m 0 #[.val (.ref a0_), .val (.ref a1)] []) s₁ (entryFrame m #[(.ref a0_), (.ref a1)] 2) := fun t k => castTop (own_efJ0 m a0_ a1) k
  have ki : own_To p e below s₁ (mkF m 0 #[.val (.ref a0_), .val (.ref a1)] []) s₁ (mkF m 0 #[.val (.ref a0_), .val (.ref a1)] []) := fun t q => q
  have hstr : ∀ a ∈ Bundle.stringAtoms, a.before a0 Z = true := fun d hd => hw d ((by decide +kernel : ∀ d ∈ Bundle.stringAtoms, d ∈ tables_1) d hd)
  have X0 := own_base X0
  have CR0 := CHr.refl hCH
  have Sf0_a0_ : Safe Z own_EL s.vm h0 a0_ := own_safe hZ.alike E_ F_value
  obtain ⟨clr1, Arr1, qr1, Sr1, Mr1, Hhr1, Gr1⟩ := id V1
  have k2 : own_To p e below s₁ (mkF m 6 #[.val (.ref a0_), .val (.ref a1)] [.null, (.int (0 : Int32)), (.int (0 : Int32)), (.ref a1), (.ref a0_)]) s₁ (mkF m 0 #[.val (.ref a0_), .val (.ref a1)] []) := fun t q => ki t (by
    refine XS.aloadN X0.here hx rfl (hb hby own_d3_0) rfl rfl ?_
    show Steps p.tables e below (s₁.setTop (mkF m 1 #[.val (.ref a0_), .val (.ref a1)] [(.ref a0_)])) _
    refine XS.aloadN X0.here hx rfl (hb hby own_d3_1) rfl rfl ?_
    show Steps p.tables e below (s₁.setTop (mkF m 2 #[.val (.ref a0_), .val (.ref a1)] [(.ref a1), (.ref a0_)])) _
    refine XS.iconst X0.here hx rfl (hb hby own_d3_2) ?_
    show Steps p.tables e below (s₁.setTop (mkF m 3 #[.val (.ref a0_), .val (.ref a1)] [(.int (0 : Int32)), (.ref a1), (.ref a0_)])) _
    refine XS.aloadN X0.here hx rfl (hb hby own_d3_3) rfl rfl ?_
    show Steps p.tables e below (s₁.setTop (mkF m 4 #[.val (.ref a0_), .val (.ref a1)] [(.ref a1), (.int (0 : Int32)), (.ref a1), (.ref a0_)])) _
    refine X0.arraylength hx (by rw [e0]; exact Arr1.1) (State.isArrayOf_alike hZ.alike Arr1.2.1) (g := (mkF m 4 #[.val (.ref a0_), .val (.ref a1)] [(.ref a1), (.int (0 : Int32)), (.ref a1), (.ref a0_)])) rfl rfl (hb hby own_d3_4) _ ?_
    rw [len_of Sr1 Mr1]
    show Steps p.tables e below (s₁.setTop (mkF m 5 #[.val (.ref a0_), .val (.ref a1)] [(.int (0 : Int32)), (.int (0 : Int32)), (.ref a1), (.ref a0_)])) _
    refine XS.aconstNull X0.here hx rfl (hb hby own_d3_5) ?_
    show Steps p.tables e below (s₁.setTop (mkF m 6 #[.val (.ref a0_), .val (.ref a1)] [.null, (.int (0 : Int32)), (.int (0 : Int32)), (.ref a1), (.ref a0_)])) _
    exact q)
  obtain ⟨_, _, ⟨T3, L3, kk3, n3⟩, -, X3, hSs3, hgr3, ⟨Lc3, hQ3, l3, y3, z3, hC3⟩, st3⟩ := X0.specialBackS hx (y := (⟨"java/lang/String", "<init>", "([CIILjava/lang/Void;)V"⟩ : MethodName)) rfl hown (mvT hZ (hw _ (List.mem_of_getElem? (i := 15) rfl))) (mvT hZ (hw _ (List.mem_of_getElem? (i := 16) rfl))) (mvT hZ (hw _ (List.mem_of_getElem? (i := 18) rfl))) (by decide) (backOfSH (s := s) (vm0 := s.vm) (W := 0) (rmI0 l Z a0 hw [] a0_ a1 h0 n0 Z0 F_value F_coder E_ g_ hEL) hZ (hw _ (List.mem_of_getElem? (i := 18) rfl)) (hw _ (List.mem_of_getElem? (i := 10) rfl)) (by decide) (by decide) hEL hCH) (g := (mkF m 6 #[.val (.ref a0_), .val (.ref a1)] [.null, (.int (0 : Int32)), (.int (0 : Int32)), (.ref a1), (.ref a0_)])) rfl (by rw [hml]; rfl) (Steps.refl _) (a := a0_) (argsL := [(.ref a1), (.int (0 : Int32)), (.int (0 : Int32)), .null]) (rest := []) (lenOf own_pd11 rfl) rfl (by show 2 * 0 + _ ≤ _; exact Nat.le_of_eq rfl) (hb hby own_d3_6) (fun _ _ => ⟨rfl, e0, (by decide : 0 + 4 ≤ _), (by decide : 0 + 8 ≤ _)⟩)
  dsimp only [Pt.U, Pt.locs, Pt.cells, Pt.slots] at X3 l3 y3 z3 st3 hQ3 hSs3 hgr3 hC3
  subst l3 y3 z3
  have X3 := own_again X3
  have hSn3 := foldS (State.WarmedH.since (State.WarmedH.refl s) 0) (by rw [e0]; exact (Nat.zero_le _)) hSs3 hgr3
  have hZn3 : Z.Warmed39 (s.setVm T3.vm).vm := State.Warmed39.trans (t := s.setVm s.vm) hZ hSs3.1
  have hon3 : (s.setVm T3.vm).vm.findClass "java/lang/String" = some m.cls := by rw [show (s.setVm T3.vm).vm = T3.vm from rfl, hSs3.1.alike.findClass]; exact hown
  have hZ := hZn3
  have hown := hon3
  have CRl3 := CR0.trans hC3
  have CHl3 := CRl3.1
  have Sf3_a0_ := hC3.safe (E_.lt) Sf0_a0_
  obtain ⟨rb3, kb3, rfl, N3q, K3, E3, Fc3, Fv3, V3⟩ := hQ3
  have N3 := Fr.app N0 N3q
  have K4 : Keep h0 T3.heap [a0_] := ((Keep.refl h0 [a0_]).trans K3 (allS (P := fun x => x ∈ ([a0_] : List Addr) ∨ h0.size ≤ x) (Or.inl (List.mem_of_getElem? (i := 0) rfl)) all0))
  have k5 : own_To p e below T3 (mkF m 9 #[.val (.ref a0_), .val (.ref a1)] []) s₁ (mkF m 0 #[.val (.ref a0_), .val (.ref a1)] []) := fun t q => k2 t (by
    refine st3.trans ?_
    show Steps p.tables e below (T3.setTop (mkF m 9 #[.val (.ref a0_), .val (.ref a1)] [])) _
    exact q)
  have hCe := CRl3.trans (CHv.at (vm0 := T3.vm) X3 hZ hEL CHl3)
  obtain ⟨fs, hr, hrun, hended, hEnd⟩ := Stand.leaveW (s := s) (vm₁ := T3.vm) X3 hSn3 (by exact (Nat.le_refl _)) (v := none) (fun _ => rfl)
  refine ⟨_, _, k0 _ (k5 _ ?_), hrun, hended, _, _, rfl, ?_, ?_, hEnd.1, hEnd.2.1, hEnd.2.2.1, hEnd.2.2.2.mono (by decide) (by decide)⟩
  · show Steps p.tables e below (T3.setTop (mkF m 9 #[.val (.ref a0_), .val (.ref a1)] [])) _
    exact X3.returnOut hx Bd.returns (hb hby own_d3_9) hr
  · show QJ0 Z a0_ a1 kc_ h0 n0 _ T3.heap _
    exact ⟨rb3, kb3, rfl, N3, K4, E3, Fc3, Fv3, V3⟩
  · show CHr Z own_EL s.vm s.heap T3.vm T3.heap
    rw [hh]; exact hCe
theorem own_efJ1 (m : MethodId) (x0 : Addr) (x1 : Addr) : entryFrame m #[(.ref x0), (.ref x1)] 2 = mkF m 0 #[.val (.ref x0), .val (.ref x1)] [] := by first | (simp [entryFrame, mkF, argsToLocals, Value.category]; done) | rfl
def QJ1 (Z : State) (a0_ : Addr) (a1 : Addr) (kc_ : ClassId) (x0 : Int32) (cs : Int32) (h0 : Heap) (n0 : Nat) (v : Option Value) (h : Heap) (L : List Loc) : Prop := ∃ (b : Addr) (kb : ClassId), v = none ∧ Fr n0 L ∧ Keep h0 h [a0_] ∧ Exa Z h a0_ "java/lang/String" ∧ Fld Z h a0_ "java/lang/String" "coder" "B" (.int (0 : Int32)) ∧ Fld Z h a0_ "java/lang/String" "value" "[B" (.ref b) ∧ Arv Z h b kb .byte (1 : Int32) [(.int (own_by x0))] (.int (0 : Int32))
set_option maxRecDepth 65536 in
set_option maxHeartbeats 40000000 in
theorem rmJ1 (l : Launch) (Z : State) (a0 : Array Value) (hw : ∀ d ∈ tables_1, d.before a0 Z = true) (ws : List Jvm.Cond) (a0_ : Addr) (a1 : Addr) (kc_ : ClassId) (x0 : Int32) (cs : Int32) (h0 : Heap) (n0 : Nat) (Z0 : n0 ≤ h0.size) (F_value : Fld Z h0 a0_ "java/lang/String" "value" "[B" .null) (F_coder : Fld Z h0 a0_ "java/lang/String" "coder" "B" (.int (0 : Int32))) (E_ : Exa Z h0 a0_ "java/lang/String") (g_ : n0 ≤ a0_) (V1 : Arv Z h0 a1 kc_ .char (1 : Int32) [(.int x0)] (.int (0 : Int32))) (hx0 : ¬ (255 : Int32) < x0) (SC : Sta Z Z.heap "java/lang/String" "COMPACT_STRINGS" "Z" (.int cs)) (hcs : ¬ cs = (0 : Int32)) (O0 : Old Z n0 h0) :
    MetFree l (⟨"java/lang/String", "<init>", "([C)V"⟩ : MethodName) (head1 (Jvm.Cond.code (⟨"java/lang/String", "<init>", "([C)V"⟩ : MethodName) jdk_42_method_3_code 2 none :: ws) ({ frames := 3, cells := 1, slots := 1, locals := 52 } : Room)) (fun a U => a = #[(.ref a0_), (.ref a1)] ∧ Z.Warmed39 U.vm ∧ U.heap = h0) (fun _ _ _ _ _ => True) (fun _ U o U' => ∃ v L, o = .returned v ∧ QJ1 Z a0_ a1 kc_ x0 cs h0 n0 v U'.heap L ∧ FrameEnd U o U' L ({ frames := 3, cells := 1, slots := 1, locals := 52 } : Room).cells ({ frames := 3, cells := 1, slots := 1, locals := 52 } : Room).slots) := by
  refine MetFree.of_bodySF (plainFor_of_name own_pn3) hisR ?_
  intro p e s m args below meth c s₁ Bd hml0 hP hK
  obtain ⟨rfl, hZ, hh⟩ := hP
  have hx := Bd.exec
  have hby := Bd.bytes
  have hml : c.maxLocals = 2 := hml0
  have hown : s.vm.findClass "java/lang/String" = some m.cls := findClass_of_methodNamed Bd.named
  have hnm := (name_of_methodNamed Bd.named Bd.method).1
  have X0 : Stand p l e ({ frames := 3, cells := 1, slots := 1, locals := 52 } : Room) s m #[(.ref a0_), (.ref a1)] below meth c s₁ [] 0 0 := Stand.of_body Bd
  have e0 : s₁.heap = h0 := by rw [← hh, Bd.state]; rfl
  have N0 := Fr.nil n0
  have k0 : own_To p e below s₁ (mkF m 0 #[.val (.ref a0_), .val (.ref a1)] []) s₁ (entryFrame m #[(.ref a0_), (.ref a1)] 2) := fun t k => castTop (own_efJ1 m a0_ a1) k
  have ki : own_To p e below s₁ (mkF m 0 #[.val (.ref a0_), .val (.ref a1)] []) s₁ (mkF m 0 #[.val (.ref a0_), .val (.ref a1)] []) := fun t q => q
  obtain ⟨clr1, Arr1, qr1, Sr1, Mr1, Hhr1, Gr1⟩ := id V1
  obtain ⟨_, _, ⟨T2, L2, kk2, n2⟩, -, X2, ⟨Lc2, hQ2, l2, y2, z2⟩, st2⟩ := X0.specialBack hx (y := (⟨"java/lang/String", "<init>", "([CIILjava/lang/Void;)V"⟩ : MethodName)) rfl hown (mvT hZ (hw _ (List.mem_of_getElem? (i := 15) rfl))) (mvT hZ (hw _ (List.mem_of_getElem? (i := 16) rfl))) (mvT hZ (hw _ (List.mem_of_getElem? (i := 18) rfl))) (by decide) (backOf (W := 0) (rmI1 l Z a0 hw [] a0_ a1 kc_ x0 cs h0 n0 Z0 F_value F_coder E_ g_ V1 hx0 SC hcs O0) hZ (hw _ (List.mem_of_getElem? (i := 18) rfl)) (hw _ (List.mem_of_getElem? (i := 10) rfl)) (by decide) (by decide)) (g := (mkF m 6 #[.val (.ref a0_), .val (.ref a1)] [.null, (.int (1 : Int32)), (.int (0 : Int32)), (.ref a1), (.ref a0_)])) rfl (by rw [hml]; rfl) (Steps.refl _) (a := a0_) (argsL := [(.ref a1), (.int (0 : Int32)), (.int (1 : Int32)), .null]) (rest := []) (lenOf own_pd11 rfl) rfl (by show 2 * 0 + _ ≤ _; exact Nat.le_of_eq rfl) (hb hby own_d3_6) (fun _ _ => ⟨rfl, e0, (by decide : 0 + 1 ≤ _), (by decide : 0 + 1 ≤ _)⟩)
  dsimp only [Pt.U, Pt.locs, Pt.cells, Pt.slots] at X2 l2 y2 z2 st2 hQ2
  subst l2 y2 z2
  obtain ⟨rb2, kb2, rfl, N2q, K2, E2, Fc2, Fv2, V2⟩ := hQ2
  have N2 := Fr.app N0 N2q
  have K3 : Keep h0 T2.heap [a0_] := ((Keep.refl h0 [a0_]).trans K2 (allS (P := fun x => x ∈ ([a0_] : List Addr) ∨ h0.size ≤ x) (Or.inl (List.mem_of_getElem? (i := 0) rfl)) all0))
  have k4 : own_To p e below T2 (mkF m 9 #[.val (.ref a0_), .val (.ref a1)] []) s₁ (mkF m 0 #[.val (.ref a0_), .val (.ref a1)] []) := fun t q => ki t (by
    refine XS.aloadN X0.here hx rfl (hb hby own_d3_0) rfl rfl ?_
    show Steps p.tables e below (s₁.setTop (mkF m 1 #[.val (.ref a0_), .val (.ref a1)] [(.ref a0_)])) _
    refine XS.aloadN X0.here hx rfl (hb hby own_d3_1) rfl rfl ?_
    show Steps p.tables e below (s₁.setTop (mkF m 2 #[.val (.ref a0_), .val (.ref a1)] [(.ref a1), (.ref a0_)])) _
    refine XS.iconst X0.here hx rfl (hb hby own_d3_2) ?_
    show Steps p.tables e below (s₁.setTop (mkF m 3 #[.val (.ref a0_), .val (.ref a1)] [(.int (0 : Int32)), (.ref a1), (.ref a0_)])) _
    refine XS.aloadN X0.here hx rfl (hb hby own_d3_3) rfl rfl ?_
    show Steps p.tables e below (s₁.setTop (mkF m 4 #[.val (.ref a0_), .val (.ref a1)] [(.ref a1), (.int (0 : Int32)), (.ref a1), (.ref a0_)])) _
    refine X0.arraylength hx (by rw [e0]; exact Arr1.1) (State.isArrayOf_alike hZ.alike Arr1.2.1) (g := (mkF m 4 #[.val (.ref a0_), .val (.ref a1)] [(.ref a1), (.int (0 : Int32)), (.ref a1), (.ref a0_)])) rfl rfl (hb hby own_d3_4) _ ?_
    rw [len_of Sr1 Mr1]
    show Steps p.tables e below (s₁.setTop (mkF m 5 #[.val (.ref a0_), .val (.ref a1)] [(.int (1 : Int32)), (.int (0 : Int32)), (.ref a1), (.ref a0_)])) _
    refine XS.aconstNull X0.here hx rfl (hb hby own_d3_5) ?_
    show Steps p.tables e below (s₁.setTop (mkF m 6 #[.val (.ref a0_), .val (.ref a1)] [.null, (.int (1 : Int32)), (.int (0 : Int32)), (.ref a1), (.ref a0_)])) _
    refine st2.trans ?_
    show Steps p.tables e below (T2.setTop (mkF m 9 #[.val (.ref a0_), .val (.ref a1)] [])) _
    exact q)
  obtain ⟨fs, hr, hrun, hended, hW, hsame⟩ := X2.leave (v := none) (fun _ => rfl)
  refine ⟨_, _, k0 _ (k4 _ ?_), hrun, hended, _, _, rfl, ?_, ⟨_, rfl⟩, hW, hsame.mono (by decide) (by decide)⟩
  · show Steps p.tables e below (T2.setTop (mkF m 9 #[.val (.ref a0_), .val (.ref a1)] [])) _
    exact X2.returnOut hx Bd.returns (hb hby own_d3_9) hr
  · show QJ1 Z a0_ a1 kc_ x0 cs h0 n0 _ T2.heap _
    exact ⟨rb2, kb2, rfl, N2, K3, E2, Fc2, Fv2, V2⟩
theorem own_efJ2 (m : MethodId) (x0 : Addr) (x1 : Addr) : entryFrame m #[(.ref x0), (.ref x1)] 2 = mkF m 0 #[.val (.ref x0), .val (.ref x1)] [] := by first | (simp [entryFrame, mkF, argsToLocals, Value.category]; done) | rfl
def QJ2 (Z : State) (a0_ : Addr) (a1 : Addr) (kc_ : ClassId) (x0 : Int32) (x1 : Int32) (cs : Int32) (h0 : Heap) (n0 : Nat) (v : Option Value) (h : Heap) (L : List Loc) : Prop := ∃ (b : Addr) (kb : ClassId), v = none ∧ Fr n0 L ∧ Keep h0 h [a0_] ∧ Exa Z h a0_ "java/lang/String" ∧ Fld Z h a0_ "java/lang/String" "coder" "B" (.int (0 : Int32)) ∧ Fld Z h a0_ "java/lang/String" "value" "[B" (.ref b) ∧ Arv Z h b kb .byte (2 : Int32) [(.int (own_by x0)), (.int (own_by x1))] (.int (0 : Int32))
set_option maxRecDepth 65536 in
set_option maxHeartbeats 40000000 in
theorem rmJ2 (l : Launch) (Z : State) (a0 : Array Value) (hw : ∀ d ∈ tables_1, d.before a0 Z = true) (ws : List Jvm.Cond) (a0_ : Addr) (a1 : Addr) (kc_ : ClassId) (x0 : Int32) (x1 : Int32) (cs : Int32) (h0 : Heap) (n0 : Nat) (Z0 : n0 ≤ h0.size) (F_value : Fld Z h0 a0_ "java/lang/String" "value" "[B" .null) (F_coder : Fld Z h0 a0_ "java/lang/String" "coder" "B" (.int (0 : Int32))) (E_ : Exa Z h0 a0_ "java/lang/String") (g_ : n0 ≤ a0_) (V1 : Arv Z h0 a1 kc_ .char (2 : Int32) [(.int x0), (.int x1)] (.int (0 : Int32))) (hx0 : ¬ (255 : Int32) < x0) (hx1 : ¬ (255 : Int32) < x1) (SC : Sta Z Z.heap "java/lang/String" "COMPACT_STRINGS" "Z" (.int cs)) (hcs : ¬ cs = (0 : Int32)) (O0 : Old Z n0 h0) :
    MetFree l (⟨"java/lang/String", "<init>", "([C)V"⟩ : MethodName) (head1 (Jvm.Cond.code (⟨"java/lang/String", "<init>", "([C)V"⟩ : MethodName) jdk_42_method_3_code 2 none :: ws) ({ frames := 3, cells := 1, slots := 2, locals := 52 } : Room)) (fun a U => a = #[(.ref a0_), (.ref a1)] ∧ Z.Warmed39 U.vm ∧ U.heap = h0) (fun _ _ _ _ _ => True) (fun _ U o U' => ∃ v L, o = .returned v ∧ QJ2 Z a0_ a1 kc_ x0 x1 cs h0 n0 v U'.heap L ∧ FrameEnd U o U' L ({ frames := 3, cells := 1, slots := 2, locals := 52 } : Room).cells ({ frames := 3, cells := 1, slots := 2, locals := 52 } : Room).slots) := by
  refine MetFree.of_bodySF (plainFor_of_name own_pn3) hisR ?_
  intro p e s m args below meth c s₁ Bd hml0 hP hK
  obtain ⟨rfl, hZ, hh⟩ := hP
  have hx := Bd.exec
  have hby := Bd.bytes
  have hml : c.maxLocals = 2 := hml0
  have hown : s.vm.findClass "java/lang/String" = some m.cls := findClass_of_methodNamed Bd.named
  have hnm := (name_of_methodNamed Bd.named Bd.method).1
  have X0 : Stand p l e ({ frames := 3, cells := 1, slots := 2, locals := 52 } : Room) s m #[(.ref a0_), (.ref a1)] below meth c s₁ [] 0 0 := Stand.of_body Bd
  have e0 : s₁.heap = h0 := by rw [← hh, Bd.state]; rfl
  have N0 := Fr.nil n0
  have k0 : own_To p e below s₁ (mkF m 0 #[.val (.ref a0_), .val (.ref a1)] []) s₁ (entryFrame m #[(.ref a0_), (.ref a1)] 2) := fun t k => castTop (own_efJ2 m a0_ a1) k
  have ki : own_To p e below s₁ (mkF m 0 #[.val (.ref a0_), .val (.ref a1)] []) s₁ (mkF m 0 #[.val (.ref a0_), .val (.ref a1)] []) := fun t q => q
  obtain ⟨clr1, Arr1, qr1, Sr1, Mr1, Hhr1, Gr1⟩ := id V1
  obtain ⟨_, _, ⟨T2, L2, kk2, n2⟩, -, X2, ⟨Lc2, hQ2, l2, y2, z2⟩, st2⟩ := X0.specialBack hx (y := (⟨"java/lang/String", "<init>", "([CIILjava/lang/Void;)V"⟩ : MethodName)) rfl hown (mvT hZ (hw _ (List.mem_of_getElem? (i := 15) rfl))) (mvT hZ (hw _ (List.mem_of_getElem? (i := 16) rfl))) (mvT hZ (hw _ (List.mem_of_getElem? (i := 18) rfl))) (by decide) (backOf (W := 0) (rmI2 l Z a0 hw [] a0_ a1 kc_ x0 x1 cs h0 n0 Z0 F_value F_coder E_ g_ V1 hx0 hx1 SC hcs O0) hZ (hw _ (List.mem_of_getElem? (i := 18) rfl)) (hw _ (List.mem_of_getElem? (i := 10) rfl)) (by decide) (by decide)) (g := (mkF m 6 #[.val (.ref a0_), .val (.ref a1)] [.null, (.int (2 : Int32)), (.int (0 : Int32)), (.ref a1), (.ref a0_)])) rfl (by rw [hml]; rfl) (Steps.refl _) (a := a0_) (argsL := [(.ref a1), (.int (0 : Int32)), (.int (2 : Int32)), .null]) (rest := []) (lenOf own_pd11 rfl) rfl (by show 2 * 0 + _ ≤ _; exact Nat.le_of_eq rfl) (hb hby own_d3_6) (fun _ _ => ⟨rfl, e0, (by decide : 0 + 1 ≤ _), (by decide : 0 + 2 ≤ _)⟩)
  dsimp only [Pt.U, Pt.locs, Pt.cells, Pt.slots] at X2 l2 y2 z2 st2 hQ2
  subst l2 y2 z2
  obtain ⟨rb2, kb2, rfl, N2q, K2, E2, Fc2, Fv2, V2⟩ := hQ2
  have N2 := Fr.app N0 N2q
  have K3 : Keep h0 T2.heap [a0_] := ((Keep.refl h0 [a0_]).trans K2 (allS (P := fun x => x ∈ ([a0_] : List Addr) ∨ h0.size ≤ x) (Or.inl (List.mem_of_getElem? (i := 0) rfl)) all0))
  have k4 : own_To p e below T2 (mkF m 9 #[.val (.ref a0_), .val (.ref a1)] []) s₁ (mkF m 0 #[.val (.ref a0_), .val (.ref a1)] []) := fun t q => ki t (by
    refine XS.aloadN X0.here hx rfl (hb hby own_d3_0) rfl rfl ?_
    show Steps p.tables e below (s₁.setTop (mkF m 1 #[.val (.ref a0_), .val (.ref a1)] [(.ref a0_)])) _
    refine XS.aloadN X0.here hx rfl (hb hby own_d3_1) rfl rfl ?_
    show Steps p.tables e below (s₁.setTop (mkF m 2 #[.val (.ref a0_), .val (.ref a1)] [(.ref a1), (.ref a0_)])) _
    refine XS.iconst X0.here hx rfl (hb hby own_d3_2) ?_
    show Steps p.tables e below (s₁.setTop (mkF m 3 #[.val (.ref a0_), .val (.ref a1)] [(.int (0 : Int32)), (.ref a1), (.ref a0_)])) _
    refine XS.aloadN X0.here hx rfl (hb hby own_d3_3) rfl rfl ?_
    show Steps p.tables e below (s₁.setTop (mkF m 4 #[.val (.ref a0_), .val (.ref a1)] [(.ref a1), (.int (0 : Int32)), (.ref a1), (.ref a0_)])) _
    refine X0.arraylength hx (by rw [e0]; exact Arr1.1) (State.isArrayOf_alike hZ.alike Arr1.2.1) (g := (mkF m 4 #[.val (.ref a0_), .val (.ref a1)] [(.ref a1), (.int (0 : Int32)), (.ref a1), (.ref a0_)])) rfl rfl (hb hby own_d3_4) _ ?_
    rw [len_of Sr1 Mr1]
    show Steps p.tables e below (s₁.setTop (mkF m 5 #[.val (.ref a0_), .val (.ref a1)] [(.int (2 : Int32)), (.int (0 : Int32)), (.ref a1), (.ref a0_)])) _
    refine XS.aconstNull X0.here hx rfl (hb hby own_d3_5) ?_
    show Steps p.tables e below (s₁.setTop (mkF m 6 #[.val (.ref a0_), .val (.ref a1)] [.null, (.int (2 : Int32)), (.int (0 : Int32)), (.ref a1), (.ref a0_)])) _
    refine st2.trans ?_
    show Steps p.tables e below (T2.setTop (mkF m 9 #[.val (.ref a0_), .val (.ref a1)] [])) _
    exact q)
  obtain ⟨fs, hr, hrun, hended, hW, hsame⟩ := X2.leave (v := none) (fun _ => rfl)
  refine ⟨_, _, k0 _ (k4 _ ?_), hrun, hended, _, _, rfl, ?_, ⟨_, rfl⟩, hW, hsame.mono (by decide) (by decide)⟩
  · show Steps p.tables e below (T2.setTop (mkF m 9 #[.val (.ref a0_), .val (.ref a1)] [])) _
    exact X2.returnOut hx Bd.returns (hb hby own_d3_9) hr
  · show QJ2 Z a0_ a1 kc_ x0 x1 cs h0 n0 _ T2.heap _
    exact ⟨rb2, kb2, rfl, N2, K3, E2, Fc2, Fv2, V2⟩
def own_len (p0 : Int32) : Int32 := if p0 = 0 then 0 else if p0 = 1 then 1 else 2
def own_xs (p0 p1 p2 : Int32) : List Value := if p0 = 0 then [] else if p0 = 1 then [.int (own_by (nar .char p1))] else [.int (own_by (nar .char p1)), .int (own_by (nar .char p2))]
theorem own_pd9 : parseMethodDescriptor "([C)V" = some ⟨[(.array .char)], none⟩ := by decide +kernel
theorem own_d2_0 : decode method_3_code 0 = .ok (.iload_n 0, 1) := by decide +kernel
theorem own_d2_1 : decode method_3_code 1 = .ok (.ifCond .ne 14, 3) := by decide +kernel
theorem own_d2_4 : decode method_3_code 4 = .ok (.new 22, 3) := by decide +kernel
theorem own_d2_7 : decode method_3_code 7 = .ok (.dup, 1) := by decide +kernel
theorem own_d2_8 : decode method_3_code 8 = .ok (.iconst 0, 1) := by decide +kernel
theorem own_d2_9 : decode method_3_code 9 = .ok (.newarray .char, 2) := by decide +kernel
theorem own_d2_11 : decode method_3_code 11 = .ok (.invokespecial 24, 3) := by decide +kernel
theorem own_d2_14 : decode method_3_code 14 = .ok (.areturn, 1) := by decide +kernel
theorem own_d2_15 : decode method_3_code 15 = .ok (.iload_n 0, 1) := by decide +kernel
theorem own_d2_16 : decode method_3_code 16 = .ok (.iconst 1, 1) := by decide +kernel
theorem own_d2_17 : decode method_3_code 17 = .ok (.if_icmp .ne 18, 3) := by decide +kernel
theorem own_d2_20 : decode method_3_code 20 = .ok (.new 22, 3) := by decide +kernel
theorem own_d2_23 : decode method_3_code 23 = .ok (.dup, 1) := by decide +kernel
theorem own_d2_24 : decode method_3_code 24 = .ok (.iconst 1, 1) := by decide +kernel
theorem own_d2_25 : decode method_3_code 25 = .ok (.newarray .char, 2) := by decide +kernel
theorem own_d2_27 : decode method_3_code 27 = .ok (.dup, 1) := by decide +kernel
theorem own_d2_28 : decode method_3_code 28 = .ok (.iconst 0, 1) := by decide +kernel
theorem own_d2_29 : decode method_3_code 29 = .ok (.iload_n 1, 1) := by decide +kernel
theorem own_d2_30 : decode method_3_code 30 = .ok (.castore, 1) := by decide +kernel
theorem own_d2_31 : decode method_3_code 31 = .ok (.invokespecial 24, 3) := by decide +kernel
theorem own_d2_34 : decode method_3_code 34 = .ok (.areturn, 1) := by decide +kernel
theorem own_d2_35 : decode method_3_code 35 = .ok (.new 22, 3) := by decide +kernel
theorem own_d2_38 : decode method_3_code 38 = .ok (.dup, 1) := by decide +kernel
theorem own_d2_39 : decode method_3_code 39 = .ok (.iconst 2, 1) := by decide +kernel
theorem own_d2_40 : decode method_3_code 40 = .ok (.newarray .char, 2) := by decide +kernel
theorem own_d2_42 : decode method_3_code 42 = .ok (.dup, 1) := by decide +kernel
theorem own_d2_43 : decode method_3_code 43 = .ok (.iconst 0, 1) := by decide +kernel
theorem own_d2_44 : decode method_3_code 44 = .ok (.iload_n 1, 1) := by decide +kernel
theorem own_d2_45 : decode method_3_code 45 = .ok (.castore, 1) := by decide +kernel
theorem own_d2_46 : decode method_3_code 46 = .ok (.dup, 1) := by decide +kernel
theorem own_d2_47 : decode method_3_code 47 = .ok (.iconst 1, 1) := by decide +kernel
theorem own_d2_48 : decode method_3_code 48 = .ok (.iload_n 2, 1) := by decide +kernel
theorem own_d2_49 : decode method_3_code 49 = .ok (.castore, 1) := by decide +kernel
theorem own_d2_50 : decode method_3_code 50 = .ok (.invokespecial 24, 3) := by decide +kernel
theorem own_d2_53 : decode method_3_code 53 = .ok (.areturn, 1) := by decide +kernel
theorem own_pn2 : plainName "com/example/vetted_traces/vettedtraces/language/TokenEqualsPinLaw" = true := by first | (simp [plainName, overriddenIn]; done) | decide +kernel
theorem own_ef2 (m : MethodId) (x0 : Int32) (x1 : Int32) (x2 : Int32) : entryFrame m #[(.int x0), (.int x1), (.int x2)] 3 = mkF m 0 #[.val (.int x0), .val (.int x1), .val (.int x2)] [] := by first | (simp [entryFrame, mkF, argsToLocals, Value.category]; done) | rfl
def Q2 (Z : State) (p0 : Int32) (p1 : Int32) (p2 : Int32) (cs : Int32) (h0 : Heap) (n0 : Nat) (v : Option Value) (h : Heap) (L : List Loc) : Prop := ∃ (r b : Addr) (kb : ClassId), v = some (.ref r) ∧ Fr n0 L ∧ Keep h0 h [] ∧ Exa Z h r "java/lang/String" ∧ Fld Z h r "java/lang/String" "coder" "B" (.int (0 : Int32)) ∧ Fld Z h r "java/lang/String" "value" "[B" (.ref b) ∧ Arv Z h b kb .byte (own_len p0) (own_xs p0 p1 p2) (.int (0 : Int32))
set_option maxRecDepth 65536 in
set_option maxHeartbeats 40000000 in
theorem rm2 (l : Launch) (Z : State) (a0 : Array Value) (hw : ∀ d ∈ tables_1, d.before a0 Z = true) (ws : List Jvm.Cond) (p0 : Int32) (p1 : Int32) (p2 : Int32) (cs : Int32) (h0 : Heap) (n0 : Nat) (Z0 : n0 ≤ h0.size) (SC : Sta Z Z.heap "java/lang/String" "COMPACT_STRINGS" "Z" (.int cs)) (hcs : ¬ cs = (0 : Int32)) (O0 : Old Z n0 h0) (hp1 : ¬ (255 : Int32) < nar .char p1) (hp2 : ¬ (255 : Int32) < nar .char p2) (hEL : EW Z a0 own_EL) :
    MetFree l (⟨"com/example/vetted_traces/vettedtraces/language/TokenEqualsPinLaw", "str", "(ICC)Ljava/lang/String;"⟩ : MethodName) (head1 (Jvm.Cond.code (⟨"com/example/vetted_traces/vettedtraces/language/TokenEqualsPinLaw", "str", "(ICC)Ljava/lang/String;"⟩ : MethodName) method_3_code 3 (some (.object "java/lang/String")) :: ws) ({ frames := 4, cells := 6, slots := 12, locals := 66 } : Room)) (fun a U => a = #[(.int p0), (.int p1), (.int p2)] ∧ Z.Warmed39 U.vm ∧ U.heap = h0 ∧ CHv Z own_EL U.vm h0) (fun _ _ _ _ _ => True) (fun _ U o U' => ∃ v L, o = .returned v ∧ Q2 Z p0 p1 p2 cs h0 n0 v U'.heap L ∧ CHr Z own_EL U.vm U.heap U'.vm U'.heap ∧ ReturnedEndW U o U' L ({ frames := 4, cells := 6, slots := 12, locals := 66 } : Room).cells ({ frames := 4, cells := 6, slots := 12, locals := 66 } : Room).slots) := by
  refine MetFree.of_bodySF (plainFor_of_name own_pn2) hisR ?_
  intro p e s m args below meth c s₁ Bd hml0 hP hK
  obtain ⟨rfl, hZ, hh, hCH⟩ := hP
  have hx := Bd.exec
  have hby := Bd.bytes
  have hml : c.maxLocals = 3 := hml0
  have hown : s.vm.findClass "com/example/vetted_traces/vettedtraces/language/TokenEqualsPinLaw" = some m.cls := findClass_of_methodNamed Bd.named
  have hnm := (name_of_methodNamed Bd.named Bd.method).1
  have X0 : Stand p l e ({ frames := 4, cells := 6, slots := 12, locals := 66 } : Room) s m #[(.int p0), (.int p1), (.int p2)] below meth c s₁ [] 0 0 := Stand.of_body Bd
  have e0 : s₁.heap = h0 := by rw [← hh, Bd.state]; rfl
  have N0 := Fr.nil n0
  have k0 : own_To p e below s₁ (mkF m 0 #[.val (.int p0), .val (.int p1), .val (.int p2)] []) s₁ (entryFrame m #[(.int p0), (.int p1), (.int p2)] 3) := fun t k => castTop (own_ef2 m p0 p1 p2) k
  have ki : own_To p e below s₁ (mkF m 0 #[.val (.int p0), .val (.int p1), .val (.int p2)] []) s₁ (mkF m 0 #[.val (.int p0), .val (.int p1), .val (.int p2)] []) := fun t q => q
  have hstr : ∀ a ∈ Bundle.stringAtoms, a.before a0 Z = true := fun d hd => hw d ((by decide +kernel : ∀ d ∈ Bundle.stringAtoms, d ∈ tables_1) d hd)
  have X0 := own_base X0
  have CR0 := CHr.refl hCH
  have k1 : own_To p e below s₁ (mkF m 1 #[.val (.int p0), .val (.int p1), .val (.int p2)] [(.int p0)]) s₁ (mkF m 0 #[.val (.int p0), .val (.int p1), .val (.int p2)] []) := fun t q => ki t (by
    refine XS.iloadN X0.here hx rfl (hb hby own_d2_0) rfl ?_
    show Steps p.tables e below (s₁.setTop (mkF m 1 #[.val (.int p0), .val (.int p1), .val (.int p2)] [(.int p0)])) _
    exact q)
  by_cases hc2 : p0 = (0 : Int32)
  ·
    obtain ⟨T3, h3, X3, e3, E3, A3, D3, -, st3⟩ := newO X0 hx hZ hown (hw _ (List.mem_of_getElem? (i := 8) rfl)) (hw _ (List.mem_of_getElem? (i := 9) rfl)) (hw _ (List.mem_of_getElem? (i := 10) rfl)) e0 (g := (mkF m 4 #[.val (.int p0), .val (.int p1), .val (.int p2)] [])) rfl (hb hby own_d2_4) (by decide) (by decide)
    obtain ⟨b3, g3⟩ : ∃ z, z = h0.size := ⟨_, rfl⟩
    rw [← g3] at A3 D3 st3
    have Sf3_b3 : Safe Z own_EL s.vm h0 b3 := Safe.new (Nat.le_of_eq g3.symm)
    have ge_b3 : n0 ≤ b3 := Nat.le_trans Z0 (Nat.le_of_eq g3.symm)
    have K4 : Keep h0 h0 [] := (Keep.refl h0 [])
    have sz_b3 : h0.size ≤ b3 := Nat.le_trans K4.1 (Nat.le_of_eq g3.symm)
    have F3_24 : Fld Z h3 b3 "java/lang/String" "value" "[B" .null := D3 (Or.inr (hw _ (List.mem_of_getElem? (i := 24) rfl))) (ty := (.array .byte)) (by decide)
    have F3_25 : Fld Z h3 b3 "java/lang/String" "coder" "B" (.int (0 : Int32)) := D3 (Or.inr (hw _ (List.mem_of_getElem? (i := 25) rfl))) (ty := .byte) (by decide)
    obtain ⟨T5, h5, kk5, X5, e5, E5, A5, st5⟩ := newP X3 hx hZ (hw _ (List.mem_of_getElem? (i := 11) rfl)) e3 (g := (mkF m 9 #[.val (.int p0), .val (.int p1), .val (.int p2)] [(.int (0 : Int32)), (.ref b3), (.ref b3)])) rfl (hb hby own_d2_9) rfl (by decide) (cap := 0) (by decide) (by decide) (by decide) (by decide)
    obtain ⟨b5, g5⟩ : ∃ z, z = h3.size := ⟨_, rfl⟩
    rw [← g5] at A5 st5
    have CRc6 := CR0.trans (CHr.ext E3 hCH)
    have Sfc6_b3 := Safe.ext E3 hCH Sf3_b3
    have CHc6 := CRc6.1
    have Sf5_b5 : Safe Z own_EL s.vm h3 b5 := Safe.new (Nat.le_of_eq g5.symm)
    have K7 : Keep h0 h3 [] := (K4.ext E3)
    have ge_b5 : n0 ≤ b5 := Nat.le_trans (Nat.le_trans Z0 K7.1) (Nat.le_of_eq g5.symm)
    have sz_b5 : h0.size ≤ b5 := Nat.le_trans K7.1 (Nat.le_of_eq g5.symm)
    have ne_b3_b5 : b3 ≠ b5 := Nat.ne_of_lt (Nat.lt_of_lt_of_le A3.lt (Nat.le_of_eq g5.symm))
    have V5 : Arv Z h5 b5 kk5 .char (0 : Int32) [] (.int (0 : Int32)) := (Arv.new A5 (by decide)).pad (pad_rep [] (.int (0 : Int32)) 0)
    have k8 : own_To p e below T5 (mkF m 11 #[.val (.int p0), .val (.int p1), .val (.int p2)] [(.ref b5), (.ref b3), (.ref b3)]) s₁ (mkF m 0 #[.val (.int p0), .val (.int p1), .val (.int p2)] []) := fun t q => k1 t (by
      refine XS.ifNo X0.here hx rfl (hb hby own_d2_1) rfl ((if0 _ _).trans (teq hc2).2) ?_
      show Steps p.tables e below (s₁.setTop (mkF m 4 #[.val (.int p0), .val (.int p1), .val (.int p2)] [])) _
      refine st3 _ ?_
      show Steps p.tables e below (T3.setTop (mkF m 7 #[.val (.int p0), .val (.int p1), .val (.int p2)] [(.ref b3)])) _
      refine XS.dup X3.here hx rfl (hb hby own_d2_7) rfl rfl ?_
      show Steps p.tables e below (T3.setTop (mkF m 8 #[.val (.int p0), .val (.int p1), .val (.int p2)] [(.ref b3), (.ref b3)])) _
      refine XS.iconst X3.here hx rfl (hb hby own_d2_8) ?_
      show Steps p.tables e below (T3.setTop (mkF m 9 #[.val (.int p0), .val (.int p1), .val (.int p2)] [(.int (0 : Int32)), (.ref b3), (.ref b3)])) _
      refine st5 _ ?_
      show Steps p.tables e below (T5.setTop (mkF m 11 #[.val (.int p0), .val (.int p1), .val (.int p2)] [(.ref b5), (.ref b3), (.ref b3)])) _
      exact q)
    have CRc10 := CRc6.trans (CHr.ext E5 CHc6)
    have Sfc10_b3 := Safe.ext E5 CHc6 Sfc6_b3
    have Sfc10_b5 := Safe.ext E5 CHc6 Sf5_b5
    have CHc10 := CRc10.1
    have F11 := (F3_24.ext E5)
    have F12 := (F3_25.ext E5)
    have F13 := (A3.ext E5)
    have K14 : Keep h0 h5 [] := (K7.ext E5)
    obtain ⟨_, _, ⟨T9, L9, kk9, n9⟩, -, X9, hSs9, hgr9, ⟨Lc9, hQ9, l9, y9, z9, hC9⟩, st9⟩ := X5.specialBackS hx (y := (⟨"java/lang/String", "<init>", "([C)V"⟩ : MethodName)) rfl hown (mvT hZ (hw _ (List.mem_of_getElem? (i := 12) rfl))) (mvT hZ (hw _ (List.mem_of_getElem? (i := 13) rfl))) (mvT hZ (hw _ (List.mem_of_getElem? (i := 14) rfl))) (by decide) (backOfSH (s := s) (vm0 := s.vm) (W := 1) (rmJ0 l Z a0 hw [] b3 b5 kk5 h5 n0 (Nat.le_trans Z0 K14.1) F11 F12 F13 ge_b3 V5 hEL) hZ (hw _ (List.mem_of_getElem? (i := 14) rfl)) (hw _ (List.mem_of_getElem? (i := 10) rfl)) (by decide) (by decide) hEL CHc10) (g := (mkF m 11 #[.val (.int p0), .val (.int p1), .val (.int p2)] [(.ref b5), (.ref b3), (.ref b3)])) rfl (by rw [hml]; rfl) (Steps.refl _) (a := b3) (argsL := [(.ref b5)]) (rest := [(.ref b3)]) (lenOf own_pd9 rfl) rfl (by show 2 * 0 + _ ≤ _; exact Nat.le_of_eq rfl) (hb hby own_d2_11) (fun _ _ => ⟨rfl, e5, (by decide : 2 + 4 ≤ _), (by decide : 4 + 8 ≤ _)⟩)
    dsimp only [Pt.U, Pt.locs, Pt.cells, Pt.slots] at X9 l9 y9 z9 st9 hQ9 hSs9 hgr9 hC9
    subst l9 y9 z9
    have X9 := own_again X9
    have hSn9 := foldS (State.WarmedH.since (State.WarmedH.refl s) 0) (by rw [e5]; exact (Nat.le_trans (Nat.le_trans (Nat.zero_le _) E3.1) E5.1)) hSs9 hgr9
    have hZn9 : Z.Warmed39 (s.setVm T9.vm).vm := State.Warmed39.trans (t := s.setVm s.vm) hZ hSs9.1
    have hon9 : (s.setVm T9.vm).vm.findClass "com/example/vetted_traces/vettedtraces/language/TokenEqualsPinLaw" = some m.cls := by rw [show (s.setVm T9.vm).vm = T9.vm from rfl, hSs9.1.alike.findClass]; exact hown
    have hZ := hZn9
    have hown := hon9
    have CRl9 := CRc10.trans hC9
    have CHl9 := CRl9.1
    have Sf9_b3 := hC9.safe (F13.lt) Sfc10_b3
    have Sf9_b5 := hC9.safe (V5.lt) Sfc10_b5
    obtain ⟨rb9, kb9, rfl, N9q, K9, E9, Fc9, Fv9, V9⟩ := hQ9
    have N9 := Fr.app N0 N9q
    have K15 : Keep h0 T9.heap [] := (K14.trans K9 (allS (P := fun x => x ∈ ([] : List Addr) ∨ h0.size ≤ x) (Or.inr sz_b3) all0))
    have q1 : own_len p0 = (0 : Int32) := by rw [own_len, if_pos hc2]
    have q2 : own_xs p0 p1 p2 = [] := by rw [own_xs, if_pos hc2]
    have k16 : own_To p e below T9 (mkF m 14 #[.val (.int p0), .val (.int p1), .val (.int p2)] [(.ref b3)]) s₁ (mkF m 0 #[.val (.int p0), .val (.int p1), .val (.int p2)] []) := fun t q => k8 t (by
      refine st9.trans ?_
      show Steps p.tables e below (T9.setTop (mkF m 14 #[.val (.int p0), .val (.int p1), .val (.int p2)] [(.ref b3)])) _
      exact q)
    have hCe := CRl9.trans (CHv.at (vm0 := T9.vm) X9 hZ hEL CHl9)
    obtain ⟨fs, hr, hrun, hended, hEnd⟩ := Stand.leaveW (s := s) (vm₁ := T9.vm) X9 hSn9 (by exact (Nat.le_refl _)) (v := some (.ref b3)) (fun h => by rw [Bd.returns] at h; cases h)
    refine ⟨_, _, k0 _ (k16 _ ?_), hrun, hended, _, _, rfl, ?_, ?_, hEnd.1, hEnd.2.1, hEnd.2.2.1, hEnd.2.2.2.mono (by decide) (by decide)⟩
    · show Steps p.tables e below (T9.setTop (mkF m 14 #[.val (.int p0), .val (.int p1), .val (.int p2)] [(.ref b3)])) _
      exact retOut X9 hx Bd.returns rfl (Or.inr (Or.inr (Or.inr (Or.inr ⟨rfl, rfl, rfl⟩)))) (hb hby own_d2_14) hr
    · show Q2 Z p0 p1 p2 cs h0 n0 _ T9.heap _
      exact ⟨b3, rb9, kb9, rfl, N9, K15, E9, Fc9, Fv9, by rw [q1, q2]; exact V9⟩
    · show CHr Z own_EL s.vm s.heap T9.vm T9.heap
      rw [hh]; exact hCe
  ·
    have k17 : own_To p e below s₁ (mkF m 17 #[.val (.int p0), .val (.int p1), .val (.int p2)] [(.int (1 : Int32)), (.int p0)]) s₁ (mkF m 0 #[.val (.int p0), .val (.int p1), .val (.int p2)] []) := fun t q => k1 t (by
      refine XS.ifYes X0.here hx rfl (pc0 := 1) (pc' := 15) rfl (hb hby own_d2_1) rfl ((if0 _ _).trans (feq hc2).2) (by decide) (by decide) ?_
      show Steps p.tables e below (s₁.setTop (mkF m 15 #[.val (.int p0), .val (.int p1), .val (.int p2)] [])) _
      refine XS.iloadN X0.here hx rfl (hb hby own_d2_15) rfl ?_
      show Steps p.tables e below (s₁.setTop (mkF m 16 #[.val (.int p0), .val (.int p1), .val (.int p2)] [(.int p0)])) _
      refine XS.iconst X0.here hx rfl (hb hby own_d2_16) ?_
      show Steps p.tables e below (s₁.setTop (mkF m 17 #[.val (.int p0), .val (.int p1), .val (.int p2)] [(.int (1 : Int32)), (.int p0)])) _
      exact q)
    by_cases hc18 : p0 = (1 : Int32)
    ·
      obtain ⟨T19, h19, X19, e19, E19, A19, D19, -, st19⟩ := newO X0 hx hZ hown (hw _ (List.mem_of_getElem? (i := 8) rfl)) (hw _ (List.mem_of_getElem? (i := 9) rfl)) (hw _ (List.mem_of_getElem? (i := 10) rfl)) e0 (g := (mkF m 20 #[.val (.int p0), .val (.int p1), .val (.int p2)] [])) rfl (hb hby own_d2_20) (by decide) (by decide)
      obtain ⟨b19, g19⟩ : ∃ z, z = h0.size := ⟨_, rfl⟩
      rw [← g19] at A19 D19 st19
      have Sf19_b19 : Safe Z own_EL s.vm h0 b19 := Safe.new (Nat.le_of_eq g19.symm)
      have ge_b19 : n0 ≤ b19 := Nat.le_trans Z0 (Nat.le_of_eq g19.symm)
      have K20 : Keep h0 h0 [] := (Keep.refl h0 [])
      have sz_b19 : h0.size ≤ b19 := Nat.le_trans K20.1 (Nat.le_of_eq g19.symm)
      have F19_24 : Fld Z h19 b19 "java/lang/String" "value" "[B" .null := D19 (Or.inr (hw _ (List.mem_of_getElem? (i := 24) rfl))) (ty := (.array .byte)) (by decide)
      have F19_25 : Fld Z h19 b19 "java/lang/String" "coder" "B" (.int (0 : Int32)) := D19 (Or.inr (hw _ (List.mem_of_getElem? (i := 25) rfl))) (ty := .byte) (by decide)
      obtain ⟨T21, h21, kk21, X21, e21, E21, A21, st21⟩ := newP X19 hx hZ (hw _ (List.mem_of_getElem? (i := 11) rfl)) e19 (g := (mkF m 25 #[.val (.int p0), .val (.int p1), .val (.int p2)] [(.int (1 : Int32)), (.ref b19), (.ref b19)])) rfl (hb hby own_d2_25) rfl (by decide) (cap := 1) (by decide) (by decide) (by decide) (by decide)
      obtain ⟨b21, g21⟩ : ∃ z, z = h19.size := ⟨_, rfl⟩
      rw [← g21] at A21 st21
      have CRc22 := CR0.trans (CHr.ext E19 hCH)
      have Sfc22_b19 := Safe.ext E19 hCH Sf19_b19
      have CHc22 := CRc22.1
      have Sf21_b21 : Safe Z own_EL s.vm h19 b21 := Safe.new (Nat.le_of_eq g21.symm)
      have K23 : Keep h0 h19 [] := (K20.ext E19)
      have ge_b21 : n0 ≤ b21 := Nat.le_trans (Nat.le_trans Z0 K23.1) (Nat.le_of_eq g21.symm)
      have sz_b21 : h0.size ≤ b21 := Nat.le_trans K23.1 (Nat.le_of_eq g21.symm)
      have ne_b19_b21 : b19 ≠ b21 := Nat.ne_of_lt (Nat.lt_of_lt_of_le A19.lt (Nat.le_of_eq g21.symm))
      have V21 : Arv Z h21 b21 kk21 .char (1 : Int32) [(.int (0 : Int32))] (.int (0 : Int32)) := (Arv.new A21 (by decide)).pad (pad_rep [] (.int (0 : Int32)) 1)
      obtain ⟨clr24, Arr24, qr24, Sr24, Mr24, Hhr24, Gr24⟩ := id V21
      have hinr24 : ¬ ((0 : Int32) < 0 ∨ clr24.slots.size ≤ ((0 : Int32)).toNatClampNeg) := inb_of Sr24 ⟨by decide, by decide⟩
      obtain ⟨T25, h25, X25, e25, W25, st25⟩ := stC X21 hx hZ e21 Arr24 (j := (0 : Int32)) hinr24 (g := (mkF m 30 #[.val (.int p0), .val (.int p1), .val (.int p2)] [(.int p1), (.int (0 : Int32)), (.ref b21), (.ref b21), (.ref b19), (.ref b19)])) rfl rfl (hb hby own_d2_30)
      have N25 := Fr.snoc X25 N0 ge_b21
      obtain ⟨Lf25, Nf25, Xf25⟩ := own_fold X25 N25
      have V25 : Arv Z h25 b21 kk21 .char (1 : Int32) [(.int (nar .char p1))] (.int (0 : Int32)) := Arv.set Arr24 qr24 Sr24 Mr24 Hhr24 Gr24 (fits_nar_char _) W25 0 rfl (Nat.le_of_ble_eq_true rfl)
      have F27 := ((F19_24.ext E21).other W25 (Or.inl ne_b19_b21))
      have F28 := ((F19_25.ext E21).other W25 (Or.inl ne_b19_b21))
      have F29 := ((A19.ext E21).wr W25)
      have K30 : Keep h0 h25 [] := ((K23.ext E21).wr W25 (Or.inr sz_b21))
      have O31 := ((O0.ext E19).ext E21)
      have O32 : Old Z n0 h25 := (O31.wr W25 ge_b21)
      obtain ⟨_, _, ⟨T26, L26, kk26, n26⟩, -, X26, ⟨Lc26, hQ26, l26, y26, z26⟩, st26⟩ := Xf25.specialBack hx (y := (⟨"java/lang/String", "<init>", "([C)V"⟩ : MethodName)) rfl hown (mvT hZ (hw _ (List.mem_of_getElem? (i := 12) rfl))) (mvT hZ (hw _ (List.mem_of_getElem? (i := 13) rfl))) (mvT hZ (hw _ (List.mem_of_getElem? (i := 14) rfl))) (by decide) (backOf (W := 1) (rmJ1 l Z a0 hw [] b19 b21 kk21 (nar .char p1) cs h25 n0 (Nat.le_trans Z0 K30.1) F27 F28 F29 ge_b19 V25 hp1 SC hcs O32) hZ (hw _ (List.mem_of_getElem? (i := 14) rfl)) (hw _ (List.mem_of_getElem? (i := 10) rfl)) (by decide) (by decide)) (g := (mkF m 31 #[.val (.int p0), .val (.int p1), .val (.int p2)] [(.ref b21), (.ref b19), (.ref b19)])) rfl (by rw [hml]; rfl) (Steps.refl _) (a := b19) (argsL := [(.ref b21)]) (rest := [(.ref b19)]) (lenOf own_pd9 rfl) rfl (by show 2 * 0 + _ ≤ _; exact Nat.le_of_eq rfl) (hb hby own_d2_31) (fun _ _ => ⟨rfl, e25, (by decide : 2 + 1 ≤ _), (by decide : 5 + 1 ≤ _)⟩)
      dsimp only [Pt.U, Pt.locs, Pt.cells, Pt.slots] at X26 l26 y26 z26 st26 hQ26
      subst l26 y26 z26
      obtain ⟨rb26, kb26, rfl, N26q, K26, E26, Fc26, Fv26, V26⟩ := hQ26
      have N26 := Fr.app Nf25 N26q
      have K33 : Keep h0 T26.heap [] := (K30.trans K26 (allS (P := fun x => x ∈ ([] : List Addr) ∨ h0.size ≤ x) (Or.inr sz_b19) all0))
      have q1 : own_len p0 = (1 : Int32) := by rw [own_len, if_neg hc2, if_pos hc18]
      have q2 : own_xs p0 p1 p2 = [(.int (own_by (nar .char p1)))] := by rw [own_xs, if_neg hc2, if_pos hc18]
      have k34 : own_To p e below T26 (mkF m 34 #[.val (.int p0), .val (.int p1), .val (.int p2)] [(.ref b19)]) s₁ (mkF m 0 #[.val (.int p0), .val (.int p1), .val (.int p2)] []) := fun t q => k17 t (by
        refine XS.icmpNo X0.here hx rfl (hb hby own_d2_17) rfl (teq hc18).2 ?_
        show Steps p.tables e below (s₁.setTop (mkF m 20 #[.val (.int p0), .val (.int p1), .val (.int p2)] [])) _
        refine st19 _ ?_
        show Steps p.tables e below (T19.setTop (mkF m 23 #[.val (.int p0), .val (.int p1), .val (.int p2)] [(.ref b19)])) _
        refine XS.dup X19.here hx rfl (hb hby own_d2_23) rfl rfl ?_
        show Steps p.tables e below (T19.setTop (mkF m 24 #[.val (.int p0), .val (.int p1), .val (.int p2)] [(.ref b19), (.ref b19)])) _
        refine XS.iconst X19.here hx rfl (hb hby own_d2_24) ?_
        show Steps p.tables e below (T19.setTop (mkF m 25 #[.val (.int p0), .val (.int p1), .val (.int p2)] [(.int (1 : Int32)), (.ref b19), (.ref b19)])) _
        refine st21 _ ?_
        show Steps p.tables e below (T21.setTop (mkF m 27 #[.val (.int p0), .val (.int p1), .val (.int p2)] [(.ref b21), (.ref b19), (.ref b19)])) _
        refine XS.dup X21.here hx rfl (hb hby own_d2_27) rfl rfl ?_
        show Steps p.tables e below (T21.setTop (mkF m 28 #[.val (.int p0), .val (.int p1), .val (.int p2)] [(.ref b21), (.ref b21), (.ref b19), (.ref b19)])) _
        refine XS.iconst X21.here hx rfl (hb hby own_d2_28) ?_
        show Steps p.tables e below (T21.setTop (mkF m 29 #[.val (.int p0), .val (.int p1), .val (.int p2)] [(.int (0 : Int32)), (.ref b21), (.ref b21), (.ref b19), (.ref b19)])) _
        refine XS.iloadN X21.here hx rfl (hb hby own_d2_29) rfl ?_
        show Steps p.tables e below (T21.setTop (mkF m 30 #[.val (.int p0), .val (.int p1), .val (.int p2)] [(.int p1), (.int (0 : Int32)), (.ref b21), (.ref b21), (.ref b19), (.ref b19)])) _
        refine st25 _ ?_
        show Steps p.tables e below (T25.setTop (mkF m 31 #[.val (.int p0), .val (.int p1), .val (.int p2)] [(.ref b21), (.ref b19), (.ref b19)])) _
        refine st26.trans ?_
        show Steps p.tables e below (T26.setTop (mkF m 34 #[.val (.int p0), .val (.int p1), .val (.int p2)] [(.ref b19)])) _
        exact q)
      have CRc35 := CRc22.trans (CHr.ext E21 CHc22)
      have Sfc35_b19 := Safe.ext E21 CHc22 Sfc22_b19
      have Sfc35_b21 := Safe.ext E21 CHc22 Sf21_b21
      have CHc35 := CRc35.1
      have CRc36 := CRc35.trans (CHr.wr W25 Sfc35_b21 CHc35)
      have Sfc36_b19 := Safe.wr W25 Sfc35_b21 CHc35 Sfc35_b19
      have Sfc36_b21 := Safe.wr W25 Sfc35_b21 CHc35 Sfc35_b21
      have CHc36 := CRc36.1
      have CRc37 := CRc36.trans (CHr.keep K26 (sfS Sfc36_b19 sf0) CHc36)
      have Sfc37_b19 := Safe.keep K26 (sfS Sfc36_b19 sf0) CHc36 Sfc36_b19
      have Sfc37_b21 := Safe.keep K26 (sfS Sfc36_b19 sf0) CHc36 Sfc36_b21
      have CHc37 := CRc37.1
      have hCe := CRc37.trans (CHv.at (vm0 := s.vm) X26 hZ hEL CHc37)
      obtain ⟨fs, hr, hrun, hended, hEnd⟩ := Stand.leaveW (s := s) (vm₁ := s.vm) X26 (State.WarmedH.since (State.WarmedH.refl s) 0) (by exact (Nat.le_trans (Nat.le_trans (Nat.le_trans (Nat.le_trans (Nat.zero_le _) E19.1) E21.1) (Keep.of_wr W25).1) K26.1)) (v := some (.ref b19)) (fun h => by rw [Bd.returns] at h; cases h)
      refine ⟨_, _, k0 _ (k34 _ ?_), hrun, hended, _, _, rfl, ?_, ?_, hEnd.1, hEnd.2.1, hEnd.2.2.1, hEnd.2.2.2.mono (by decide) (by decide)⟩
      · show Steps p.tables e below (T26.setTop (mkF m 34 #[.val (.int p0), .val (.int p1), .val (.int p2)] [(.ref b19)])) _
        exact retOut X26 hx Bd.returns rfl (Or.inr (Or.inr (Or.inr (Or.inr ⟨rfl, rfl, rfl⟩)))) (hb hby own_d2_34) hr
      · show Q2 Z p0 p1 p2 cs h0 n0 _ T26.heap _
        exact ⟨b19, rb26, kb26, rfl, N26, K33, E26, Fc26, Fv26, by rw [q1, q2]; exact V26⟩
      · show CHr Z own_EL s.vm s.heap T26.vm T26.heap
        rw [hh]; exact hCe
    ·
      obtain ⟨T38, h38, X38, e38, E38, A38, D38, -, st38⟩ := newO X0 hx hZ hown (hw _ (List.mem_of_getElem? (i := 8) rfl)) (hw _ (List.mem_of_getElem? (i := 9) rfl)) (hw _ (List.mem_of_getElem? (i := 10) rfl)) e0 (g := (mkF m 35 #[.val (.int p0), .val (.int p1), .val (.int p2)] [])) rfl (hb hby own_d2_35) (by decide) (by decide)
      obtain ⟨b38, g38⟩ : ∃ z, z = h0.size := ⟨_, rfl⟩
      rw [← g38] at A38 D38 st38
      have Sf38_b38 : Safe Z own_EL s.vm h0 b38 := Safe.new (Nat.le_of_eq g38.symm)
      have ge_b38 : n0 ≤ b38 := Nat.le_trans Z0 (Nat.le_of_eq g38.symm)
      have K39 : Keep h0 h0 [] := (Keep.refl h0 [])
      have sz_b38 : h0.size ≤ b38 := Nat.le_trans K39.1 (Nat.le_of_eq g38.symm)
      have F38_24 : Fld Z h38 b38 "java/lang/String" "value" "[B" .null := D38 (Or.inr (hw _ (List.mem_of_getElem? (i := 24) rfl))) (ty := (.array .byte)) (by decide)
      have F38_25 : Fld Z h38 b38 "java/lang/String" "coder" "B" (.int (0 : Int32)) := D38 (Or.inr (hw _ (List.mem_of_getElem? (i := 25) rfl))) (ty := .byte) (by decide)
      obtain ⟨T40, h40, kk40, X40, e40, E40, A40, st40⟩ := newP X38 hx hZ (hw _ (List.mem_of_getElem? (i := 11) rfl)) e38 (g := (mkF m 40 #[.val (.int p0), .val (.int p1), .val (.int p2)] [(.int (2 : Int32)), (.ref b38), (.ref b38)])) rfl (hb hby own_d2_40) rfl (by decide) (cap := 2) (by decide) (by decide) (by decide) (by decide)
      obtain ⟨b40, g40⟩ : ∃ z, z = h38.size := ⟨_, rfl⟩
      rw [← g40] at A40 st40
      have CRc41 := CR0.trans (CHr.ext E38 hCH)
      have Sfc41_b38 := Safe.ext E38 hCH Sf38_b38
      have CHc41 := CRc41.1
      have Sf40_b40 : Safe Z own_EL s.vm h38 b40 := Safe.new (Nat.le_of_eq g40.symm)
      have K42 : Keep h0 h38 [] := (K39.ext E38)
      have ge_b40 : n0 ≤ b40 := Nat.le_trans (Nat.le_trans Z0 K42.1) (Nat.le_of_eq g40.symm)
      have sz_b40 : h0.size ≤ b40 := Nat.le_trans K42.1 (Nat.le_of_eq g40.symm)
      have ne_b38_b40 : b38 ≠ b40 := Nat.ne_of_lt (Nat.lt_of_lt_of_le A38.lt (Nat.le_of_eq g40.symm))
      have V40 : Arv Z h40 b40 kk40 .char (2 : Int32) [(.int (0 : Int32)), (.int (0 : Int32))] (.int (0 : Int32)) := (Arv.new A40 (by decide)).pad (pad_rep [] (.int (0 : Int32)) 2)
      obtain ⟨clr43, Arr43, qr43, Sr43, Mr43, Hhr43, Gr43⟩ := id V40
      have hinr43 : ¬ ((0 : Int32) < 0 ∨ clr43.slots.size ≤ ((0 : Int32)).toNatClampNeg) := inb_of Sr43 ⟨by decide, by decide⟩
      obtain ⟨T44, h44, X44, e44, W44, st44⟩ := stC X40 hx hZ e40 Arr43 (j := (0 : Int32)) hinr43 (g := (mkF m 45 #[.val (.int p0), .val (.int p1), .val (.int p2)] [(.int p1), (.int (0 : Int32)), (.ref b40), (.ref b40), (.ref b38), (.ref b38)])) rfl rfl (hb hby own_d2_45)
      have N44 := Fr.snoc X44 N0 ge_b40
      obtain ⟨Lf44, Nf44, Xf44⟩ := own_fold X44 N44
      have V44 : Arv Z h44 b40 kk40 .char (2 : Int32) [(.int (nar .char p1)), (.int (0 : Int32))] (.int (0 : Int32)) := Arv.set Arr43 qr43 Sr43 Mr43 Hhr43 Gr43 (fits_nar_char _) W44 0 rfl (Nat.le_of_ble_eq_true rfl)
      have k45 : own_To p e below T44 (mkF m 49 #[.val (.int p0), .val (.int p1), .val (.int p2)] [(.int p2), (.int (1 : Int32)), (.ref b40), (.ref b40), (.ref b38), (.ref b38)]) s₁ (mkF m 0 #[.val (.int p0), .val (.int p1), .val (.int p2)] []) := fun t q => k17 t (by
        refine XS.icmpYes X0.here hx rfl (pc0 := 17) (pc' := 35) rfl (hb hby own_d2_17) rfl (feq hc18).2 (by decide) (by decide) ?_
        show Steps p.tables e below (s₁.setTop (mkF m 35 #[.val (.int p0), .val (.int p1), .val (.int p2)] [])) _
        refine st38 _ ?_
        show Steps p.tables e below (T38.setTop (mkF m 38 #[.val (.int p0), .val (.int p1), .val (.int p2)] [(.ref b38)])) _
        refine XS.dup X38.here hx rfl (hb hby own_d2_38) rfl rfl ?_
        show Steps p.tables e below (T38.setTop (mkF m 39 #[.val (.int p0), .val (.int p1), .val (.int p2)] [(.ref b38), (.ref b38)])) _
        refine XS.iconst X38.here hx rfl (hb hby own_d2_39) ?_
        show Steps p.tables e below (T38.setTop (mkF m 40 #[.val (.int p0), .val (.int p1), .val (.int p2)] [(.int (2 : Int32)), (.ref b38), (.ref b38)])) _
        refine st40 _ ?_
        show Steps p.tables e below (T40.setTop (mkF m 42 #[.val (.int p0), .val (.int p1), .val (.int p2)] [(.ref b40), (.ref b38), (.ref b38)])) _
        refine XS.dup X40.here hx rfl (hb hby own_d2_42) rfl rfl ?_
        show Steps p.tables e below (T40.setTop (mkF m 43 #[.val (.int p0), .val (.int p1), .val (.int p2)] [(.ref b40), (.ref b40), (.ref b38), (.ref b38)])) _
        refine XS.iconst X40.here hx rfl (hb hby own_d2_43) ?_
        show Steps p.tables e below (T40.setTop (mkF m 44 #[.val (.int p0), .val (.int p1), .val (.int p2)] [(.int (0 : Int32)), (.ref b40), (.ref b40), (.ref b38), (.ref b38)])) _
        refine XS.iloadN X40.here hx rfl (hb hby own_d2_44) rfl ?_
        show Steps p.tables e below (T40.setTop (mkF m 45 #[.val (.int p0), .val (.int p1), .val (.int p2)] [(.int p1), (.int (0 : Int32)), (.ref b40), (.ref b40), (.ref b38), (.ref b38)])) _
        refine st44 _ ?_
        show Steps p.tables e below (T44.setTop (mkF m 46 #[.val (.int p0), .val (.int p1), .val (.int p2)] [(.ref b40), (.ref b38), (.ref b38)])) _
        refine XS.dup Xf44.here hx rfl (hb hby own_d2_46) rfl rfl ?_
        show Steps p.tables e below (T44.setTop (mkF m 47 #[.val (.int p0), .val (.int p1), .val (.int p2)] [(.ref b40), (.ref b40), (.ref b38), (.ref b38)])) _
        refine XS.iconst Xf44.here hx rfl (hb hby own_d2_47) ?_
        show Steps p.tables e below (T44.setTop (mkF m 48 #[.val (.int p0), .val (.int p1), .val (.int p2)] [(.int (1 : Int32)), (.ref b40), (.ref b40), (.ref b38), (.ref b38)])) _
        refine XS.iloadN Xf44.here hx rfl (hb hby own_d2_48) rfl ?_
        show Steps p.tables e below (T44.setTop (mkF m 49 #[.val (.int p0), .val (.int p1), .val (.int p2)] [(.int p2), (.int (1 : Int32)), (.ref b40), (.ref b40), (.ref b38), (.ref b38)])) _
        exact q)
      obtain ⟨clr46, Arr46, qr46, Sr46, Mr46, Hhr46, Gr46⟩ := id V44
      have hinr46 : ¬ ((1 : Int32) < 0 ∨ clr46.slots.size ≤ ((1 : Int32)).toNatClampNeg) := inb_of Sr46 ⟨by decide, by decide⟩
      obtain ⟨T47, h47, X47, e47, W47, st47⟩ := stC Xf44 hx hZ e44 Arr46 (j := (1 : Int32)) hinr46 (g := (mkF m 49 #[.val (.int p0), .val (.int p1), .val (.int p2)] [(.int p2), (.int (1 : Int32)), (.ref b40), (.ref b40), (.ref b38), (.ref b38)])) rfl rfl (hb hby own_d2_49)
      have N47 := Fr.snoc X47 Nf44 ge_b40
      obtain ⟨Lf47, Nf47, Xf47⟩ := own_fold X47 N47
      have V47 : Arv Z h47 b40 kk40 .char (2 : Int32) [(.int (nar .char p1)), (.int (nar .char p2))] (.int (0 : Int32)) := Arv.set Arr46 qr46 Sr46 Mr46 Hhr46 Gr46 (fits_nar_char _) W47 1 rfl (Nat.le_of_ble_eq_true rfl)
      have F49 := (((F38_24.ext E40).other W44 (Or.inl ne_b38_b40)).other W47 (Or.inl ne_b38_b40))
      have F50 := (((F38_25.ext E40).other W44 (Or.inl ne_b38_b40)).other W47 (Or.inl ne_b38_b40))
      have F51 := (((A38.ext E40).wr W44).wr W47)
      have K52 : Keep h0 h47 [] := (((K42.ext E40).wr W44 (Or.inr sz_b40)).wr W47 (Or.inr sz_b40))
      have O53 := ((O0.ext E38).ext E40)
      have O54 : Old Z n0 h47 := ((O53.wr W44 ge_b40).wr W47 ge_b40)
      obtain ⟨_, _, ⟨T48, L48, kk48, n48⟩, -, X48, ⟨Lc48, hQ48, l48, y48, z48⟩, st48⟩ := Xf47.specialBack hx (y := (⟨"java/lang/String", "<init>", "([C)V"⟩ : MethodName)) rfl hown (mvT hZ (hw _ (List.mem_of_getElem? (i := 12) rfl))) (mvT hZ (hw _ (List.mem_of_getElem? (i := 13) rfl))) (mvT hZ (hw _ (List.mem_of_getElem? (i := 14) rfl))) (by decide) (backOf (W := 1) (rmJ2 l Z a0 hw [] b38 b40 kk40 (nar .char p1) (nar .char p2) cs h47 n0 (Nat.le_trans Z0 K52.1) F49 F50 F51 ge_b38 V47 hp1 hp2 SC hcs O54) hZ (hw _ (List.mem_of_getElem? (i := 14) rfl)) (hw _ (List.mem_of_getElem? (i := 10) rfl)) (by decide) (by decide)) (g := (mkF m 50 #[.val (.int p0), .val (.int p1), .val (.int p2)] [(.ref b40), (.ref b38), (.ref b38)])) rfl (by rw [hml]; rfl) (Steps.refl _) (a := b38) (argsL := [(.ref b40)]) (rest := [(.ref b38)]) (lenOf own_pd9 rfl) rfl (by show 2 * 0 + _ ≤ _; exact Nat.le_of_eq rfl) (hb hby own_d2_50) (fun _ _ => ⟨rfl, e47, (by decide : 2 + 1 ≤ _), (by decide : 6 + 2 ≤ _)⟩)
      dsimp only [Pt.U, Pt.locs, Pt.cells, Pt.slots] at X48 l48 y48 z48 st48 hQ48
      subst l48 y48 z48
      obtain ⟨rb48, kb48, rfl, N48q, K48, E48, Fc48, Fv48, V48⟩ := hQ48
      have N48 := Fr.app Nf47 N48q
      have K55 : Keep h0 T48.heap [] := (K52.trans K48 (allS (P := fun x => x ∈ ([] : List Addr) ∨ h0.size ≤ x) (Or.inr sz_b38) all0))
      have q1 : own_len p0 = (2 : Int32) := by rw [own_len, if_neg hc2, if_neg hc18]
      have q2 : own_xs p0 p1 p2 = [(.int (own_by (nar .char p1))), (.int (own_by (nar .char p2)))] := by rw [own_xs, if_neg hc2, if_neg hc18]
      have k56 : own_To p e below T48 (mkF m 53 #[.val (.int p0), .val (.int p1), .val (.int p2)] [(.ref b38)]) s₁ (mkF m 0 #[.val (.int p0), .val (.int p1), .val (.int p2)] []) := fun t q => k45 t (by
        refine st47 _ ?_
        show Steps p.tables e below (T47.setTop (mkF m 50 #[.val (.int p0), .val (.int p1), .val (.int p2)] [(.ref b40), (.ref b38), (.ref b38)])) _
        refine st48.trans ?_
        show Steps p.tables e below (T48.setTop (mkF m 53 #[.val (.int p0), .val (.int p1), .val (.int p2)] [(.ref b38)])) _
        exact q)
      have CRc57 := CRc41.trans (CHr.ext E40 CHc41)
      have Sfc57_b38 := Safe.ext E40 CHc41 Sfc41_b38
      have Sfc57_b40 := Safe.ext E40 CHc41 Sf40_b40
      have CHc57 := CRc57.1
      have CRc58 := CRc57.trans (CHr.wr W44 Sfc57_b40 CHc57)
      have Sfc58_b38 := Safe.wr W44 Sfc57_b40 CHc57 Sfc57_b38
      have Sfc58_b40 := Safe.wr W44 Sfc57_b40 CHc57 Sfc57_b40
      have CHc58 := CRc58.1
      have CRc59 := CRc58.trans (CHr.wr W47 Sfc58_b40 CHc58)
      have Sfc59_b38 := Safe.wr W47 Sfc58_b40 CHc58 Sfc58_b38
      have Sfc59_b40 := Safe.wr W47 Sfc58_b40 CHc58 Sfc58_b40
      have CHc59 := CRc59.1
      have CRc60 := CRc59.trans (CHr.keep K48 (sfS Sfc59_b38 sf0) CHc59)
      have Sfc60_b38 := Safe.keep K48 (sfS Sfc59_b38 sf0) CHc59 Sfc59_b38
      have Sfc60_b40 := Safe.keep K48 (sfS Sfc59_b38 sf0) CHc59 Sfc59_b40
      have CHc60 := CRc60.1
      have hCe := CRc60.trans (CHv.at (vm0 := s.vm) X48 hZ hEL CHc60)
      obtain ⟨fs, hr, hrun, hended, hEnd⟩ := Stand.leaveW (s := s) (vm₁ := s.vm) X48 (State.WarmedH.since (State.WarmedH.refl s) 0) (by exact (Nat.le_trans (Nat.le_trans (Nat.le_trans (Nat.le_trans (Nat.le_trans (Nat.zero_le _) E38.1) E40.1) (Keep.of_wr W44).1) (Keep.of_wr W47).1) K48.1)) (v := some (.ref b38)) (fun h => by rw [Bd.returns] at h; cases h)
      refine ⟨_, _, k0 _ (k56 _ ?_), hrun, hended, _, _, rfl, ?_, ?_, hEnd.1, hEnd.2.1, hEnd.2.2.1, hEnd.2.2.2.mono (by decide) (by decide)⟩
      · show Steps p.tables e below (T48.setTop (mkF m 53 #[.val (.int p0), .val (.int p1), .val (.int p2)] [(.ref b38)])) _
        exact retOut X48 hx Bd.returns rfl (Or.inr (Or.inr (Or.inr (Or.inr ⟨rfl, rfl, rfl⟩)))) (hb hby own_d2_53) hr
      · show Q2 Z p0 p1 p2 cs h0 n0 _ T48.heap _
        exact ⟨b38, rb48, kb48, rfl, N48, K55, E48, Fc48, Fv48, by rw [q1, q2]; exact V48⟩
      · show CHr Z own_EL s.vm s.heap T48.vm T48.heap
        rw [hh]; exact hCe
def own_od (i : Nat) : Int32 := if i = 0 then 0 else if i = 1 then 1 else if i = 2 then 41 else 46
/-- the four constants -/
def own_en (Z : State) (en : Nat → Addr) : Prop := (Sta Z Z.heap "com/example/vetted_traces/vettedtraces/language/TokenKind" "NAME" "Lcom/example/vetted_traces/vettedtraces/language/TokenKind;" (.ref (en 0)) ∧ Sta Z Z.heap "com/example/vetted_traces/vettedtraces/language/TokenKind" "INTEGER" "Lcom/example/vetted_traces/vettedtraces/language/TokenKind;" (.ref (en 1)) ∧ Sta Z Z.heap "com/example/vetted_traces/vettedtraces/language/TokenKind" "PLUS" "Lcom/example/vetted_traces/vettedtraces/language/TokenKind;" (.ref (en 2)) ∧ Sta Z Z.heap "com/example/vetted_traces/vettedtraces/language/TokenKind" "END" "Lcom/example/vetted_traces/vettedtraces/language/TokenKind;" (.ref (en 3))) ∧ (∀ i, i < 4 → Exa Z Z.heap (en i) "com/example/vetted_traces/vettedtraces/language/TokenKind") ∧ ∀ i, i < 4 → Fld Z Z.heap (en i) "java/lang/Enum" "ordinal" "I" (.int (own_od i))
theorem own_ne {Z : State} {en : Nat → Addr} (H : own_en Z en) (i j : Nat) (hi : i < 4) (hj : j < 4) (h : own_od i ≠ own_od j) : en i ≠ en j := (H.2.2 i hi).ne (H.2.2 j hj) (fun q => h (Value.int.inj q))
def own_kind (en : Nat → Addr) (p0 : Int32) : Addr := if p0 = 0 then en 0 else if p0 = 1 then en 1 else if p0 = 2 then en 2 else en 3
theorem own_kindE {Z : State} {en : Nat → Addr} (H : own_en Z en) (k : Int32) : Exa Z Z.heap (own_kind en k) "com/example/vetted_traces/vettedtraces/language/TokenKind" := by
  unfold own_kind
  (repeat' split) <;> exact H.2.1 _ (by decide)
theorem own_out (x : Int32) (h0 : ¬ x = 0) (h1 : ¬ x = 1) (h2 : ¬ x = 2) : x.toInt < 0 ∨ x.toInt > 2 := by
  simp only [← Int32.toInt_inj, Int32.reduceToInt] at h0 h1 h2; omega
theorem own_d6_0 : decode method_2_code 0 = .ok (.iload_n 0, 1) := by decide +kernel
theorem own_d6_1 : decode method_2_code 1 = .ok (.tableswitch 39 0 2 #[27, 31, 35], 27) := by decide +kernel
theorem own_d6_28 : decode method_2_code 28 = .ok (.getstatic 7, 3) := by decide +kernel
theorem own_d6_31 : decode method_2_code 31 = .ok (.areturn, 1) := by decide +kernel
theorem own_d6_32 : decode method_2_code 32 = .ok (.getstatic 13, 3) := by decide +kernel
theorem own_d6_35 : decode method_2_code 35 = .ok (.areturn, 1) := by decide +kernel
theorem own_d6_36 : decode method_2_code 36 = .ok (.getstatic 16, 3) := by decide +kernel
theorem own_d6_39 : decode method_2_code 39 = .ok (.areturn, 1) := by decide +kernel
theorem own_d6_40 : decode method_2_code 40 = .ok (.getstatic 19, 3) := by decide +kernel
theorem own_d6_43 : decode method_2_code 43 = .ok (.areturn, 1) := by decide +kernel
theorem own_pn6 : plainName "com/example/vetted_traces/vettedtraces/language/TokenEqualsPinLaw" = true := by first | (simp [plainName, overriddenIn]; done) | decide +kernel
theorem own_ef6 (m : MethodId) (x0 : Int32) : entryFrame m #[(.int x0)] 1 = mkF m 0 #[.val (.int x0)] [] := by first | (simp [entryFrame, mkF, argsToLocals, Value.category]; done) | rfl
def Q6 (Z : State) (p0 : Int32) (en : Nat → Addr) (h0 : Heap) (n0 : Nat) (v : Option Value) (h : Heap) (L : List Loc) : Prop := v = some (.ref (own_kind en p0)) ∧ Fr n0 L ∧ h = h0
set_option maxRecDepth 65536 in
set_option maxHeartbeats 40000000 in
theorem rm6 (l : Launch) (Z : State) (a0 : Array Value) (hw : ∀ d ∈ tables_1, d.before a0 Z = true) (ws : List Jvm.Cond) (p0 : Int32) (en : Nat → Addr) (h0 : Heap) (n0 : Nat) (Z0 : n0 ≤ h0.size) (HE : own_en Z en) (O0 : Old Z n0 h0) :
    MetFree l (⟨"com/example/vetted_traces/vettedtraces/language/TokenEqualsPinLaw", "kind", "(I)Lcom/example/vetted_traces/vettedtraces/language/TokenKind;"⟩ : MethodName) (head1 (Jvm.Cond.code (⟨"com/example/vetted_traces/vettedtraces/language/TokenEqualsPinLaw", "kind", "(I)Lcom/example/vetted_traces/vettedtraces/language/TokenKind;"⟩ : MethodName) method_2_code 1 (some (.object "com/example/vetted_traces/vettedtraces/language/TokenKind")) :: ws) ({ frames := 0, cells := 0, slots := 0, locals := 0 } : Room)) (fun a U => a = #[(.int p0)] ∧ Z.Warmed39 U.vm ∧ U.heap = h0) (fun _ _ _ _ _ => True) (fun _ U o U' => ∃ v L, o = .returned v ∧ Q6 Z p0 en h0 n0 v U'.heap L ∧ FrameEnd U o U' L ({ frames := 0, cells := 0, slots := 0, locals := 0 } : Room).cells ({ frames := 0, cells := 0, slots := 0, locals := 0 } : Room).slots) := by
  refine MetFree.of_bodySF (plainFor_of_name own_pn6) hisR ?_
  intro p e s m args below meth c s₁ Bd hml0 hP hK
  obtain ⟨rfl, hZ, hh⟩ := hP
  have hx := Bd.exec
  have hby := Bd.bytes
  have hml : c.maxLocals = 1 := hml0
  have hown : s.vm.findClass "com/example/vetted_traces/vettedtraces/language/TokenEqualsPinLaw" = some m.cls := findClass_of_methodNamed Bd.named
  have hnm := (name_of_methodNamed Bd.named Bd.method).1
  have X0 : Stand p l e ({ frames := 0, cells := 0, slots := 0, locals := 0 } : Room) s m #[(.int p0)] below meth c s₁ [] 0 0 := Stand.of_body Bd
  have e0 : s₁.heap = h0 := by rw [← hh, Bd.state]; rfl
  have N0 := Fr.nil n0
  have k0 : own_To p e below s₁ (mkF m 0 #[.val (.int p0)] []) s₁ (entryFrame m #[(.int p0)] 1) := fun t k => castTop (own_ef6 m p0) k
  have ki : own_To p e below s₁ (mkF m 0 #[.val (.int p0)] []) s₁ (mkF m 0 #[.val (.int p0)] []) := fun t q => q
  have k1 : own_To p e below s₁ (mkF m 1 #[.val (.int p0)] [(.int p0)]) s₁ (mkF m 0 #[.val (.int p0)] []) := fun t q => ki t (by
    refine XS.iloadN X0.here hx rfl (hb hby own_d6_0) rfl ?_
    show Steps p.tables e below (s₁.setTop (mkF m 1 #[.val (.int p0)] [(.int p0)])) _
    exact q)
  by_cases hk0 : p0 = (0 : Int32)
  ·
    obtain ⟨T2, X2, e2, st2⟩ := getS2 X0 hx hZ hown (host := "") (Or.inl (hw _ (List.mem_of_getElem? (i := 36) rfl))) Via.refl e0 (HE.1.1.ext O0.2) (g := (mkF m 28 #[.val (.int p0)] [])) rfl (hb hby own_d6_28)
    have k3 : own_To p e below T2 (mkF m 31 #[.val (.int p0)] [(.ref (en 0))]) s₁ (mkF m 0 #[.val (.int p0)] []) := fun t q => k1 t (by
      refine XS.tswIn X0.here hx rfl (pc0 := 1) (pc' := 28) rfl (hb hby own_d6_1) rfl (by rw [hk0]; decide) (o := 27) (by rw [hk0]; rfl) (by decide) (by decide) ?_
      show Steps p.tables e below (s₁.setTop (mkF m 28 #[.val (.int p0)] [])) _
      refine st2 _ ?_
      show Steps p.tables e below (T2.setTop (mkF m 31 #[.val (.int p0)] [(.ref (en 0))])) _
      exact q)
    obtain ⟨fs, hr, hrun, hended, hW, hsame⟩ := X2.leave (v := some (.ref (en 0))) (fun h => by rw [Bd.returns] at h; cases h)
    refine ⟨_, _, k0 _ (k3 _ ?_), hrun, hended, _, _, rfl, ?_, ⟨_, rfl⟩, hW, hsame.mono (by decide) (by decide)⟩
    · show Steps p.tables e below (T2.setTop (mkF m 31 #[.val (.int p0)] [(.ref (en 0))])) _
      exact retOut X2 hx Bd.returns rfl (Or.inr (Or.inr (Or.inr (Or.inr ⟨rfl, rfl, rfl⟩)))) (hb hby own_d6_31) hr
    · show Q6 Z p0 en h0 n0 _ T2.heap _
      rw [e2]
      exact ⟨by rw [own_kind, if_pos hk0], N0, rfl⟩
  by_cases hk1 : p0 = (1 : Int32)
  ·
    obtain ⟨T4, X4, e4, st4⟩ := getS2 X0 hx hZ hown (host := "") (Or.inl (hw _ (List.mem_of_getElem? (i := 78) rfl))) Via.refl e0 (HE.1.2.1.ext O0.2) (g := (mkF m 32 #[.val (.int p0)] [])) rfl (hb hby own_d6_32)
    have k5 : own_To p e below T4 (mkF m 35 #[.val (.int p0)] [(.ref (en 1))]) s₁ (mkF m 0 #[.val (.int p0)] []) := fun t q => k1 t (by
      refine XS.tswIn X0.here hx rfl (pc0 := 1) (pc' := 32) rfl (hb hby own_d6_1) rfl (by rw [hk1]; decide) (o := 31) (by rw [hk1]; rfl) (by decide) (by decide) ?_
      show Steps p.tables e below (s₁.setTop (mkF m 32 #[.val (.int p0)] [])) _
      refine st4 _ ?_
      show Steps p.tables e below (T4.setTop (mkF m 35 #[.val (.int p0)] [(.ref (en 1))])) _
      exact q)
    obtain ⟨fs, hr, hrun, hended, hW, hsame⟩ := X4.leave (v := some (.ref (en 1))) (fun h => by rw [Bd.returns] at h; cases h)
    refine ⟨_, _, k0 _ (k5 _ ?_), hrun, hended, _, _, rfl, ?_, ⟨_, rfl⟩, hW, hsame.mono (by decide) (by decide)⟩
    · show Steps p.tables e below (T4.setTop (mkF m 35 #[.val (.int p0)] [(.ref (en 1))])) _
      exact retOut X4 hx Bd.returns rfl (Or.inr (Or.inr (Or.inr (Or.inr ⟨rfl, rfl, rfl⟩)))) (hb hby own_d6_35) hr
    · show Q6 Z p0 en h0 n0 _ T4.heap _
      rw [e4]
      exact ⟨by rw [own_kind, if_neg hk0, if_pos hk1], N0, rfl⟩
  by_cases hk2 : p0 = (2 : Int32)
  ·
    obtain ⟨T6, X6, e6, st6⟩ := getS2 X0 hx hZ hown (host := "") (Or.inl (hw _ (List.mem_of_getElem? (i := 92) rfl))) Via.refl e0 (HE.1.2.2.1.ext O0.2) (g := (mkF m 36 #[.val (.int p0)] [])) rfl (hb hby own_d6_36)
    have k7 : own_To p e below T6 (mkF m 39 #[.val (.int p0)] [(.ref (en 2))]) s₁ (mkF m 0 #[.val (.int p0)] []) := fun t q => k1 t (by
      refine XS.tswIn X0.here hx rfl (pc0 := 1) (pc' := 36) rfl (hb hby own_d6_1) rfl (by rw [hk2]; decide) (o := 35) (by rw [hk2]; rfl) (by decide) (by decide) ?_
      show Steps p.tables e below (s₁.setTop (mkF m 36 #[.val (.int p0)] [])) _
      refine st6 _ ?_
      show Steps p.tables e below (T6.setTop (mkF m 39 #[.val (.int p0)] [(.ref (en 2))])) _
      exact q)
    obtain ⟨fs, hr, hrun, hended, hW, hsame⟩ := X6.leave (v := some (.ref (en 2))) (fun h => by rw [Bd.returns] at h; cases h)
    refine ⟨_, _, k0 _ (k7 _ ?_), hrun, hended, _, _, rfl, ?_, ⟨_, rfl⟩, hW, hsame.mono (by decide) (by decide)⟩
    · show Steps p.tables e below (T6.setTop (mkF m 39 #[.val (.int p0)] [(.ref (en 2))])) _
      exact retOut X6 hx Bd.returns rfl (Or.inr (Or.inr (Or.inr (Or.inr ⟨rfl, rfl, rfl⟩)))) (hb hby own_d6_39) hr
    · show Q6 Z p0 en h0 n0 _ T6.heap _
      rw [e6]
      exact ⟨by rw [own_kind, if_neg hk0, if_neg hk1, if_pos hk2], N0, rfl⟩
  obtain ⟨T8, X8, e8, st8⟩ := getS2 X0 hx hZ hown (host := "") (Or.inl (hw _ (List.mem_of_getElem? (i := 90) rfl))) Via.refl e0 (HE.1.2.2.2.ext O0.2) (g := (mkF m 40 #[.val (.int p0)] [])) rfl (hb hby own_d6_40)
  have k9 : own_To p e below T8 (mkF m 43 #[.val (.int p0)] [(.ref (en 3))]) s₁ (mkF m 0 #[.val (.int p0)] []) := fun t q => k1 t (by
    refine XS.tswOut X0.here hx rfl (pc0 := 1) (pc' := 40) rfl (hb hby own_d6_1) rfl (own_out p0 hk0 hk1 hk2) (by decide) (by decide) ?_
    show Steps p.tables e below (s₁.setTop (mkF m 40 #[.val (.int p0)] [])) _
    refine st8 _ ?_
    show Steps p.tables e below (T8.setTop (mkF m 43 #[.val (.int p0)] [(.ref (en 3))])) _
    exact q)
  obtain ⟨fs, hr, hrun, hended, hW, hsame⟩ := X8.leave (v := some (.ref (en 3))) (fun h => by rw [Bd.returns] at h; cases h)
  refine ⟨_, _, k0 _ (k9 _ ?_), hrun, hended, _, _, rfl, ?_, ⟨_, rfl⟩, hW, hsame.mono (by decide) (by decide)⟩
  · show Steps p.tables e below (T8.setTop (mkF m 43 #[.val (.int p0)] [(.ref (en 3))])) _
    exact retOut X8 hx Bd.returns rfl (Or.inr (Or.inr (Or.inr (Or.inr ⟨rfl, rfl, rfl⟩)))) (hb hby own_d6_43) hr
  · show Q6 Z p0 en h0 n0 _ T8.heap _
    rw [e8]
    exact ⟨by rw [own_kind, if_neg hk0, if_neg hk1, if_neg hk2], N0, rfl⟩
theorem own_d8_0 : decode jdk_31_method_11_code 0 = .ok (.aload_n 0, 1) := by decide +kernel
theorem own_d8_1 : decode jdk_31_method_11_code 1 = .ok (.ifnonnull 12, 3) := by decide +kernel
theorem own_d8_13 : decode jdk_31_method_11_code 13 = .ok (.aload_n 0, 1) := by decide +kernel
theorem own_d8_14 : decode jdk_31_method_11_code 14 = .ok (.areturn, 1) := by decide +kernel
theorem own_pn8 : plainName "java/util/Objects" = true := by first | (simp [plainName, overriddenIn]; done) | decide +kernel
theorem own_ef8 (m : MethodId) (x0 : Addr) (x1 : Addr) : entryFrame m #[(.ref x0), (.ref x1)] 2 = mkF m 0 #[.val (.ref x0), .val (.ref x1)] [] := by first | (simp [entryFrame, mkF, argsToLocals, Value.category]; done) | rfl
def Q8 (Z : State) (a0_ : Addr) (a1 : Addr) (h0 : Heap) (n0 : Nat) (v : Option Value) (h : Heap) (L : List Loc) : Prop := v = some (.ref a0_) ∧ Fr n0 L ∧ h = h0
set_option maxRecDepth 65536 in
set_option maxHeartbeats 40000000 in
theorem rm8 (l : Launch) (Z : State) (a0 : Array Value) (hw : ∀ d ∈ tables_1, d.before a0 Z = true) (ws : List Jvm.Cond) (a0_ : Addr) (a1 : Addr) (h0 : Heap) (n0 : Nat) (Z0 : n0 ≤ h0.size) :
    MetFree l (⟨"java/util/Objects", "requireNonNull", "(Ljava/lang/Object;Ljava/lang/String;)Ljava/lang/Object;"⟩ : MethodName) (head1 (Jvm.Cond.code (⟨"java/util/Objects", "requireNonNull", "(Ljava/lang/Object;Ljava/lang/String;)Ljava/lang/Object;"⟩ : MethodName) jdk_31_method_11_code 2 (some (.object "java/lang/Object")) :: ws) ({ frames := 0, cells := 0, slots := 0, locals := 0 } : Room)) (fun a U => a = #[(.ref a0_), (.ref a1)] ∧ Z.Warmed39 U.vm ∧ U.heap = h0) (fun _ _ _ _ _ => True) (fun _ U o U' => ∃ v L, o = .returned v ∧ Q8 Z a0_ a1 h0 n0 v U'.heap L ∧ FrameEnd U o U' L ({ frames := 0, cells := 0, slots := 0, locals := 0 } : Room).cells ({ frames := 0, cells := 0, slots := 0, locals := 0 } : Room).slots) := by
  refine MetFree.of_bodySF (plainFor_of_name own_pn8) hisR ?_
  intro p e s m args below meth c s₁ Bd hml0 hP hK
  obtain ⟨rfl, hZ, hh⟩ := hP
  have hx := Bd.exec
  have hby := Bd.bytes
  have hml : c.maxLocals = 2 := hml0
  have hown : s.vm.findClass "java/util/Objects" = some m.cls := findClass_of_methodNamed Bd.named
  have hnm := (name_of_methodNamed Bd.named Bd.method).1
  have X0 : Stand p l e ({ frames := 0, cells := 0, slots := 0, locals := 0 } : Room) s m #[(.ref a0_), (.ref a1)] below meth c s₁ [] 0 0 := Stand.of_body Bd
  have e0 : s₁.heap = h0 := by rw [← hh, Bd.state]; rfl
  have N0 := Fr.nil n0
  have k0 : own_To p e below s₁ (mkF m 0 #[.val (.ref a0_), .val (.ref a1)] []) s₁ (entryFrame m #[(.ref a0_), (.ref a1)] 2) := fun t k => castTop (own_ef8 m a0_ a1) k
  have ki : own_To p e below s₁ (mkF m 0 #[.val (.ref a0_), .val (.ref a1)] []) s₁ (mkF m 0 #[.val (.ref a0_), .val (.ref a1)] []) := fun t q => q
  have k1 : own_To p e below s₁ (mkF m 14 #[.val (.ref a0_), .val (.ref a1)] [(.ref a0_)]) s₁ (mkF m 0 #[.val (.ref a0_), .val (.ref a1)] []) := fun t q => ki t (by
    refine XS.aloadN X0.here hx rfl (hb hby own_d8_0) rfl rfl ?_
    show Steps p.tables e below (s₁.setTop (mkF m 1 #[.val (.ref a0_), .val (.ref a1)] [(.ref a0_)])) _
    refine XS.ifnonnullYes X0.here hx rfl (pc0 := 1) (pc' := 13) rfl (hb hby own_d8_1) rfl (by decide) (by decide) ?_
    show Steps p.tables e below (s₁.setTop (mkF m 13 #[.val (.ref a0_), .val (.ref a1)] [])) _
    refine XS.aloadN X0.here hx rfl (hb hby own_d8_13) rfl rfl ?_
    show Steps p.tables e below (s₁.setTop (mkF m 14 #[.val (.ref a0_), .val (.ref a1)] [(.ref a0_)])) _
    exact q)
  obtain ⟨fs, hr, hrun, hended, hW, hsame⟩ := X0.leave (v := some (.ref a0_)) (fun h => by rw [Bd.returns] at h; cases h)
  refine ⟨_, _, k0 _ (k1 _ ?_), hrun, hended, _, _, rfl, ?_, ⟨_, rfl⟩, hW, hsame.mono (by decide) (by decide)⟩
  · show Steps p.tables e below (s₁.setTop (mkF m 14 #[.val (.ref a0_), .val (.ref a1)] [(.ref a0_)])) _
    exact retOut X0 hx Bd.returns rfl (Or.inr (Or.inr (Or.inr (Or.inr ⟨rfl, rfl, rfl⟩)))) (hb hby own_d8_14) hr
  · show Q8 Z a0_ a1 h0 n0 _ s₁.heap _
    rw [e0]
    exact ⟨rfl, N0, rfl⟩
theorem own_pd6 : parseMethodDescriptor "(Ljava/lang/Object;Ljava/lang/String;)Ljava/lang/Object;" = some ⟨[(.object "java/lang/Object"), (.object "java/lang/String")], some (.object "java/lang/Object")⟩ := by decide +kernel
theorem own_d7_0 : decode prog_76_method_1_code 0 = .ok (.aload_n 0, 1) := by decide +kernel
theorem own_d7_1 : decode prog_76_method_1_code 1 = .ok (.invokespecial 1, 3) := by decide +kernel
theorem own_d7_4 : decode prog_76_method_1_code 4 = .ok (.aload_n 0, 1) := by decide +kernel
theorem own_d7_5 : decode prog_76_method_1_code 5 = .ok (.aload_n 1, 1) := by decide +kernel
theorem own_d7_6 : decode prog_76_method_1_code 6 = .ok (.ldc 7, 2) := by decide +kernel
theorem own_d7_8 : decode prog_76_method_1_code 8 = .ok (.invokestatic 9, 3) := by decide +kernel
theorem own_d7_11 : decode prog_76_method_1_code 11 = .ok (.checkcast 15, 3) := by decide +kernel
theorem own_d7_14 : decode prog_76_method_1_code 14 = .ok (.putfield 17, 3) := by decide +kernel
theorem own_d7_17 : decode prog_76_method_1_code 17 = .ok (.aload_n 0, 1) := by decide +kernel
theorem own_d7_18 : decode prog_76_method_1_code 18 = .ok (.aload_n 2, 1) := by decide +kernel
theorem own_d7_19 : decode prog_76_method_1_code 19 = .ok (.ldc 22, 2) := by decide +kernel
theorem own_d7_21 : decode prog_76_method_1_code 21 = .ok (.invokestatic 9, 3) := by decide +kernel
theorem own_d7_24 : decode prog_76_method_1_code 24 = .ok (.checkcast 24, 3) := by decide +kernel
theorem own_d7_27 : decode prog_76_method_1_code 27 = .ok (.putfield 26, 3) := by decide +kernel
theorem own_d7_30 : decode prog_76_method_1_code 30 = .ok (.aload_n 0, 1) := by decide +kernel
theorem own_d7_31 : decode prog_76_method_1_code 31 = .ok (.iload_n 3, 1) := by decide +kernel
theorem own_d7_32 : decode prog_76_method_1_code 32 = .ok (.putfield 29, 3) := by decide +kernel
theorem own_d7_35 : decode prog_76_method_1_code 35 = .ok (.aload_n 0, 1) := by decide +kernel
theorem own_d7_36 : decode prog_76_method_1_code 36 = .ok (.iload 4, 2) := by decide +kernel
theorem own_d7_38 : decode prog_76_method_1_code 38 = .ok (.putfield 33, 3) := by decide +kernel
theorem own_d7_41 : decode prog_76_method_1_code 41 = .ok (.return_, 1) := by decide +kernel
theorem own_pn7 : plainName "com/example/vetted_traces/vettedtraces/language/Token" = true := by first | (simp [plainName, overriddenIn]; done) | decide +kernel
theorem own_ef7 (m : MethodId) (x0 : Addr) (x1 : Addr) (x2 : Addr) (x3 : Int32) (x4 : Int32) : entryFrame m #[(.ref x0), (.ref x1), (.ref x2), (.int x3), (.int x4)] 5 = mkF m 0 #[.val (.ref x0), .val (.ref x1), .val (.ref x2), .val (.int x3), .val (.int x4)] [] := by first | (simp [entryFrame, mkF, argsToLocals, Value.category]; done) | rfl
def Q7 (Z : State) (a0_ : Addr) (a1 : Addr) (a2 : Addr) (p3 : Int32) (p4 : Int32) (h0 : Heap) (n0 : Nat) (v : Option Value) (h : Heap) (L : List Loc) : Prop := v = none ∧ Fr n0 L ∧ Keep h0 h [a0_] ∧ Exa Z h a0_ "com/example/vetted_traces/vettedtraces/language/Token" ∧ Fld Z h a0_ "com/example/vetted_traces/vettedtraces/language/Token" "kind" "Lcom/example/vetted_traces/vettedtraces/language/TokenKind;" (.ref a1) ∧ Fld Z h a0_ "com/example/vetted_traces/vettedtraces/language/Token" "text" "Ljava/lang/String;" (.ref a2) ∧ Fld Z h a0_ "com/example/vetted_traces/vettedtraces/language/Token" "line" "I" (.int p3) ∧ Fld Z h a0_ "com/example/vetted_traces/vettedtraces/language/Token" "column" "I" (.int p4)
set_option maxRecDepth 65536 in
set_option maxHeartbeats 40000000 in
theorem rm7 (l : Launch) (Z : State) (a0 : Array Value) (hw : ∀ d ∈ tables_1, d.before a0 Z = true) (ws : List Jvm.Cond) (a0_ : Addr) (a1 : Addr) (a2 : Addr) (p3 : Int32) (p4 : Int32) (h0 : Heap) (n0 : Nat) (Z0 : n0 ≤ h0.size) (F_kind : Fld Z h0 a0_ "com/example/vetted_traces/vettedtraces/language/Token" "kind" "Lcom/example/vetted_traces/vettedtraces/language/TokenKind;" .null) (F_text : Fld Z h0 a0_ "com/example/vetted_traces/vettedtraces/language/Token" "text" "Ljava/lang/String;" .null) (F_line : Fld Z h0 a0_ "com/example/vetted_traces/vettedtraces/language/Token" "line" "I" (.int (0 : Int32))) (F_column : Fld Z h0 a0_ "com/example/vetted_traces/vettedtraces/language/Token" "column" "I" (.int (0 : Int32))) (E_ : Exa Z h0 a0_ "com/example/vetted_traces/vettedtraces/language/Token") (g_ : n0 ≤ a0_) (E1_ : Exa Z h0 a1 "com/example/vetted_traces/vettedtraces/language/TokenKind") (E2_ : Exa Z h0 a2 "java/lang/String") (hEL : EW Z a0 own_EL) :
    MetFree l (⟨"com/example/vetted_traces/vettedtraces/language/Token", "<init>", "(Lcom/example/vetted_traces/vettedtraces/language/TokenKind;Ljava/lang/String;II)V"⟩ : MethodName) (head1 (Jvm.Cond.code (⟨"com/example/vetted_traces/vettedtraces/language/Token", "<init>", "(Lcom/example/vetted_traces/vettedtraces/language/TokenKind;Ljava/lang/String;II)V"⟩ : MethodName) prog_76_method_1_code 5 none :: ws) ({ frames := 1, cells := 4, slots := 40, locals := 14 } : Room)) (fun a U => a = #[(.ref a0_), (.ref a1), (.ref a2), (.int p3), (.int p4)] ∧ Z.Warmed39 U.vm ∧ U.heap = h0 ∧ CHv Z own_EL U.vm h0) (fun _ _ _ _ _ => True) (fun _ U o U' => ∃ v L, o = .returned v ∧ Q7 Z a0_ a1 a2 p3 p4 h0 n0 v U'.heap L ∧ CHr Z own_EL U.vm U.heap U'.vm U'.heap ∧ ReturnedEndW U o U' L ({ frames := 1, cells := 4, slots := 40, locals := 14 } : Room).cells ({ frames := 1, cells := 4, slots := 40, locals := 14 } : Room).slots) := by
  refine MetFree.of_bodySF (plainFor_of_name own_pn7) hisR ?_
  intro p e s m args below meth c s₁ Bd hml0 hP hK
  obtain ⟨rfl, hZ, hh, hCH⟩ := hP
  have hx := Bd.exec
  have hby := Bd.bytes
  have hml : c.maxLocals = 5 := hml0
  have hown : s.vm.findClass "com/example/vetted_traces/vettedtraces/language/Token" = some m.cls := findClass_of_methodNamed Bd.named
  have hnm := (name_of_methodNamed Bd.named Bd.method).1
  have X0 : Stand p l e ({ frames := 1, cells := 4, slots := 40, locals := 14 } : Room) s m #[(.ref a0_), (.ref a1), (.ref a2), (.int p3), (.int p4)] below meth c s₁ [] 0 0 := Stand.of_body Bd
  have e0 : s₁.heap = h0 := by rw [← hh, Bd.state]; rfl
  have N0 := Fr.nil n0
  have k0 : own_To p e below s₁ (mkF m 0 #[.val (.ref a0_), .val (.ref a1), .val (.ref a2), .val (.int p3), .val (.int p4)] []) s₁ (entryFrame m #[(.ref a0_), (.ref a1), (.ref a2), (.int p3), (.int p4)] 5) := fun t k => castTop (own_ef7 m a0_ a1 a2 p3 p4) k
  have ki : own_To p e below s₁ (mkF m 0 #[.val (.ref a0_), .val (.ref a1), .val (.ref a2), .val (.int p3), .val (.int p4)] []) s₁ (mkF m 0 #[.val (.ref a0_), .val (.ref a1), .val (.ref a2), .val (.int p3), .val (.int p4)] []) := fun t q => q
  have hstr : ∀ a ∈ Bundle.stringAtoms, a.before a0 Z = true := fun d hd => hw d ((by decide +kernel : ∀ d ∈ Bundle.stringAtoms, d ∈ tables_1) d hd)
  have X0 := own_base X0
  have CR0 := CHr.refl hCH
  have Sf0_a0_ : Safe Z own_EL s.vm h0 a0_ := Safe.exa hZ.alike E_ (by decide) (by decide)
  obtain ⟨T1, X1, e1, st1⟩ := initO X0 hx hZ hown (hw _ (List.mem_of_getElem? (i := 42) rfl)) (hw _ (List.mem_of_getElem? (i := 20) rfl)) (hw _ (List.mem_of_getElem? (i := 21) rfl)) e0 (g := (mkF m 1 #[.val (.ref a0_), .val (.ref a1), .val (.ref a2), .val (.int p3), .val (.int p4)] [(.ref a0_)])) rfl (by rw [hml]; rfl) rfl (hb hby own_d7_1) (by decide) (W := 0) (by show 2 * 0 + _ ≤ _; exact Nat.le_of_eq rfl) (by decide)
  have k2 : own_To p e below T1 (mkF m 6 #[.val (.ref a0_), .val (.ref a1), .val (.ref a2), .val (.int p3), .val (.int p4)] [(.ref a1), (.ref a0_)]) s₁ (mkF m 0 #[.val (.ref a0_), .val (.ref a1), .val (.ref a2), .val (.int p3), .val (.int p4)] []) := fun t q => ki t (by
    refine XS.aloadN X0.here hx rfl (hb hby own_d7_0) rfl rfl ?_
    show Steps p.tables e below (s₁.setTop (mkF m 1 #[.val (.ref a0_), .val (.ref a1), .val (.ref a2), .val (.int p3), .val (.int p4)] [(.ref a0_)])) _
    refine st1 _ ?_
    show Steps p.tables e below (T1.setTop (mkF m 4 #[.val (.ref a0_), .val (.ref a1), .val (.ref a2), .val (.int p3), .val (.int p4)] [])) _
    refine XS.aloadN X1.here hx rfl (hb hby own_d7_4) rfl rfl ?_
    show Steps p.tables e below (T1.setTop (mkF m 5 #[.val (.ref a0_), .val (.ref a1), .val (.ref a2), .val (.int p3), .val (.int p4)] [(.ref a0_)])) _
    refine XS.aloadN X1.here hx rfl (hb hby own_d7_5) rfl rfl ?_
    show Steps p.tables e below (T1.setTop (mkF m 6 #[.val (.ref a0_), .val (.ref a1), .val (.ref a2), .val (.int p3), .val (.int p4)] [(.ref a1), (.ref a0_)])) _
    exact q)
  obtain ⟨b3, T3, h3, kk3, bb3, kb3, X3, e3, E3, hS3, hk3, hZ3, hown3, Ex3, Fc3, Fv3, V3, -, -, hC3, -, -, st3⟩ := ldcCH (vm0 := s.vm) X1 hx hZ hown (hw _ (List.mem_of_getElem? (i := 43) rfl)) hstr e1 (State.WarmedH.since (State.WarmedH.refl s) 0) (Nat.zero_le _) hEL (List.mem_of_getElem? (i := 0) rfl) hCH (vs := [(.int (107 : Int32)), (.int (105 : Int32)), (.int (110 : Int32)), (.int (100 : Int32))]) (z := (4 : Int32)) ⟨by decide, rfl⟩ (by decide) rfl (g := (mkF m 6 #[.val (.ref a0_), .val (.ref a1), .val (.ref a2), .val (.int p3), .val (.int p4)] [(.ref a1), (.ref a0_)])) rfl (hb hby own_d7_6) (n := 16) (by decide) (by decide) (by decide) (by decide)
  have hZ := hZ3
  have hown := hown3
  have CRl3 := CR0.trans hC3
  have CHl3 := CRl3.1
  have Sf3_a0_ := hC3.safe (E_.lt) Sf0_a0_
  have K5 : Keep h0 h3 [a0_] := ((Keep.refl h0 [a0_]).ext E3)
  obtain ⟨_, _, ⟨T4, L4, kk4, n4⟩, -, X4, ⟨Lc4, hQ4, l4, y4, z4⟩, st4⟩ := Jvm.LawKit.callS X3 hx (y := (⟨"java/util/Objects", "requireNonNull", "(Ljava/lang/Object;Ljava/lang/String;)Ljava/lang/Object;"⟩ : MethodName)) hown (mvT hZ (hw _ (List.mem_of_getElem? (i := 44) rfl))) (mvT hZ (hw _ (List.mem_of_getElem? (i := 45) rfl))) (mvT hZ (hw _ (List.mem_of_getElem? (i := 46) rfl))) (mvT hZ (hw _ (List.mem_of_getElem? (i := 47) rfl))) (by decide) (backOf (W := 1) (rm8 l Z a0 hw [] a1 b3 h3 n0 (Nat.le_trans Z0 K5.1)) hZ (hw _ (List.mem_of_getElem? (i := 47) rfl)) (hw _ (List.mem_of_getElem? (i := 46) rfl)) (by decide) (by decide)) (g := (mkF m 8 #[.val (.ref a0_), .val (.ref a1), .val (.ref a2), .val (.int p3), .val (.int p4)] [(.ref b3), (.ref a1), (.ref a0_)])) rfl (by rw [hml]; rfl) (argsL := [(.ref a1), (.ref b3)]) (rest := [(.ref a0_)]) (lenOf own_pd6 rfl) rfl (by show 2 * 0 + _ ≤ _; exact Nat.le_of_eq rfl) (hb hby own_d7_8) (fun _ _ => ⟨rfl, e3, (by decide : 2 + 0 ≤ _), (by decide : 20 + 0 ≤ _)⟩)
  dsimp only [Pt.U, Pt.locs, Pt.cells, Pt.slots] at X4 l4 y4 z4 st4 hQ4
  subst l4 y4 z4
  obtain ⟨rfl, N4q, e4⟩ := hQ4
  have N4 := Fr.app N0 N4q
  have F6 := (E1_.ext E3)
  obtain ⟨T7, X7, e7, st7⟩ := castY X4 hx hZ hown (hw _ (List.mem_of_getElem? (i := 48) rfl)) e4 (Ins.self F6) (g := (mkF m 11 #[.val (.ref a0_), .val (.ref a1), .val (.ref a2), .val (.int p3), .val (.int p4)] [(.ref a1), (.ref a0_)])) rfl rfl (hb hby own_d7_11)
  have F8 := (F_kind.ext E3)
  have F9 := (E_.ext E3)
  obtain ⟨T10, h10, X10, e10, W10, st10⟩ := putF X7 hx hZ hown (host := "") (Or.inl (hw _ (List.mem_of_getElem? (i := 50) rfl))) Via.refl e7 F8 F9 (Or.inr ⟨(hw _ (List.mem_of_getElem? (i := 51) rfl)), rfl, hnm⟩) (hw _ (List.mem_of_getElem? (i := 31) rfl)) (ty := (.object "com/example/vetted_traces/vettedtraces/language/TokenKind")) (by decide) rfl rfl (g := (mkF m 14 #[.val (.ref a0_), .val (.ref a1), .val (.ref a2), .val (.int p3), .val (.int p4)] [(.ref a1), (.ref a0_)])) rfl rfl (hb hby own_d7_14)
  have N10 := Fr.snoc X10 N4 g_
  obtain ⟨Lf10, Nf10, Xf10⟩ := own_fold X10 N10
  have Fw10 := F8.same W10
  have k11 : own_To p e below T10 (mkF m 19 #[.val (.ref a0_), .val (.ref a1), .val (.ref a2), .val (.int p3), .val (.int p4)] [(.ref a2), (.ref a0_)]) s₁ (mkF m 0 #[.val (.ref a0_), .val (.ref a1), .val (.ref a2), .val (.int p3), .val (.int p4)] []) := fun t q => k2 t (by
    refine st3 _ ?_
    show Steps p.tables e below (T3.setTop (mkF m 8 #[.val (.ref a0_), .val (.ref a1), .val (.ref a2), .val (.int p3), .val (.int p4)] [(.ref b3), (.ref a1), (.ref a0_)])) _
    refine st4 _ ?_
    show Steps p.tables e below (T4.setTop (mkF m 11 #[.val (.ref a0_), .val (.ref a1), .val (.ref a2), .val (.int p3), .val (.int p4)] [(.ref a1), (.ref a0_)])) _
    refine st7 _ ?_
    show Steps p.tables e below (T7.setTop (mkF m 14 #[.val (.ref a0_), .val (.ref a1), .val (.ref a2), .val (.int p3), .val (.int p4)] [(.ref a1), (.ref a0_)])) _
    refine st10 _ ?_
    show Steps p.tables e below (T10.setTop (mkF m 17 #[.val (.ref a0_), .val (.ref a1), .val (.ref a2), .val (.int p3), .val (.int p4)] [])) _
    refine XS.aloadN Xf10.here hx rfl (hb hby own_d7_17) rfl rfl ?_
    show Steps p.tables e below (T10.setTop (mkF m 18 #[.val (.ref a0_), .val (.ref a1), .val (.ref a2), .val (.int p3), .val (.int p4)] [(.ref a0_)])) _
    refine XS.aloadN Xf10.here hx rfl (hb hby own_d7_18) rfl rfl ?_
    show Steps p.tables e below (T10.setTop (mkF m 19 #[.val (.ref a0_), .val (.ref a1), .val (.ref a2), .val (.int p3), .val (.int p4)] [(.ref a2), (.ref a0_)])) _
    exact q)
  have CRc13 := CRl3.trans (CHr.wr W10 Sf3_a0_ CHl3)
  have Sfc13_a0_ := Safe.wr W10 Sf3_a0_ CHl3 Sf3_a0_
  have CHc13 := CRc13.1
  obtain ⟨b12, T12, h12, kk12, bb12, kb12, X12, e12, E12, hS12, hk12, hZ12, hown12, Ex12, Fc12, Fv12, V12, -, -, hC12, -, -, st12⟩ := ldcCH (vm0 := T3.vm) Xf10 hx hZ hown (hw _ (List.mem_of_getElem? (i := 52) rfl)) hstr e10 hS3 (Nat.le_trans hk3 (Keep.of_wr W10).1) hEL (List.mem_of_getElem? (i := 1) rfl) CHc13 (vs := [(.int (116 : Int32)), (.int (101 : Int32)), (.int (120 : Int32)), (.int (116 : Int32))]) (z := (4 : Int32)) ⟨by decide, rfl⟩ (by decide) rfl (g := (mkF m 19 #[.val (.ref a0_), .val (.ref a1), .val (.ref a2), .val (.int p3), .val (.int p4)] [(.ref a2), (.ref a0_)])) rfl (hb hby own_d7_19) (n := 16) (by decide) (by decide) (by decide) (by decide)
  have hZ := hZ12
  have hown := hown12
  have CRl12 := CRc13.trans hC12
  have CHl12 := CRl12.1
  have Sf12_a0_ := hC12.safe ((F9.wr W10).lt) Sfc13_a0_
  have K15 : Keep h0 h12 [a0_] := ((K5.wr W10 (Or.inl (List.mem_of_getElem? (i := 0) rfl))).ext E12)
  obtain ⟨_, _, ⟨T14, L14, kk14, n14⟩, -, X14, ⟨Lc14, hQ14, l14, y14, z14⟩, st14⟩ := Jvm.LawKit.callS X12 hx (y := (⟨"java/util/Objects", "requireNonNull", "(Ljava/lang/Object;Ljava/lang/String;)Ljava/lang/Object;"⟩ : MethodName)) hown (mvT hZ (hw _ (List.mem_of_getElem? (i := 44) rfl))) (mvT hZ (hw _ (List.mem_of_getElem? (i := 45) rfl))) (mvT hZ (hw _ (List.mem_of_getElem? (i := 46) rfl))) (mvT hZ (hw _ (List.mem_of_getElem? (i := 47) rfl))) (by decide) (backOf (W := 1) (rm8 l Z a0 hw [] a2 b12 h12 n0 (Nat.le_trans Z0 K15.1)) hZ (hw _ (List.mem_of_getElem? (i := 47) rfl)) (hw _ (List.mem_of_getElem? (i := 46) rfl)) (by decide) (by decide)) (g := (mkF m 21 #[.val (.ref a0_), .val (.ref a1), .val (.ref a2), .val (.int p3), .val (.int p4)] [(.ref b12), (.ref a2), (.ref a0_)])) rfl (by rw [hml]; rfl) (argsL := [(.ref a2), (.ref b12)]) (rest := [(.ref a0_)]) (lenOf own_pd6 rfl) rfl (by show 2 * 0 + _ ≤ _; exact Nat.le_of_eq rfl) (hb hby own_d7_21) (fun _ _ => ⟨rfl, e12, (by decide : 4 + 0 ≤ _), (by decide : 40 + 0 ≤ _)⟩)
  dsimp only [Pt.U, Pt.locs, Pt.cells, Pt.slots] at X14 l14 y14 z14 st14 hQ14
  subst l14 y14 z14
  obtain ⟨rfl, N14q, e14⟩ := hQ14
  have N14 := Fr.app Nf10 N14q
  have F16 := (((E2_.ext E3).wr W10).ext E12)
  obtain ⟨T17, X17, e17, st17⟩ := castY X14 hx hZ hown (hw _ (List.mem_of_getElem? (i := 53) rfl)) e14 (Ins.self F16) (g := (mkF m 24 #[.val (.ref a0_), .val (.ref a1), .val (.ref a2), .val (.int p3), .val (.int p4)] [(.ref a2), (.ref a0_)])) rfl rfl (hb hby own_d7_24)
  have F18 := (((F_text.ext E3).other W10 (Or.inr (slot_ne (Or.inr (hw _ (List.mem_of_getElem? (i := 55) rfl))) (Or.inr (hw _ (List.mem_of_getElem? (i := 51) rfl))) (by decide) (t := (.object "java/lang/String")) (t' := (.object "com/example/vetted_traces/vettedtraces/language/TokenKind")) (by decide) (by decide)))).ext E12)
  have F19 := ((F9.wr W10).ext E12)
  obtain ⟨T20, h20, X20, e20, W20, st20⟩ := putF X17 hx hZ hown (host := "") (Or.inl (hw _ (List.mem_of_getElem? (i := 54) rfl))) Via.refl e17 F18 F19 (Or.inr ⟨(hw _ (List.mem_of_getElem? (i := 55) rfl)), rfl, hnm⟩) (hw _ (List.mem_of_getElem? (i := 31) rfl)) (ty := (.object "java/lang/String")) (by decide) rfl rfl (g := (mkF m 27 #[.val (.ref a0_), .val (.ref a1), .val (.ref a2), .val (.int p3), .val (.int p4)] [(.ref a2), (.ref a0_)])) rfl rfl (hb hby own_d7_27)
  have N20 := Fr.snoc X20 N14 g_
  obtain ⟨Lf20, Nf20, Xf20⟩ := own_fold X20 N20
  have Fw20 := F18.same W20
  have F21 := (((F_line.ext E3).other W10 (Or.inr (slot_ne (Or.inr (hw _ (List.mem_of_getElem? (i := 57) rfl))) (Or.inr (hw _ (List.mem_of_getElem? (i := 51) rfl))) (by decide) (t := .int) (t' := (.object "com/example/vetted_traces/vettedtraces/language/TokenKind")) (by decide) (by decide)))).ext E12)
  have F22 := (F21.other W20 (Or.inr (slot_ne (Or.inr (hw _ (List.mem_of_getElem? (i := 57) rfl))) (Or.inr (hw _ (List.mem_of_getElem? (i := 55) rfl))) (by decide) (t := .int) (t' := (.object "java/lang/String")) (by decide) (by decide))))
  have F23 := (F19.wr W20)
  obtain ⟨T24, h24, X24, e24, W24, st24⟩ := putF Xf20 hx hZ hown (host := "") (Or.inl (hw _ (List.mem_of_getElem? (i := 56) rfl))) Via.refl e20 F22 F23 (Or.inr ⟨(hw _ (List.mem_of_getElem? (i := 57) rfl)), rfl, hnm⟩) (hw _ (List.mem_of_getElem? (i := 31) rfl)) (ty := .int) (by decide) rfl rfl (g := (mkF m 32 #[.val (.ref a0_), .val (.ref a1), .val (.ref a2), .val (.int p3), .val (.int p4)] [(.int p3), (.ref a0_)])) rfl rfl (hb hby own_d7_32)
  have N24 := Fr.snoc X24 Nf20 g_
  obtain ⟨Lf24, Nf24, Xf24⟩ := own_fold X24 N24
  have Fw24 := F22.same W24
  have F25 := (((F_column.ext E3).other W10 (Or.inr (slot_ne (Or.inr (hw _ (List.mem_of_getElem? (i := 59) rfl))) (Or.inr (hw _ (List.mem_of_getElem? (i := 51) rfl))) (by decide) (t := .int) (t' := (.object "com/example/vetted_traces/vettedtraces/language/TokenKind")) (by decide) (by decide)))).ext E12)
  have F26 := ((F25.other W20 (Or.inr (slot_ne (Or.inr (hw _ (List.mem_of_getElem? (i := 59) rfl))) (Or.inr (hw _ (List.mem_of_getElem? (i := 55) rfl))) (by decide) (t := .int) (t' := (.object "java/lang/String")) (by decide) (by decide)))).other W24 (Or.inr (slot_ne (Or.inr (hw _ (List.mem_of_getElem? (i := 59) rfl))) (Or.inr (hw _ (List.mem_of_getElem? (i := 57) rfl))) (by decide) (t := .int) (t' := .int) (by decide) (by decide))))
  have F27 := (F23.wr W24)
  obtain ⟨T28, h28, X28, e28, W28, st28⟩ := putF Xf24 hx hZ hown (host := "") (Or.inl (hw _ (List.mem_of_getElem? (i := 58) rfl))) Via.refl e24 F26 F27 (Or.inr ⟨(hw _ (List.mem_of_getElem? (i := 59) rfl)), rfl, hnm⟩) (hw _ (List.mem_of_getElem? (i := 31) rfl)) (ty := .int) (by decide) rfl rfl (g := (mkF m 38 #[.val (.ref a0_), .val (.ref a1), .val (.ref a2), .val (.int p3), .val (.int p4)] [(.int p4), (.ref a0_)])) rfl rfl (hb hby own_d7_38)
  have N28 := Fr.snoc X28 Nf24 g_
  obtain ⟨Lf28, Nf28, Xf28⟩ := own_fold X28 N28
  have Fw28 := F26.same W28
  have F29 := (((Fw10.ext E12).other W20 (Or.inr (slot_ne (Or.inr (hw _ (List.mem_of_getElem? (i := 51) rfl))) (Or.inr (hw _ (List.mem_of_getElem? (i := 55) rfl))) (by decide) (t := (.object "com/example/vetted_traces/vettedtraces/language/TokenKind")) (t' := (.object "java/lang/String")) (by decide) (by decide)))).other W24 (Or.inr (slot_ne (Or.inr (hw _ (List.mem_of_getElem? (i := 51) rfl))) (Or.inr (hw _ (List.mem_of_getElem? (i := 57) rfl))) (by decide) (t := (.object "com/example/vetted_traces/vettedtraces/language/TokenKind")) (t' := .int) (by decide) (by decide))))
  have F30 := (F29.other W28 (Or.inr (slot_ne (Or.inr (hw _ (List.mem_of_getElem? (i := 51) rfl))) (Or.inr (hw _ (List.mem_of_getElem? (i := 59) rfl))) (by decide) (t := (.object "com/example/vetted_traces/vettedtraces/language/TokenKind")) (t' := .int) (by decide) (by decide))))
  have F31 := ((Fw20.other W24 (Or.inr (slot_ne (Or.inr (hw _ (List.mem_of_getElem? (i := 55) rfl))) (Or.inr (hw _ (List.mem_of_getElem? (i := 57) rfl))) (by decide) (t := (.object "java/lang/String")) (t' := .int) (by decide) (by decide)))).other W28 (Or.inr (slot_ne (Or.inr (hw _ (List.mem_of_getElem? (i := 55) rfl))) (Or.inr (hw _ (List.mem_of_getElem? (i := 59) rfl))) (by decide) (t := (.object "java/lang/String")) (t' := .int) (by decide) (by decide))))
  have F32 := (Fw24.other W28 (Or.inr (slot_ne (Or.inr (hw _ (List.mem_of_getElem? (i := 57) rfl))) (Or.inr (hw _ (List.mem_of_getElem? (i := 59) rfl))) (by decide) (t := .int) (t' := .int) (by decide) (by decide))))
  have F33 := (F27.wr W28)
  have K34 : Keep h0 h28 [a0_] := (((K15.wr W20 (Or.inl (List.mem_of_getElem? (i := 0) rfl))).wr W24 (Or.inl (List.mem_of_getElem? (i := 0) rfl))).wr W28 (Or.inl (List.mem_of_getElem? (i := 0) rfl)))
  have k35 : own_To p e below T28 (mkF m 41 #[.val (.ref a0_), .val (.ref a1), .val (.ref a2), .val (.int p3), .val (.int p4)] []) s₁ (mkF m 0 #[.val (.ref a0_), .val (.ref a1), .val (.ref a2), .val (.int p3), .val (.int p4)] []) := fun t q => k11 t (by
    refine st12 _ ?_
    show Steps p.tables e below (T12.setTop (mkF m 21 #[.val (.ref a0_), .val (.ref a1), .val (.ref a2), .val (.int p3), .val (.int p4)] [(.ref b12), (.ref a2), (.ref a0_)])) _
    refine st14 _ ?_
    show Steps p.tables e below (T14.setTop (mkF m 24 #[.val (.ref a0_), .val (.ref a1), .val (.ref a2), .val (.int p3), .val (.int p4)] [(.ref a2), (.ref a0_)])) _
    refine st17 _ ?_
    show Steps p.tables e below (T17.setTop (mkF m 27 #[.val (.ref a0_), .val (.ref a1), .val (.ref a2), .val (.int p3), .val (.int p4)] [(.ref a2), (.ref a0_)])) _
    refine st20 _ ?_
    show Steps p.tables e below (T20.setTop (mkF m 30 #[.val (.ref a0_), .val (.ref a1), .val (.ref a2), .val (.int p3), .val (.int p4)] [])) _
    refine XS.aloadN Xf20.here hx rfl (hb hby own_d7_30) rfl rfl ?_
    show Steps p.tables e below (T20.setTop (mkF m 31 #[.val (.ref a0_), .val (.ref a1), .val (.ref a2), .val (.int p3), .val (.int p4)] [(.ref a0_)])) _
    refine XS.iloadN Xf20.here hx rfl (hb hby own_d7_31) rfl ?_
    show Steps p.tables e below (T20.setTop (mkF m 32 #[.val (.ref a0_), .val (.ref a1), .val (.ref a2), .val (.int p3), .val (.int p4)] [(.int p3), (.ref a0_)])) _
    refine st24 _ ?_
    show Steps p.tables e below (T24.setTop (mkF m 35 #[.val (.ref a0_), .val (.ref a1), .val (.ref a2), .val (.int p3), .val (.int p4)] [])) _
    refine XS.aloadN Xf24.here hx rfl (hb hby own_d7_35) rfl rfl ?_
    show Steps p.tables e below (T24.setTop (mkF m 36 #[.val (.ref a0_), .val (.ref a1), .val (.ref a2), .val (.int p3), .val (.int p4)] [(.ref a0_)])) _
    refine XS.iload Xf24.here hx rfl (hb hby own_d7_36) rfl ?_
    show Steps p.tables e below (T24.setTop (mkF m 38 #[.val (.ref a0_), .val (.ref a1), .val (.ref a2), .val (.int p3), .val (.int p4)] [(.int p4), (.ref a0_)])) _
    refine st28 _ ?_
    show Steps p.tables e below (T28.setTop (mkF m 41 #[.val (.ref a0_), .val (.ref a1), .val (.ref a2), .val (.int p3), .val (.int p4)] [])) _
    exact q)
  have CRc36 := CRl12.trans (CHr.wr W20 Sf12_a0_ CHl12)
  have Sfc36_a0_ := Safe.wr W20 Sf12_a0_ CHl12 Sf12_a0_
  have CHc36 := CRc36.1
  have CRc37 := CRc36.trans (CHr.wr W24 Sfc36_a0_ CHc36)
  have Sfc37_a0_ := Safe.wr W24 Sfc36_a0_ CHc36 Sfc36_a0_
  have CHc37 := CRc37.1
  have CRc38 := CRc37.trans (CHr.wr W28 Sfc37_a0_ CHc37)
  have Sfc38_a0_ := Safe.wr W28 Sfc37_a0_ CHc37 Sfc37_a0_
  have CHc38 := CRc38.1
  have hCe := CRc38.trans (CHv.at (vm0 := T12.vm) Xf28 hZ hEL CHc38)
  obtain ⟨fs, hr, hrun, hended, hEnd⟩ := Stand.leaveW (s := s) (vm₁ := T12.vm) Xf28 hS12 (by rw [e28]; exact (Nat.le_trans (Nat.le_trans (Nat.le_trans hk12 (Keep.of_wr W20).1) (Keep.of_wr W24).1) (Keep.of_wr W28).1)) (v := none) (fun _ => rfl)
  refine ⟨_, _, k0 _ (k35 _ ?_), hrun, hended, _, _, rfl, ?_, ?_, hEnd.1, hEnd.2.1, hEnd.2.2.1, hEnd.2.2.2.mono (by decide) (by decide)⟩
  · show Steps p.tables e below (T28.setTop (mkF m 41 #[.val (.ref a0_), .val (.ref a1), .val (.ref a2), .val (.int p3), .val (.int p4)] [])) _
    exact Xf28.returnOut hx Bd.returns (hb hby own_d7_41) hr
  · show Q7 Z a0_ a1 a2 p3 p4 h0 n0 _ T28.heap _
    rw [e28]
    exact ⟨rfl, Nf28, K34, F33, F30, F31, F32, Fw28⟩
  · show CHr Z own_EL s.vm s.heap T28.vm T28.heap
    rw [hh, e28]; exact hCe
def own_seq (z0 z1 : Int32) (v0 v1 : List Value) : Int32 := if z0 = z1 ∧ v0 = v1 then 1 else 0
theorem own_inc (i z : Int32) (h1 : 0 ≤ i.toInt) (h2 : i.toInt < z.toInt) : (i + (1 : Int32)).toInt = i.toInt + 1 := by
  have a := c_iadd i 1
  have r := rng32 (i + 1)
  have r2 := rng32 z
  rw [show (1 : Int32).toInt = 1 from rfl] at a; omega
theorem own_byte {v : Value} (h : fits .byte v = true) : ∃ x, v = .int x := by
  cases v <;> simp [fits] at h <;> exact ⟨_, rfl⟩
theorem own_leq {v0 v1 : List Value} {n : Nat} {d : Value} (h0 : v0.length = n) (h1 : v1.length = n) (h : ∀ j, j < n → v0.getD j d = v1.getD j d) : v0 = v1 := by
  apply List.ext_getElem (h0.trans h1.symm)
  intro i g0 g1
  have q := h i (by omega)
  simpa [List.getD, g0, g1] using q
theorem own_d11_0 : decode jdk_43_method_13_code 0 = .ok (.aload_n 0, 1) := by decide +kernel
theorem own_d11_1 : decode jdk_43_method_13_code 1 = .ok (.arraylength, 1) := by decide +kernel
theorem own_d11_2 : decode jdk_43_method_13_code 2 = .ok (.aload_n 1, 1) := by decide +kernel
theorem own_d11_3 : decode jdk_43_method_13_code 3 = .ok (.arraylength, 1) := by decide +kernel
theorem own_d11_4 : decode jdk_43_method_13_code 4 = .ok (.if_icmp .ne 30, 3) := by decide +kernel
theorem own_d11_7 : decode jdk_43_method_13_code 7 = .ok (.iconst 0, 1) := by decide +kernel
theorem own_d11_8 : decode jdk_43_method_13_code 8 = .ok (.istore_n 2, 1) := by decide +kernel
theorem own_d11_9 : decode jdk_43_method_13_code 9 = .ok (.iload_n 2, 1) := by decide +kernel
theorem own_d11_10 : decode jdk_43_method_13_code 10 = .ok (.aload_n 0, 1) := by decide +kernel
theorem own_d11_11 : decode jdk_43_method_13_code 11 = .ok (.arraylength, 1) := by decide +kernel
theorem own_d11_12 : decode jdk_43_method_13_code 12 = .ok (.if_icmp .ge 20, 3) := by decide +kernel
theorem own_d11_15 : decode jdk_43_method_13_code 15 = .ok (.aload_n 0, 1) := by decide +kernel
theorem own_d11_16 : decode jdk_43_method_13_code 16 = .ok (.iload_n 2, 1) := by decide +kernel
theorem own_d11_17 : decode jdk_43_method_13_code 17 = .ok (.baload, 1) := by decide +kernel
theorem own_d11_18 : decode jdk_43_method_13_code 18 = .ok (.aload_n 1, 1) := by decide +kernel
theorem own_d11_19 : decode jdk_43_method_13_code 19 = .ok (.iload_n 2, 1) := by decide +kernel
theorem own_d11_20 : decode jdk_43_method_13_code 20 = .ok (.baload, 1) := by decide +kernel
theorem own_d11_21 : decode jdk_43_method_13_code 21 = .ok (.if_icmp .eq 5, 3) := by decide +kernel
theorem own_d11_24 : decode jdk_43_method_13_code 24 = .ok (.iconst 0, 1) := by decide +kernel
theorem own_d11_25 : decode jdk_43_method_13_code 25 = .ok (.ireturn, 1) := by decide +kernel
theorem own_d11_26 : decode jdk_43_method_13_code 26 = .ok (.iinc 2 1, 3) := by decide +kernel
theorem own_d11_29 : decode jdk_43_method_13_code 29 = .ok (.goto (-20), 3) := by decide +kernel
theorem own_d11_32 : decode jdk_43_method_13_code 32 = .ok (.iconst 1, 1) := by decide +kernel
theorem own_d11_33 : decode jdk_43_method_13_code 33 = .ok (.ireturn, 1) := by decide +kernel
theorem own_d11_34 : decode jdk_43_method_13_code 34 = .ok (.iconst 0, 1) := by decide +kernel
theorem own_d11_35 : decode jdk_43_method_13_code 35 = .ok (.ireturn, 1) := by decide +kernel
set_option maxRecDepth 65536 in
set_option maxHeartbeats 40000000 in
theorem own_loop {p : Program} {l : Launch} {e : Env} {R : Room} {s : State} {m : MethodId} {args : Array Value} {below : List Frame} {meth : Method} {c : Code} {T0 : State} {locs : List Loc} {cells slots : Nat} {Z : State} {a0 : Array Value} {h0 : Heap} (X0 : Stand p l e R s m args below meth c T0 locs cells slots) (hx : p.tables.exec = Jvm.exec) (hZ : Z.Warmed39 s.vm) (hw : ∀ d ∈ tables_1, d.before a0 Z = true) (hby : c.code = jdk_43_method_13_code) (hml : c.maxLocals = 3) (hown : s.vm.findClass "java/lang/StringLatin1" = some m.cls) (e0 : T0.heap = h0) {a0_ a1 : Addr} {k0_ k1_ : ClassId} {z0 : Int32} {v0 v1 : List Value} (V0 : Arv Z h0 a0_ k0_ .byte z0 v0 (.int (0 : Int32))) (V1 : Arv Z h0 a1 k1_ .byte z0 v1 (.int (0 : Int32))) : ∀ (k : Nat) (i : Int32), 0 ≤ i.toInt → i.toInt + k = z0.toInt → (∀ j : Nat, j < i.toNatClampNeg → v0.getD j (.int (0 : Int32)) = v1.getD j (.int (0 : Int32))) → ∃ i', ((∀ j : Nat, j < z0.toNatClampNeg → v0.getD j (.int (0 : Int32)) = v1.getD j (.int (0 : Int32))) ∧ own_To p e below T0 (mkF m 32 #[.val (.ref a0_), .val (.ref a1), .val (.int i')] []) T0 (mkF m 9 #[.val (.ref a0_), .val (.ref a1), .val (.int i)] [])) ∨ (v0 ≠ v1 ∧ own_To p e below T0 (mkF m 24 #[.val (.ref a0_), .val (.ref a1), .val (.int i')] []) T0 (mkF m 9 #[.val (.ref a0_), .val (.ref a1), .val (.int i)] [])) := by
  intro k
  induction k with
  | zero =>
    intro i h1 h2 h3
    have hc : ¬ i < z0 := by rw [Int32.lt_iff_toInt_lt]; omega
    have ki : own_To p e below T0 (mkF m 9 #[.val (.ref a0_), .val (.ref a1), .val (.int i)] []) T0 (mkF m 9 #[.val (.ref a0_), .val (.ref a1), .val (.int i)] []) := fun t q => q
    obtain ⟨clr1, Arr1, qr1, Sr1, Mr1, Hhr1, Gr1⟩ := id V0
    have k2 : own_To p e below T0 (mkF m 32 #[.val (.ref a0_), .val (.ref a1), .val (.int i)] []) T0 (mkF m 9 #[.val (.ref a0_), .val (.ref a1), .val (.int i)] []) := fun t q => ki t (by
      refine XS.iloadN X0.here hx rfl (hb hby own_d11_9) rfl ?_
      show Steps p.tables e below (T0.setTop (mkF m 10 #[.val (.ref a0_), .val (.ref a1), .val (.int i)] [(.int i)])) _
      refine XS.aloadN X0.here hx rfl (hb hby own_d11_10) rfl rfl ?_
      show Steps p.tables e below (T0.setTop (mkF m 11 #[.val (.ref a0_), .val (.ref a1), .val (.int i)] [(.ref a0_), (.int i)])) _
      refine X0.arraylength hx (by rw [e0]; exact Arr1.1) (State.isArrayOf_alike hZ.alike Arr1.2.1) (g := (mkF m 11 #[.val (.ref a0_), .val (.ref a1), .val (.int i)] [(.ref a0_), (.int i)])) rfl rfl (hb hby own_d11_11) _ ?_
      rw [len_of Sr1 Mr1]
      show Steps p.tables e below (T0.setTop (mkF m 12 #[.val (.ref a0_), .val (.ref a1), .val (.int i)] [(.int z0), (.int i)])) _
      refine XS.icmpYes X0.here hx rfl (pc0 := 12) (pc' := 32) rfl (hb hby own_d11_12) rfl (flt hc).2.1 (by decide) (by decide) ?_
      show Steps p.tables e below (T0.setTop (mkF m 32 #[.val (.ref a0_), .val (.ref a1), .val (.int i)] [])) _
      exact q)
    refine ⟨i, Or.inl ⟨fun j hj => h3 j ?_, k2⟩⟩
    simp only [Int32.toNatClampNeg] at hj ⊢; omega
  | succ k ih =>
    intro i h1 h2 h3
    have hi0 : ¬ i < 0 := by rw [Int32.lt_iff_toInt_lt, show (0 : Int32).toInt = 0 from rfl]; omega
    have hi1 : i < z0 := by rw [Int32.lt_iff_toInt_lt]; omega
    have hi2 := own_inc i z0 h1 (by omega)
    obtain ⟨x, hx0⟩ : ∃ x, v0.getD i.toNatClampNeg (.int (0 : Int32)) = .int x := by
      obtain ⟨c0, A0, -, S0, -, -, G0⟩ := id V0
      exact own_byte (G0 _ (by rw [S0]; simp only [Int32.toNatClampNeg]; omega))
    obtain ⟨y, hx1⟩ : ∃ y, v1.getD i.toNatClampNeg (.int (0 : Int32)) = .int y := by
      obtain ⟨c0, A0, -, S0, -, -, G0⟩ := id V1
      exact own_byte (G0 _ (by rw [S0]; simp only [Int32.toNatClampNeg]; omega))
    by_cases hxy : x = y
    · obtain ⟨i', kI⟩ := ih (i + (1 : Int32)) (by omega) (by omega) (fun j hj => by
        by_cases hj2 : j < i.toNatClampNeg
        · exact h3 j hj2
        · have hj3 : j = i.toNatClampNeg := by simp only [Int32.toNatClampNeg] at hj hj2 ⊢; omega
          rw [hj3, hx0, hx1, hxy])
      have ki : own_To p e below T0 (mkF m 9 #[.val (.ref a0_), .val (.ref a1), .val (.int i)] []) T0 (mkF m 9 #[.val (.ref a0_), .val (.ref a1), .val (.int i)] []) := fun t q => q
      obtain ⟨clr1, Arr1, qr1, Sr1, Mr1, Hhr1, Gr1⟩ := id V0
      obtain ⟨clr2, Arr2, qr2, Sr2, Mr2, Hhr2, Gr2⟩ := id V0
      have hinr2 : ¬ (i < 0 ∨ clr2.slots.size ≤ (i).toNatClampNeg) := inb_of Sr2 ⟨hi0, hi1⟩
      have hatr2 : clr2.slots[(i).toNatClampNeg]? = some (.int x) := Has.at Hhr2 hinr2 hx0
      obtain ⟨clr3, Arr3, qr3, Sr3, Mr3, Hhr3, Gr3⟩ := id V1
      have hinr3 : ¬ (i < 0 ∨ clr3.slots.size ≤ (i).toNatClampNeg) := inb_of Sr3 ⟨hi0, hi1⟩
      have hatr3 : clr3.slots[(i).toNatClampNeg]? = some (.int y) := Has.at Hhr3 hinr3 hx1
      have k4 : own_To p e below T0 (mkF m 29 #[.val (.ref a0_), .val (.ref a1), .val (.int (i + (1 : Int32)))] []) T0 (mkF m 9 #[.val (.ref a0_), .val (.ref a1), .val (.int i)] []) := fun t q => ki t (by
        refine XS.iloadN X0.here hx rfl (hb hby own_d11_9) rfl ?_
        show Steps p.tables e below (T0.setTop (mkF m 10 #[.val (.ref a0_), .val (.ref a1), .val (.int i)] [(.int i)])) _
        refine XS.aloadN X0.here hx rfl (hb hby own_d11_10) rfl rfl ?_
        show Steps p.tables e below (T0.setTop (mkF m 11 #[.val (.ref a0_), .val (.ref a1), .val (.int i)] [(.ref a0_), (.int i)])) _
        refine X0.arraylength hx (by rw [e0]; exact Arr1.1) (State.isArrayOf_alike hZ.alike Arr1.2.1) (g := (mkF m 11 #[.val (.ref a0_), .val (.ref a1), .val (.int i)] [(.ref a0_), (.int i)])) rfl rfl (hb hby own_d11_11) _ ?_
        rw [len_of Sr1 Mr1]
        show Steps p.tables e below (T0.setTop (mkF m 12 #[.val (.ref a0_), .val (.ref a1), .val (.int i)] [(.int z0), (.int i)])) _
        refine XS.icmpNo X0.here hx rfl (hb hby own_d11_12) rfl (tlt hi1).2.1 ?_
        show Steps p.tables e below (T0.setTop (mkF m 15 #[.val (.ref a0_), .val (.ref a1), .val (.int i)] [])) _
        refine XS.aloadN X0.here hx rfl (hb hby own_d11_15) rfl rfl ?_
        show Steps p.tables e below (T0.setTop (mkF m 16 #[.val (.ref a0_), .val (.ref a1), .val (.int i)] [(.ref a0_)])) _
        refine XS.iloadN X0.here hx rfl (hb hby own_d11_16) rfl ?_
        show Steps p.tables e below (T0.setTop (mkF m 17 #[.val (.ref a0_), .val (.ref a1), .val (.int i)] [(.int i), (.ref a0_)])) _
        refine X0.baloadBytes hx (j := i) (v := (.int x)) (by rw [e0]; exact Arr2.1) (State.isArrayOf_alike hZ.alike Arr2.2.1) Arr2.2.2 hinr2 hatr2 (g := (mkF m 17 #[.val (.ref a0_), .val (.ref a1), .val (.int i)] [(.int i), (.ref a0_)])) rfl rfl (hb hby own_d11_17) _ ?_
        show Steps p.tables e below (T0.setTop (mkF m 18 #[.val (.ref a0_), .val (.ref a1), .val (.int i)] [(.int x)])) _
        refine XS.aloadN X0.here hx rfl (hb hby own_d11_18) rfl rfl ?_
        show Steps p.tables e below (T0.setTop (mkF m 19 #[.val (.ref a0_), .val (.ref a1), .val (.int i)] [(.ref a1), (.int x)])) _
        refine XS.iloadN X0.here hx rfl (hb hby own_d11_19) rfl ?_
        show Steps p.tables e below (T0.setTop (mkF m 20 #[.val (.ref a0_), .val (.ref a1), .val (.int i)] [(.int i), (.ref a1), (.int x)])) _
        refine X0.baloadBytes hx (j := i) (v := (.int y)) (by rw [e0]; exact Arr3.1) (State.isArrayOf_alike hZ.alike Arr3.2.1) Arr3.2.2 hinr3 hatr3 (g := (mkF m 20 #[.val (.ref a0_), .val (.ref a1), .val (.int i)] [(.int i), (.ref a1), (.int x)])) rfl rfl (hb hby own_d11_20) _ ?_
        show Steps p.tables e below (T0.setTop (mkF m 21 #[.val (.ref a0_), .val (.ref a1), .val (.int i)] [(.int y), (.int x)])) _
        refine XS.icmpYes X0.here hx rfl (pc0 := 21) (pc' := 26) rfl (hb hby own_d11_21) rfl (teq hxy).1 (by decide) (by decide) ?_
        show Steps p.tables e below (T0.setTop (mkF m 26 #[.val (.ref a0_), .val (.ref a1), .val (.int i)] [])) _
        refine XS.iinc X0.here hx rfl (hb hby own_d11_26) rfl (l' := #[.val (.ref a0_), .val (.ref a1), .val (.int (i + (1 : Int32)))]) rfl ?_
        show Steps p.tables e below (T0.setTop (mkF m 29 #[.val (.ref a0_), .val (.ref a1), .val (.int (i + (1 : Int32)))] [])) _
        exact q)
      have k5 : own_To p e below T0 (mkF m 9 #[.val (.ref a0_), .val (.ref a1), .val (.int (i + (1 : Int32)))] []) T0 (mkF m 9 #[.val (.ref a0_), .val (.ref a1), .val (.int i)] []) := fun t q => k4 t (by
        refine XS.goto X0.here hx rfl (pc0 := 29) (pc' := 9) rfl (hb hby own_d11_29) (by decide) (by decide) ?_
        show Steps p.tables e below (T0.setTop (mkF m 9 #[.val (.ref a0_), .val (.ref a1), .val (.int (i + (1 : Int32)))] [])) _
        exact q)
      exact ⟨i', kI.imp (fun q => ⟨q.1, fun t z => k5 t (q.2 t z)⟩) (fun q => ⟨q.1, fun t z => k5 t (q.2 t z)⟩)⟩
    ·
      have ki : own_To p e below T0 (mkF m 9 #[.val (.ref a0_), .val (.ref a1), .val (.int i)] []) T0 (mkF m 9 #[.val (.ref a0_), .val (.ref a1), .val (.int i)] []) := fun t q => q
      obtain ⟨clr1, Arr1, qr1, Sr1, Mr1, Hhr1, Gr1⟩ := id V0
      obtain ⟨clr2, Arr2, qr2, Sr2, Mr2, Hhr2, Gr2⟩ := id V0
      have hinr2 : ¬ (i < 0 ∨ clr2.slots.size ≤ (i).toNatClampNeg) := inb_of Sr2 ⟨hi0, hi1⟩
      have hatr2 : clr2.slots[(i).toNatClampNeg]? = some (.int x) := Has.at Hhr2 hinr2 hx0
      obtain ⟨clr3, Arr3, qr3, Sr3, Mr3, Hhr3, Gr3⟩ := id V1
      have hinr3 : ¬ (i < 0 ∨ clr3.slots.size ≤ (i).toNatClampNeg) := inb_of Sr3 ⟨hi0, hi1⟩
      have hatr3 : clr3.slots[(i).toNatClampNeg]? = some (.int y) := Has.at Hhr3 hinr3 hx1
      have k4 : own_To p e below T0 (mkF m 24 #[.val (.ref a0_), .val (.ref a1), .val (.int i)] []) T0 (mkF m 9 #[.val (.ref a0_), .val (.ref a1), .val (.int i)] []) := fun t q => ki t (by
        refine XS.iloadN X0.here hx rfl (hb hby own_d11_9) rfl ?_
        show Steps p.tables e below (T0.setTop (mkF m 10 #[.val (.ref a0_), .val (.ref a1), .val (.int i)] [(.int i)])) _
        refine XS.aloadN X0.here hx rfl (hb hby own_d11_10) rfl rfl ?_
        show Steps p.tables e below (T0.setTop (mkF m 11 #[.val (.ref a0_), .val (.ref a1), .val (.int i)] [(.ref a0_), (.int i)])) _
        refine X0.arraylength hx (by rw [e0]; exact Arr1.1) (State.isArrayOf_alike hZ.alike Arr1.2.1) (g := (mkF m 11 #[.val (.ref a0_), .val (.ref a1), .val (.int i)] [(.ref a0_), (.int i)])) rfl rfl (hb hby own_d11_11) _ ?_
        rw [len_of Sr1 Mr1]
        show Steps p.tables e below (T0.setTop (mkF m 12 #[.val (.ref a0_), .val (.ref a1), .val (.int i)] [(.int z0), (.int i)])) _
        refine XS.icmpNo X0.here hx rfl (hb hby own_d11_12) rfl (tlt hi1).2.1 ?_
        show Steps p.tables e below (T0.setTop (mkF m 15 #[.val (.ref a0_), .val (.ref a1), .val (.int i)] [])) _
        refine XS.aloadN X0.here hx rfl (hb hby own_d11_15) rfl rfl ?_
        show Steps p.tables e below (T0.setTop (mkF m 16 #[.val (.ref a0_), .val (.ref a1), .val (.int i)] [(.ref a0_)])) _
        refine XS.iloadN X0.here hx rfl (hb hby own_d11_16) rfl ?_
        show Steps p.tables e below (T0.setTop (mkF m 17 #[.val (.ref a0_), .val (.ref a1), .val (.int i)] [(.int i), (.ref a0_)])) _
        refine X0.baloadBytes hx (j := i) (v := (.int x)) (by rw [e0]; exact Arr2.1) (State.isArrayOf_alike hZ.alike Arr2.2.1) Arr2.2.2 hinr2 hatr2 (g := (mkF m 17 #[.val (.ref a0_), .val (.ref a1), .val (.int i)] [(.int i), (.ref a0_)])) rfl rfl (hb hby own_d11_17) _ ?_
        show Steps p.tables e below (T0.setTop (mkF m 18 #[.val (.ref a0_), .val (.ref a1), .val (.int i)] [(.int x)])) _
        refine XS.aloadN X0.here hx rfl (hb hby own_d11_18) rfl rfl ?_
        show Steps p.tables e below (T0.setTop (mkF m 19 #[.val (.ref a0_), .val (.ref a1), .val (.int i)] [(.ref a1), (.int x)])) _
        refine XS.iloadN X0.here hx rfl (hb hby own_d11_19) rfl ?_
        show Steps p.tables e below (T0.setTop (mkF m 20 #[.val (.ref a0_), .val (.ref a1), .val (.int i)] [(.int i), (.ref a1), (.int x)])) _
        refine X0.baloadBytes hx (j := i) (v := (.int y)) (by rw [e0]; exact Arr3.1) (State.isArrayOf_alike hZ.alike Arr3.2.1) Arr3.2.2 hinr3 hatr3 (g := (mkF m 20 #[.val (.ref a0_), .val (.ref a1), .val (.int i)] [(.int i), (.ref a1), (.int x)])) rfl rfl (hb hby own_d11_20) _ ?_
        show Steps p.tables e below (T0.setTop (mkF m 21 #[.val (.ref a0_), .val (.ref a1), .val (.int i)] [(.int y), (.int x)])) _
        refine XS.icmpNo X0.here hx rfl (hb hby own_d11_21) rfl (feq hxy).1 ?_
        show Steps p.tables e below (T0.setTop (mkF m 24 #[.val (.ref a0_), .val (.ref a1), .val (.int i)] [])) _
        exact q)
      exact ⟨i, Or.inr ⟨fun q => hxy (by rw [q, hx1] at hx0; exact (Value.int.inj hx0).symm), k4⟩⟩
theorem own_pn11 : plainName "java/lang/StringLatin1" = true := by first | (simp [plainName, overriddenIn]; done) | decide +kernel
theorem own_ef11 (m : MethodId) (x0 : Addr) (x1 : Addr) : entryFrame m #[(.ref x0), (.ref x1)] 3 = mkF m 0 #[.val (.ref x0), .val (.ref x1), .unset] [] := by first | (simp [entryFrame, mkF, argsToLocals, Value.category]; done) | rfl
def Q11 (Z : State) (a0_ : Addr) (a1 : Addr) (k0_ : ClassId) (z0 : Int32) (v0 : List Value) (k1_ : ClassId) (z1 : Int32) (v1 : List Value) (h0 : Heap) (n0 : Nat) (v : Option Value) (h : Heap) (L : List Loc) : Prop := v = some (.int (own_seq z0 z1 v0 v1)) ∧ Fr n0 L ∧ h = h0
set_option maxRecDepth 65536 in
set_option maxHeartbeats 40000000 in
theorem rm11 (l : Launch) (Z : State) (a0 : Array Value) (hw : ∀ d ∈ tables_1, d.before a0 Z = true) (ws : List Jvm.Cond) (a0_ : Addr) (a1 : Addr) (k0_ : ClassId) (z0 : Int32) (v0 : List Value) (k1_ : ClassId) (z1 : Int32) (v1 : List Value) (h0 : Heap) (n0 : Nat) (Z0 : n0 ≤ h0.size) (V0 : Arv Z h0 a0_ k0_ .byte z0 v0 (.int (0 : Int32))) (V1 : Arv Z h0 a1 k1_ .byte z1 v1 (.int (0 : Int32))) (hl0 : v0.length = z0.toNatClampNeg) (hl1 : v1.length = z1.toNatClampNeg) :
    MetFree l (⟨"java/lang/StringLatin1", "equals", "([B[B)Z"⟩ : MethodName) (head1 (Jvm.Cond.code (⟨"java/lang/StringLatin1", "equals", "([B[B)Z"⟩ : MethodName) jdk_43_method_13_code 3 (some .boolean) :: ws) ({ frames := 0, cells := 0, slots := 0, locals := 0 } : Room)) (fun a U => a = #[(.ref a0_), (.ref a1)] ∧ Z.Warmed39 U.vm ∧ U.heap = h0) (fun _ _ _ _ _ => True) (fun _ U o U' => ∃ v L, o = .returned v ∧ Q11 Z a0_ a1 k0_ z0 v0 k1_ z1 v1 h0 n0 v U'.heap L ∧ FrameEnd U o U' L ({ frames := 0, cells := 0, slots := 0, locals := 0 } : Room).cells ({ frames := 0, cells := 0, slots := 0, locals := 0 } : Room).slots) := by
  refine MetFree.of_bodySF (plainFor_of_name own_pn11) hisR ?_
  intro p e s m args below meth c s₁ Bd hml0 hP hK
  obtain ⟨rfl, hZ, hh⟩ := hP
  have hx := Bd.exec
  have hby := Bd.bytes
  have hml : c.maxLocals = 3 := hml0
  have hown : s.vm.findClass "java/lang/StringLatin1" = some m.cls := findClass_of_methodNamed Bd.named
  have hnm := (name_of_methodNamed Bd.named Bd.method).1
  have X0 : Stand p l e ({ frames := 0, cells := 0, slots := 0, locals := 0 } : Room) s m #[(.ref a0_), (.ref a1)] below meth c s₁ [] 0 0 := Stand.of_body Bd
  have e0 : s₁.heap = h0 := by rw [← hh, Bd.state]; rfl
  have N0 := Fr.nil n0
  have k0 : own_To p e below s₁ (mkF m 0 #[.val (.ref a0_), .val (.ref a1), .unset] []) s₁ (entryFrame m #[(.ref a0_), (.ref a1)] 3) := fun t k => castTop (own_ef11 m a0_ a1) k
  have ki : own_To p e below s₁ (mkF m 0 #[.val (.ref a0_), .val (.ref a1), .unset] []) s₁ (mkF m 0 #[.val (.ref a0_), .val (.ref a1), .unset] []) := fun t q => q
  obtain ⟨clr1, Arr1, qr1, Sr1, Mr1, Hhr1, Gr1⟩ := id V0
  obtain ⟨clr2, Arr2, qr2, Sr2, Mr2, Hhr2, Gr2⟩ := id V1
  have k3 : own_To p e below s₁ (mkF m 4 #[.val (.ref a0_), .val (.ref a1), .unset] [(.int z1), (.int z0)]) s₁ (mkF m 0 #[.val (.ref a0_), .val (.ref a1), .unset] []) := fun t q => ki t (by
    refine XS.aloadN X0.here hx rfl (hb hby own_d11_0) rfl rfl ?_
    show Steps p.tables e below (s₁.setTop (mkF m 1 #[.val (.ref a0_), .val (.ref a1), .unset] [(.ref a0_)])) _
    refine X0.arraylength hx (by rw [e0]; exact Arr1.1) (State.isArrayOf_alike hZ.alike Arr1.2.1) (g := (mkF m 1 #[.val (.ref a0_), .val (.ref a1), .unset] [(.ref a0_)])) rfl rfl (hb hby own_d11_1) _ ?_
    rw [len_of Sr1 Mr1]
    show Steps p.tables e below (s₁.setTop (mkF m 2 #[.val (.ref a0_), .val (.ref a1), .unset] [(.int z0)])) _
    refine XS.aloadN X0.here hx rfl (hb hby own_d11_2) rfl rfl ?_
    show Steps p.tables e below (s₁.setTop (mkF m 3 #[.val (.ref a0_), .val (.ref a1), .unset] [(.ref a1), (.int z0)])) _
    refine X0.arraylength hx (by rw [e0]; exact Arr2.1) (State.isArrayOf_alike hZ.alike Arr2.2.1) (g := (mkF m 3 #[.val (.ref a0_), .val (.ref a1), .unset] [(.ref a1), (.int z0)])) rfl rfl (hb hby own_d11_3) _ ?_
    rw [len_of Sr2 Mr2]
    show Steps p.tables e below (s₁.setTop (mkF m 4 #[.val (.ref a0_), .val (.ref a1), .unset] [(.int z1), (.int z0)])) _
    exact q)
  by_cases hc4 : z0 = z1
  ·
    have V1z : Arv Z h0 a1 k1_ .byte z0 v1 (.int (0 : Int32)) := by rw [hc4]; exact V1
    have k5 : own_To p e below s₁ (mkF m 9 #[.val (.ref a0_), .val (.ref a1), .val (.int (0 : Int32))] []) s₁ (mkF m 0 #[.val (.ref a0_), .val (.ref a1), .unset] []) := fun t q => k3 t (by
      refine XS.icmpNo X0.here hx rfl (hb hby own_d11_4) rfl (teq hc4).2 ?_
      show Steps p.tables e below (s₁.setTop (mkF m 7 #[.val (.ref a0_), .val (.ref a1), .unset] [])) _
      refine XS.iconst X0.here hx rfl (hb hby own_d11_7) ?_
      show Steps p.tables e below (s₁.setTop (mkF m 8 #[.val (.ref a0_), .val (.ref a1), .unset] [(.int (0 : Int32))])) _
      refine XS.istoreN X0.here hx rfl (hb hby own_d11_8) rfl (l' := #[.val (.ref a0_), .val (.ref a1), .val (.int (0 : Int32))]) rfl ?_
      show Steps p.tables e below (s₁.setTop (mkF m 9 #[.val (.ref a0_), .val (.ref a1), .val (.int (0 : Int32))] [])) _
      exact q)
    obtain ⟨c0, -, -, S0, M0, -, -⟩ := id V0
    have hz0 : 0 ≤ z0.toInt := by rw [Int32.lt_iff_toInt_lt, show (0 : Int32).toInt = 0 from rfl] at M0; omega
    obtain ⟨i', kL⟩ := own_loop (h0 := h0) X0 hx hZ hw hby hml hown e0 V0 V1z z0.toInt.toNat (0 : Int32) (by decide) (by rw [show (0 : Int32).toInt = 0 from rfl]; omega) (fun j hj => absurd hj (Nat.not_lt_zero j))
    rcases kL with ⟨hal, kL⟩ | ⟨hal, kL⟩
    ·
      have kM : own_To p e below s₁ (mkF m 32 #[.val (.ref a0_), .val (.ref a1), .val (.int i')] []) s₁ (mkF m 0 #[.val (.ref a0_), .val (.ref a1), .unset] []) := fun t q => k5 t (kL t q)
      have k6 : own_To p e below s₁ (mkF m 33 #[.val (.ref a0_), .val (.ref a1), .val (.int i')] [(.int (1 : Int32))]) s₁ (mkF m 0 #[.val (.ref a0_), .val (.ref a1), .unset] []) := fun t q => kM t (by
        refine XS.iconst X0.here hx rfl (hb hby own_d11_32) ?_
        show Steps p.tables e below (s₁.setTop (mkF m 33 #[.val (.ref a0_), .val (.ref a1), .val (.int i')] [(.int (1 : Int32))])) _
        exact q)
      obtain ⟨fs, hr, hrun, hended, hW, hsame⟩ := X0.leave (v := some (.int (1 : Int32))) (fun h => by rw [Bd.returns] at h; cases h)
      refine ⟨_, _, k0 _ (k6 _ ?_), hrun, hended, _, _, rfl, ?_, ⟨_, rfl⟩, hW, hsame.mono (by decide) (by decide)⟩
      · show Steps p.tables e below (s₁.setTop (mkF m 33 #[.val (.ref a0_), .val (.ref a1), .val (.int i')] [(.int (1 : Int32))])) _
        exact retN X0 hx (t := .boolean) Bd.returns (by simp) (hb hby own_d11_33) hr
      · show Q11 Z a0_ a1 k0_ z0 v0 k1_ z1 v1 h0 n0 _ s₁.heap _
        rw [e0]
        exact ⟨by rw [own_seq, if_pos ⟨hc4, own_leq hl0 (by rw [hl1, ← hc4]) hal⟩], N0, rfl⟩
    ·
      have kM : own_To p e below s₁ (mkF m 24 #[.val (.ref a0_), .val (.ref a1), .val (.int i')] []) s₁ (mkF m 0 #[.val (.ref a0_), .val (.ref a1), .unset] []) := fun t q => k5 t (kL t q)
      have k7 : own_To p e below s₁ (mkF m 25 #[.val (.ref a0_), .val (.ref a1), .val (.int i')] [(.int (0 : Int32))]) s₁ (mkF m 0 #[.val (.ref a0_), .val (.ref a1), .unset] []) := fun t q => kM t (by
        refine XS.iconst X0.here hx rfl (hb hby own_d11_24) ?_
        show Steps p.tables e below (s₁.setTop (mkF m 25 #[.val (.ref a0_), .val (.ref a1), .val (.int i')] [(.int (0 : Int32))])) _
        exact q)
      obtain ⟨fs, hr, hrun, hended, hW, hsame⟩ := X0.leave (v := some (.int (0 : Int32))) (fun h => by rw [Bd.returns] at h; cases h)
      refine ⟨_, _, k0 _ (k7 _ ?_), hrun, hended, _, _, rfl, ?_, ⟨_, rfl⟩, hW, hsame.mono (by decide) (by decide)⟩
      · show Steps p.tables e below (s₁.setTop (mkF m 25 #[.val (.ref a0_), .val (.ref a1), .val (.int i')] [(.int (0 : Int32))])) _
        exact retN X0 hx (t := .boolean) Bd.returns (by simp) (hb hby own_d11_25) hr
      · show Q11 Z a0_ a1 k0_ z0 v0 k1_ z1 v1 h0 n0 _ s₁.heap _
        rw [e0]
        exact ⟨by rw [own_seq, if_neg (fun q => hal q.2)], N0, rfl⟩
  ·
    have k8 : own_To p e below s₁ (mkF m 35 #[.val (.ref a0_), .val (.ref a1), .unset] [(.int (0 : Int32))]) s₁ (mkF m 0 #[.val (.ref a0_), .val (.ref a1), .unset] []) := fun t q => k3 t (by
      refine XS.icmpYes X0.here hx rfl (pc0 := 4) (pc' := 34) rfl (hb hby own_d11_4) rfl (feq hc4).2 (by decide) (by decide) ?_
      show Steps p.tables e below (s₁.setTop (mkF m 34 #[.val (.ref a0_), .val (.ref a1), .unset] [])) _
      refine XS.iconst X0.here hx rfl (hb hby own_d11_34) ?_
      show Steps p.tables e below (s₁.setTop (mkF m 35 #[.val (.ref a0_), .val (.ref a1), .unset] [(.int (0 : Int32))])) _
      exact q)
    obtain ⟨fs, hr, hrun, hended, hW, hsame⟩ := X0.leave (v := some (.int (0 : Int32))) (fun h => by rw [Bd.returns] at h; cases h)
    refine ⟨_, _, k0 _ (k8 _ ?_), hrun, hended, _, _, rfl, ?_, ⟨_, rfl⟩, hW, hsame.mono (by decide) (by decide)⟩
    · show Steps p.tables e below (s₁.setTop (mkF m 35 #[.val (.ref a0_), .val (.ref a1), .unset] [(.int (0 : Int32))])) _
      exact retN X0 hx (t := .boolean) Bd.returns (by simp) (hb hby own_d11_35) hr
    · show Q11 Z a0_ a1 k0_ z0 v0 k1_ z1 v1 h0 n0 _ s₁.heap _
      rw [e0]
      exact ⟨by rw [own_seq, if_neg (fun q => hc4 q.1)], N0, rfl⟩
theorem own_suniq {Z : State} {h : Heap} {a b b' : Addr} {k k' : ClassId} {z z' : Int32} {v v' : List Value} {d : Value} (F : Fld Z h a "java/lang/String" "value" "[B" (.ref b)) (G : Fld Z h a "java/lang/String" "value" "[B" (.ref b')) (V : Arv Z h b k .byte z v d) (W : Arv Z h b' k' .byte z' v' d) (hl : v.length = z.toNatClampNeg) (hl' : v'.length = z'.toNatClampNeg) : z = z' ∧ v = v' := by
  by_cases q : b = b'
  · subst q
    obtain ⟨c, A, -, S, M, H, -⟩ := V
    obtain ⟨c', A', -, S', M', H', -⟩ := W
    cases A.1.symm.trans A'.1
    have hz : z = z' := by
      rw [Int32.lt_iff_toInt_lt, show (0 : Int32).toInt = 0 from rfl] at M M'
      apply Int32.toInt_inj.mp
      rw [S] at S'
      simp only [Int32.toNatClampNeg] at S'; omega
    refine ⟨hz, own_leq (d := d) hl (by rw [hl', hz]) fun j hj => ?_⟩
    have h1 := H j (by omega)
    have h2 := H' j (by omega)
    exact Option.some.inj (h1.symm.trans h2)
  · exact absurd rfl (F.ne G (fun w => q (Value.ref.inj w)))
theorem own_sq1 {z0 z1 : Int32} {v0 v1 : List Value} (h : ¬ own_seq z0 z1 v0 v1 = 0) : own_seq z0 z1 v0 v1 = 1 := by
  unfold own_seq at *
  by_cases q : z0 = z1 ∧ v0 = v1
  · rw [if_pos q]
  · exact absurd (if_neg q) h
theorem own_pd8 : parseMethodDescriptor "([B[B)Z" = some ⟨[(.array .byte), (.array .byte)], some .boolean⟩ := by decide +kernel
theorem own_d10_0 : decode jdk_42_method_66_code 0 = .ok (.aload_n 0, 1) := by decide +kernel
theorem own_d10_1 : decode jdk_42_method_66_code 1 = .ok (.aload_n 1, 1) := by decide +kernel
theorem own_d10_2 : decode jdk_42_method_66_code 2 = .ok (.if_acmp .ne 5, 3) := by decide +kernel
theorem own_d10_5 : decode jdk_42_method_66_code 5 = .ok (.iconst 1, 1) := by decide +kernel
theorem own_d10_6 : decode jdk_42_method_66_code 6 = .ok (.ireturn, 1) := by decide +kernel
theorem own_d10_7 : decode jdk_42_method_66_code 7 = .ok (.aload_n 1, 1) := by decide +kernel
theorem own_d10_8 : decode jdk_42_method_66_code 8 = .ok (.instanceof 10, 3) := by decide +kernel
theorem own_d10_11 : decode jdk_42_method_66_code 11 = .ok (.ifCond .eq 43, 3) := by decide +kernel
theorem own_d10_14 : decode jdk_42_method_66_code 14 = .ok (.aload_n 1, 1) := by decide +kernel
theorem own_d10_15 : decode jdk_42_method_66_code 15 = .ok (.checkcast 10, 3) := by decide +kernel
theorem own_d10_18 : decode jdk_42_method_66_code 18 = .ok (.astore_n 2, 1) := by decide +kernel
theorem own_d10_19 : decode jdk_42_method_66_code 19 = .ok (.getstatic 38, 3) := by decide +kernel
theorem own_d10_22 : decode jdk_42_method_66_code 22 = .ok (.ifCond .eq 14, 3) := by decide +kernel
theorem own_d10_25 : decode jdk_42_method_66_code 25 = .ok (.aload_n 0, 1) := by decide +kernel
theorem own_d10_26 : decode jdk_42_method_66_code 26 = .ok (.getfield 15, 3) := by decide +kernel
theorem own_d10_29 : decode jdk_42_method_66_code 29 = .ok (.aload_n 2, 1) := by decide +kernel
theorem own_d10_30 : decode jdk_42_method_66_code 30 = .ok (.getfield 15, 3) := by decide +kernel
theorem own_d10_33 : decode jdk_42_method_66_code 33 = .ok (.if_icmp .ne 21, 3) := by decide +kernel
theorem own_d10_36 : decode jdk_42_method_66_code 36 = .ok (.aload_n 0, 1) := by decide +kernel
theorem own_d10_37 : decode jdk_42_method_66_code 37 = .ok (.getfield 9, 3) := by decide +kernel
theorem own_d10_40 : decode jdk_42_method_66_code 40 = .ok (.aload_n 2, 1) := by decide +kernel
theorem own_d10_41 : decode jdk_42_method_66_code 41 = .ok (.getfield 9, 3) := by decide +kernel
theorem own_d10_44 : decode jdk_42_method_66_code 44 = .ok (.invokestatic 541, 3) := by decide +kernel
theorem own_d10_47 : decode jdk_42_method_66_code 47 = .ok (.ifCond .eq 7, 3) := by decide +kernel
theorem own_d10_50 : decode jdk_42_method_66_code 50 = .ok (.iconst 1, 1) := by decide +kernel
theorem own_d10_51 : decode jdk_42_method_66_code 51 = .ok (.goto 4, 3) := by decide +kernel
theorem own_d10_54 : decode jdk_42_method_66_code 54 = .ok (.iconst 0, 1) := by decide +kernel
theorem own_d10_55 : decode jdk_42_method_66_code 55 = .ok (.ireturn, 1) := by decide +kernel
theorem own_pn10 : plainName "java/lang/String" = true := by first | (simp [plainName, overriddenIn]; done) | decide +kernel
theorem own_ef10 (m : MethodId) (x0 : Addr) (x1 : Addr) : entryFrame m #[(.ref x0), (.ref x1)] 3 = mkF m 0 #[.val (.ref x0), .val (.ref x1), .unset] [] := by first | (simp [entryFrame, mkF, argsToLocals, Value.category]; done) | rfl
def Q10 (Z : State) (a0_ : Addr) (a1 : Addr) (cs : Int32) (b0_ : Addr) (k0_ : ClassId) (z0 : Int32) (v0 : List Value) (b1_ : Addr) (k1_ : ClassId) (z1 : Int32) (v1 : List Value) (h0 : Heap) (n0 : Nat) (v : Option Value) (h : Heap) (L : List Loc) : Prop := v = some (.int (own_seq z0 z1 v0 v1)) ∧ Fr n0 L ∧ h = h0
set_option maxRecDepth 65536 in
set_option maxHeartbeats 40000000 in
theorem rm10 (l : Launch) (Z : State) (a0 : Array Value) (hw : ∀ d ∈ tables_1, d.before a0 Z = true) (ws : List Jvm.Cond) (a0_ : Addr) (a1 : Addr) (cs : Int32) (b0_ : Addr) (k0_ : ClassId) (z0 : Int32) (v0 : List Value) (b1_ : Addr) (k1_ : ClassId) (z1 : Int32) (v1 : List Value) (h0 : Heap) (n0 : Nat) (Z0 : n0 ≤ h0.size) (E0 : Exa Z h0 a0_ "java/lang/String") (Fc0 : Fld Z h0 a0_ "java/lang/String" "coder" "B" (.int (0 : Int32))) (Fv0 : Fld Z h0 a0_ "java/lang/String" "value" "[B" (.ref b0_)) (V0 : Arv Z h0 b0_ k0_ .byte z0 v0 (.int (0 : Int32))) (hl0 : v0.length = z0.toNatClampNeg) (E1 : Exa Z h0 a1 "java/lang/String") (Fc1 : Fld Z h0 a1 "java/lang/String" "coder" "B" (.int (0 : Int32))) (Fv1 : Fld Z h0 a1 "java/lang/String" "value" "[B" (.ref b1_)) (V1 : Arv Z h0 b1_ k1_ .byte z1 v1 (.int (0 : Int32))) (hl1 : v1.length = z1.toNatClampNeg) (SC : Sta Z Z.heap "java/lang/String" "COMPACT_STRINGS" "Z" (.int cs)) (hcs : ¬ cs = (0 : Int32)) (O0 : Old Z n0 h0) :
    MetFree l (⟨"java/lang/String", "equals", "(Ljava/lang/Object;)Z"⟩ : MethodName) (head1 (Jvm.Cond.code (⟨"java/lang/String", "equals", "(Ljava/lang/Object;)Z"⟩ : MethodName) jdk_42_method_66_code 3 (some .boolean) :: ws) ({ frames := 1, cells := 0, slots := 0, locals := 14 } : Room)) (fun a U => a = #[(.ref a0_), (.ref a1)] ∧ Z.Warmed39 U.vm ∧ U.heap = h0) (fun _ _ _ _ _ => True) (fun _ U o U' => ∃ v L, o = .returned v ∧ Q10 Z a0_ a1 cs b0_ k0_ z0 v0 b1_ k1_ z1 v1 h0 n0 v U'.heap L ∧ FrameEnd U o U' L ({ frames := 1, cells := 0, slots := 0, locals := 14 } : Room).cells ({ frames := 1, cells := 0, slots := 0, locals := 14 } : Room).slots) := by
  refine MetFree.of_bodySF (plainFor_of_name own_pn10) hisR ?_
  intro p e s m args below meth c s₁ Bd hml0 hP hK
  obtain ⟨rfl, hZ, hh⟩ := hP
  have hx := Bd.exec
  have hby := Bd.bytes
  have hml : c.maxLocals = 3 := hml0
  have hown : s.vm.findClass "java/lang/String" = some m.cls := findClass_of_methodNamed Bd.named
  have hnm := (name_of_methodNamed Bd.named Bd.method).1
  have X0 : Stand p l e ({ frames := 1, cells := 0, slots := 0, locals := 14 } : Room) s m #[(.ref a0_), (.ref a1)] below meth c s₁ [] 0 0 := Stand.of_body Bd
  have e0 : s₁.heap = h0 := by rw [← hh, Bd.state]; rfl
  have N0 := Fr.nil n0
  have k0 : own_To p e below s₁ (mkF m 0 #[.val (.ref a0_), .val (.ref a1), .unset] []) s₁ (entryFrame m #[(.ref a0_), (.ref a1)] 3) := fun t k => castTop (own_ef10 m a0_ a1) k
  have ki : own_To p e below s₁ (mkF m 0 #[.val (.ref a0_), .val (.ref a1), .unset] []) s₁ (mkF m 0 #[.val (.ref a0_), .val (.ref a1), .unset] []) := fun t q => q
  have k1 : own_To p e below s₁ (mkF m 2 #[.val (.ref a0_), .val (.ref a1), .unset] [(.ref a1), (.ref a0_)]) s₁ (mkF m 0 #[.val (.ref a0_), .val (.ref a1), .unset] []) := fun t q => ki t (by
    refine XS.aloadN X0.here hx rfl (hb hby own_d10_0) rfl rfl ?_
    show Steps p.tables e below (s₁.setTop (mkF m 1 #[.val (.ref a0_), .val (.ref a1), .unset] [(.ref a0_)])) _
    refine XS.aloadN X0.here hx rfl (hb hby own_d10_1) rfl rfl ?_
    show Steps p.tables e below (s₁.setTop (mkF m 2 #[.val (.ref a0_), .val (.ref a1), .unset] [(.ref a1), (.ref a0_)])) _
    exact q)
  by_cases hc2 : a0_ = a1
  ·
    have k3 : own_To p e below s₁ (mkF m 6 #[.val (.ref a0_), .val (.ref a1), .unset] [(.int (1 : Int32))]) s₁ (mkF m 0 #[.val (.ref a0_), .val (.ref a1), .unset] []) := fun t q => k1 t (by
      refine Jvm.RoadKit.acmp (g := (mkF m 2 #[.val (.ref a0_), .val (.ref a1), .unset] [(.ref a1), (.ref a0_)])) X0 hx rfl rfl rfl (pc0 := 2) (pc' := 5) (same := true) rfl (hb hby own_d10_2) rfl (decide_eq_true (congrArg Value.ref hc2)) (by decide) (by decide) ?_
      show Steps p.tables e below (s₁.setTop (mkF m 5 #[.val (.ref a0_), .val (.ref a1), .unset] [])) _
      refine XS.iconst X0.here hx rfl (hb hby own_d10_5) ?_
      show Steps p.tables e below (s₁.setTop (mkF m 6 #[.val (.ref a0_), .val (.ref a1), .unset] [(.int (1 : Int32))])) _
      exact q)
    obtain ⟨fs, hr, hrun, hended, hW, hsame⟩ := X0.leave (v := some (.int (1 : Int32))) (fun h => by rw [Bd.returns] at h; cases h)
    refine ⟨_, _, k0 _ (k3 _ ?_), hrun, hended, _, _, rfl, ?_, ⟨_, rfl⟩, hW, hsame.mono (by decide) (by decide)⟩
    · show Steps p.tables e below (s₁.setTop (mkF m 6 #[.val (.ref a0_), .val (.ref a1), .unset] [(.int (1 : Int32))])) _
      exact retN X0 hx (t := .boolean) Bd.returns (by simp) (hb hby own_d10_6) hr
    · show Q10 Z a0_ a1 cs b0_ k0_ z0 v0 b1_ k1_ z1 v1 h0 n0 _ s₁.heap _
      rw [e0]
      exact ⟨by rw [own_seq, if_pos (own_suniq Fv0 (by rw [hc2]; exact Fv1) V0 V1 hl0 hl1)], N0, rfl⟩
  ·
    obtain ⟨T4, X4, e4, st4⟩ := instY X0 hx hZ hown (hw _ (List.mem_of_getElem? (i := 72) rfl)) e0 (Ins.self E1) (g := (mkF m 8 #[.val (.ref a0_), .val (.ref a1), .unset] [(.ref a1)])) rfl rfl (hb hby own_d10_8)
    obtain ⟨T5, X5, e5, st5⟩ := castY X4 hx hZ hown (hw _ (List.mem_of_getElem? (i := 72) rfl)) e4 (Ins.self E1) (g := (mkF m 15 #[.val (.ref a0_), .val (.ref a1), .unset] [(.ref a1)])) rfl rfl (hb hby own_d10_15)
    obtain ⟨T6, X6, e6, st6⟩ := getS2 X5 hx hZ hown (host := "") (Or.inl (hw _ (List.mem_of_getElem? (i := 73) rfl))) Via.refl e5 (SC.ext O0.2) (g := (mkF m 19 #[.val (.ref a0_), .val (.ref a1), .val (.ref a1)] [])) rfl (hb hby own_d10_19)
    obtain ⟨T7, X7, e7, st7⟩ := getF X6 hx hZ hown (host := "") (Or.inl (hw _ (List.mem_of_getElem? (i := 29) rfl))) Via.refl e6 Fc0 (g := (mkF m 26 #[.val (.ref a0_), .val (.ref a1), .val (.ref a1)] [(.ref a0_)])) rfl rfl (hb hby own_d10_26)
    have k8 : own_To p e below T7 (mkF m 30 #[.val (.ref a0_), .val (.ref a1), .val (.ref a1)] [(.ref a1), (.int (0 : Int32))]) s₁ (mkF m 0 #[.val (.ref a0_), .val (.ref a1), .unset] []) := fun t q => k1 t (by
      refine Jvm.RoadKit.acmp (g := (mkF m 2 #[.val (.ref a0_), .val (.ref a1), .unset] [(.ref a1), (.ref a0_)])) X0 hx rfl rfl rfl (pc0 := 2) (pc' := 7) (same := false) rfl (hb hby own_d10_2) rfl (decide_eq_false fun q => hc2 (Value.ref.inj q)) (by decide) (by decide) ?_
      show Steps p.tables e below (s₁.setTop (mkF m 7 #[.val (.ref a0_), .val (.ref a1), .unset] [])) _
      refine XS.aloadN X0.here hx rfl (hb hby own_d10_7) rfl rfl ?_
      show Steps p.tables e below (s₁.setTop (mkF m 8 #[.val (.ref a0_), .val (.ref a1), .unset] [(.ref a1)])) _
      refine st4 _ ?_
      show Steps p.tables e below (T4.setTop (mkF m 11 #[.val (.ref a0_), .val (.ref a1), .unset] [(.int (1 : Int32))])) _
      refine XS.ifNo X4.here hx rfl (hb hby own_d10_11) rfl ((if0 _ _).trans (feq (by decide)).1) ?_
      show Steps p.tables e below (T4.setTop (mkF m 14 #[.val (.ref a0_), .val (.ref a1), .unset] [])) _
      refine XS.aloadN X4.here hx rfl (hb hby own_d10_14) rfl rfl ?_
      show Steps p.tables e below (T4.setTop (mkF m 15 #[.val (.ref a0_), .val (.ref a1), .unset] [(.ref a1)])) _
      refine st5 _ ?_
      show Steps p.tables e below (T5.setTop (mkF m 18 #[.val (.ref a0_), .val (.ref a1), .unset] [(.ref a1)])) _
      refine XS.astoreN X5.here hx rfl (hb hby own_d10_18) rfl rfl (l' := #[.val (.ref a0_), .val (.ref a1), .val (.ref a1)]) rfl ?_
      show Steps p.tables e below (T5.setTop (mkF m 19 #[.val (.ref a0_), .val (.ref a1), .val (.ref a1)] [])) _
      refine st6 _ ?_
      show Steps p.tables e below (T6.setTop (mkF m 22 #[.val (.ref a0_), .val (.ref a1), .val (.ref a1)] [(.int cs)])) _
      refine XS.ifNo X6.here hx rfl (hb hby own_d10_22) rfl ((if0 _ _).trans (feq hcs).1) ?_
      show Steps p.tables e below (T6.setTop (mkF m 25 #[.val (.ref a0_), .val (.ref a1), .val (.ref a1)] [])) _
      refine XS.aloadN X6.here hx rfl (hb hby own_d10_25) rfl rfl ?_
      show Steps p.tables e below (T6.setTop (mkF m 26 #[.val (.ref a0_), .val (.ref a1), .val (.ref a1)] [(.ref a0_)])) _
      refine st7 _ ?_
      show Steps p.tables e below (T7.setTop (mkF m 29 #[.val (.ref a0_), .val (.ref a1), .val (.ref a1)] [(.int (0 : Int32))])) _
      refine XS.aloadN X7.here hx rfl (hb hby own_d10_29) rfl rfl ?_
      show Steps p.tables e below (T7.setTop (mkF m 30 #[.val (.ref a0_), .val (.ref a1), .val (.ref a1)] [(.ref a1), (.int (0 : Int32))])) _
      exact q)
    obtain ⟨T9, X9, e9, st9⟩ := getF X7 hx hZ hown (host := "") (Or.inl (hw _ (List.mem_of_getElem? (i := 29) rfl))) Via.refl e7 Fc1 (g := (mkF m 30 #[.val (.ref a0_), .val (.ref a1), .val (.ref a1)] [(.ref a1), (.int (0 : Int32))])) rfl rfl (hb hby own_d10_30)
    obtain ⟨T10, X10, e10, st10⟩ := getF X9 hx hZ hown (host := "") (Or.inl (hw _ (List.mem_of_getElem? (i := 28) rfl))) Via.refl e9 Fv0 (g := (mkF m 37 #[.val (.ref a0_), .val (.ref a1), .val (.ref a1)] [(.ref a0_)])) rfl rfl (hb hby own_d10_37)
    obtain ⟨T11, X11, e11, st11⟩ := getF X10 hx hZ hown (host := "") (Or.inl (hw _ (List.mem_of_getElem? (i := 28) rfl))) Via.refl e10 Fv1 (g := (mkF m 41 #[.val (.ref a0_), .val (.ref a1), .val (.ref a1)] [(.ref a1), (.ref b0_)])) rfl rfl (hb hby own_d10_41)
    obtain ⟨_, _, ⟨T12, L12, kk12, n12⟩, -, X12, ⟨Lc12, hQ12, l12, y12, z12⟩, st12⟩ := Jvm.LawKit.callS X11 hx (y := (⟨"java/lang/StringLatin1", "equals", "([B[B)Z"⟩ : MethodName)) hown (mvT hZ (hw _ (List.mem_of_getElem? (i := 74) rfl))) (mvT hZ (hw _ (List.mem_of_getElem? (i := 75) rfl))) (mvT hZ (hw _ (List.mem_of_getElem? (i := 76) rfl))) (mvT hZ (hw _ (List.mem_of_getElem? (i := 77) rfl))) (by decide) (backOf (W := 0) (rm11 l Z a0 hw [] b0_ b1_ k0_ z0 v0 k1_ z1 v1 h0 n0 Z0 V0 V1 hl0 hl1) hZ (hw _ (List.mem_of_getElem? (i := 77) rfl)) (hw _ (List.mem_of_getElem? (i := 76) rfl)) (by decide) (by decide)) (g := (mkF m 44 #[.val (.ref a0_), .val (.ref a1), .val (.ref a1)] [(.ref b1_), (.ref b0_)])) rfl (by rw [hml]; rfl) (argsL := [(.ref b0_), (.ref b1_)]) (rest := []) (lenOf own_pd8 rfl) rfl (by show 2 * 0 + _ ≤ _; exact Nat.le_of_eq rfl) (hb hby own_d10_44) (fun _ _ => ⟨rfl, e11, (by decide : 0 + 0 ≤ _), (by decide : 0 + 0 ≤ _)⟩)
    dsimp only [Pt.U, Pt.locs, Pt.cells, Pt.slots] at X12 l12 y12 z12 st12 hQ12
    subst l12 y12 z12
    obtain ⟨rfl, N12q, e12⟩ := hQ12
    have N12 := Fr.app N0 N12q
    have k13 : own_To p e below T12 (mkF m 47 #[.val (.ref a0_), .val (.ref a1), .val (.ref a1)] [(.int (own_seq z0 z1 v0 v1))]) s₁ (mkF m 0 #[.val (.ref a0_), .val (.ref a1), .unset] []) := fun t q => k8 t (by
      refine st9 _ ?_
      show Steps p.tables e below (T9.setTop (mkF m 33 #[.val (.ref a0_), .val (.ref a1), .val (.ref a1)] [(.int (0 : Int32)), (.int (0 : Int32))])) _
      refine XS.icmpNo X9.here hx rfl (hb hby own_d10_33) rfl (teq rfl).2 ?_
      show Steps p.tables e below (T9.setTop (mkF m 36 #[.val (.ref a0_), .val (.ref a1), .val (.ref a1)] [])) _
      refine XS.aloadN X9.here hx rfl (hb hby own_d10_36) rfl rfl ?_
      show Steps p.tables e below (T9.setTop (mkF m 37 #[.val (.ref a0_), .val (.ref a1), .val (.ref a1)] [(.ref a0_)])) _
      refine st10 _ ?_
      show Steps p.tables e below (T10.setTop (mkF m 40 #[.val (.ref a0_), .val (.ref a1), .val (.ref a1)] [(.ref b0_)])) _
      refine XS.aloadN X10.here hx rfl (hb hby own_d10_40) rfl rfl ?_
      show Steps p.tables e below (T10.setTop (mkF m 41 #[.val (.ref a0_), .val (.ref a1), .val (.ref a1)] [(.ref a1), (.ref b0_)])) _
      refine st11 _ ?_
      show Steps p.tables e below (T11.setTop (mkF m 44 #[.val (.ref a0_), .val (.ref a1), .val (.ref a1)] [(.ref b1_), (.ref b0_)])) _
      refine st12 _ ?_
      show Steps p.tables e below (T12.setTop (mkF m 47 #[.val (.ref a0_), .val (.ref a1), .val (.ref a1)] [(.int (own_seq z0 z1 v0 v1))])) _
      exact q)
    by_cases hc14 : (own_seq z0 z1 v0 v1) = (0 : Int32)
    ·
      have k15 : own_To p e below T12 (mkF m 55 #[.val (.ref a0_), .val (.ref a1), .val (.ref a1)] [(.int (0 : Int32))]) s₁ (mkF m 0 #[.val (.ref a0_), .val (.ref a1), .unset] []) := fun t q => k13 t (by
        refine XS.ifYes X12.here hx rfl (pc0 := 47) (pc' := 54) rfl (hb hby own_d10_47) rfl ((if0 _ _).trans (teq hc14).1) (by decide) (by decide) ?_
        show Steps p.tables e below (T12.setTop (mkF m 54 #[.val (.ref a0_), .val (.ref a1), .val (.ref a1)] [])) _
        refine XS.iconst X12.here hx rfl (hb hby own_d10_54) ?_
        show Steps p.tables e below (T12.setTop (mkF m 55 #[.val (.ref a0_), .val (.ref a1), .val (.ref a1)] [(.int (0 : Int32))])) _
        exact q)
      obtain ⟨fs, hr, hrun, hended, hW, hsame⟩ := X12.leave (v := some (.int (0 : Int32))) (fun h => by rw [Bd.returns] at h; cases h)
      refine ⟨_, _, k0 _ (k15 _ ?_), hrun, hended, _, _, rfl, ?_, ⟨_, rfl⟩, hW, hsame.mono (by decide) (by decide)⟩
      · show Steps p.tables e below (T12.setTop (mkF m 55 #[.val (.ref a0_), .val (.ref a1), .val (.ref a1)] [(.int (0 : Int32))])) _
        exact retN X12 hx (t := .boolean) Bd.returns (by simp) (hb hby own_d10_55) hr
      · show Q10 Z a0_ a1 cs b0_ k0_ z0 v0 b1_ k1_ z1 v1 h0 n0 _ T12.heap _
        rw [e12]
        exact ⟨by rw [hc14], N12, rfl⟩
    ·
      have k16 : own_To p e below T12 (mkF m 55 #[.val (.ref a0_), .val (.ref a1), .val (.ref a1)] [(.int (1 : Int32))]) s₁ (mkF m 0 #[.val (.ref a0_), .val (.ref a1), .unset] []) := fun t q => k13 t (by
        refine XS.ifNo X12.here hx rfl (hb hby own_d10_47) rfl ((if0 _ _).trans (feq hc14).1) ?_
        show Steps p.tables e below (T12.setTop (mkF m 50 #[.val (.ref a0_), .val (.ref a1), .val (.ref a1)] [])) _
        refine XS.iconst X12.here hx rfl (hb hby own_d10_50) ?_
        show Steps p.tables e below (T12.setTop (mkF m 51 #[.val (.ref a0_), .val (.ref a1), .val (.ref a1)] [(.int (1 : Int32))])) _
        refine XS.goto X12.here hx rfl (pc0 := 51) (pc' := 55) rfl (hb hby own_d10_51) (by decide) (by decide) ?_
        show Steps p.tables e below (T12.setTop (mkF m 55 #[.val (.ref a0_), .val (.ref a1), .val (.ref a1)] [(.int (1 : Int32))])) _
        exact q)
      obtain ⟨fs, hr, hrun, hended, hW, hsame⟩ := X12.leave (v := some (.int (1 : Int32))) (fun h => by rw [Bd.returns] at h; cases h)
      refine ⟨_, _, k0 _ (k16 _ ?_), hrun, hended, _, _, rfl, ?_, ⟨_, rfl⟩, hW, hsame.mono (by decide) (by decide)⟩
      · show Steps p.tables e below (T12.setTop (mkF m 55 #[.val (.ref a0_), .val (.ref a1), .val (.ref a1)] [(.int (1 : Int32))])) _
        exact retN X12 hx (t := .boolean) Bd.returns (by simp) (hb hby own_d10_55) hr
      · show Q10 Z a0_ a1 cs b0_ k0_ z0 v0 b1_ k1_ z1 v1 h0 n0 _ T12.heap _
        rw [e12]
        exact ⟨by rw [own_sq1 hc14], N12, rfl⟩
/-- a token, its text's bytes -/
def own_tok (Z : State) (h : Heap) (a k t b : Addr) (kb : ClassId) (z : Int32) (v : List Value) (l c : Int32) : Prop := Exa Z h a "com/example/vetted_traces/vettedtraces/language/Token" ∧ Fld Z h a "com/example/vetted_traces/vettedtraces/language/Token" "kind" "Lcom/example/vetted_traces/vettedtraces/language/TokenKind;" (.ref k) ∧ Fld Z h a "com/example/vetted_traces/vettedtraces/language/Token" "text" "Ljava/lang/String;" (.ref t) ∧ Fld Z h a "com/example/vetted_traces/vettedtraces/language/Token" "line" "I" (.int l) ∧ Fld Z h a "com/example/vetted_traces/vettedtraces/language/Token" "column" "I" (.int c) ∧ Exa Z h t "java/lang/String" ∧ Fld Z h t "java/lang/String" "coder" "B" (.int (0 : Int32)) ∧ Fld Z h t "java/lang/String" "value" "[B" (.ref b) ∧ Arv Z h b kb .byte z v (.int (0 : Int32)) ∧ v.length = z.toNatClampNeg
theorem own_open {Z : State} {h : Heap} {a k t b : Addr} {kb : ClassId} {z : Int32} {v : List Value} {l c : Int32} (H : own_tok Z h a k t b kb z v l c) : Exa Z h a "com/example/vetted_traces/vettedtraces/language/Token" ∧ Fld Z h a "com/example/vetted_traces/vettedtraces/language/Token" "kind" "Lcom/example/vetted_traces/vettedtraces/language/TokenKind;" (.ref k) ∧ Fld Z h a "com/example/vetted_traces/vettedtraces/language/Token" "text" "Ljava/lang/String;" (.ref t) ∧ Fld Z h a "com/example/vetted_traces/vettedtraces/language/Token" "line" "I" (.int l) ∧ Fld Z h a "com/example/vetted_traces/vettedtraces/language/Token" "column" "I" (.int c) ∧ Exa Z h t "java/lang/String" ∧ Fld Z h t "java/lang/String" "coder" "B" (.int (0 : Int32)) ∧ Fld Z h t "java/lang/String" "value" "[B" (.ref b) ∧ Arv Z h b kb .byte z v (.int (0 : Int32)) ∧ v.length = z.toNatClampNeg := H
theorem own_pd5 : parseMethodDescriptor "(Ljava/lang/Object;)Z" = some ⟨[(.object "java/lang/Object")], some .boolean⟩ := by decide +kernel
theorem own_d9_0 : decode prog_76_method_6_code 0 = .ok (.aload_n 1, 1) := by decide +kernel
theorem own_d9_1 : decode prog_76_method_6_code 1 = .ok (.instanceof 18, 3) := by decide +kernel
theorem own_d9_4 : decode prog_76_method_6_code 4 = .ok (.ifCond .ne 5, 3) := by decide +kernel
theorem own_d9_9 : decode prog_76_method_6_code 9 = .ok (.aload_n 1, 1) := by decide +kernel
theorem own_d9_10 : decode prog_76_method_6_code 10 = .ok (.checkcast 18, 3) := by decide +kernel
theorem own_d9_13 : decode prog_76_method_6_code 13 = .ok (.astore_n 2, 1) := by decide +kernel
theorem own_d9_14 : decode prog_76_method_6_code 14 = .ok (.aload_n 0, 1) := by decide +kernel
theorem own_d9_15 : decode prog_76_method_6_code 15 = .ok (.getfield 17, 3) := by decide +kernel
theorem own_d9_18 : decode prog_76_method_6_code 18 = .ok (.aload_n 2, 1) := by decide +kernel
theorem own_d9_19 : decode prog_76_method_6_code 19 = .ok (.getfield 17, 3) := by decide +kernel
theorem own_d9_22 : decode prog_76_method_6_code 22 = .ok (.if_acmp .ne 43, 3) := by decide +kernel
theorem own_d9_25 : decode prog_76_method_6_code 25 = .ok (.aload_n 0, 1) := by decide +kernel
theorem own_d9_26 : decode prog_76_method_6_code 26 = .ok (.getfield 26, 3) := by decide +kernel
theorem own_d9_29 : decode prog_76_method_6_code 29 = .ok (.aload_n 2, 1) := by decide +kernel
theorem own_d9_30 : decode prog_76_method_6_code 30 = .ok (.getfield 26, 3) := by decide +kernel
theorem own_d9_33 : decode prog_76_method_6_code 33 = .ok (.invokevirtual 36, 3) := by decide +kernel
theorem own_d9_36 : decode prog_76_method_6_code 36 = .ok (.ifCond .eq 29, 3) := by decide +kernel
theorem own_d9_39 : decode prog_76_method_6_code 39 = .ok (.aload_n 0, 1) := by decide +kernel
theorem own_d9_40 : decode prog_76_method_6_code 40 = .ok (.getfield 29, 3) := by decide +kernel
theorem own_d9_43 : decode prog_76_method_6_code 43 = .ok (.aload_n 2, 1) := by decide +kernel
theorem own_d9_44 : decode prog_76_method_6_code 44 = .ok (.getfield 29, 3) := by decide +kernel
theorem own_d9_47 : decode prog_76_method_6_code 47 = .ok (.if_icmp .ne 18, 3) := by decide +kernel
theorem own_d9_50 : decode prog_76_method_6_code 50 = .ok (.aload_n 0, 1) := by decide +kernel
theorem own_d9_51 : decode prog_76_method_6_code 51 = .ok (.getfield 33, 3) := by decide +kernel
theorem own_d9_54 : decode prog_76_method_6_code 54 = .ok (.aload_n 2, 1) := by decide +kernel
theorem own_d9_55 : decode prog_76_method_6_code 55 = .ok (.getfield 33, 3) := by decide +kernel
theorem own_d9_58 : decode prog_76_method_6_code 58 = .ok (.if_icmp .ne 7, 3) := by decide +kernel
theorem own_d9_61 : decode prog_76_method_6_code 61 = .ok (.iconst 1, 1) := by decide +kernel
theorem own_d9_62 : decode prog_76_method_6_code 62 = .ok (.goto 4, 3) := by decide +kernel
theorem own_d9_65 : decode prog_76_method_6_code 65 = .ok (.iconst 0, 1) := by decide +kernel
theorem own_d9_66 : decode prog_76_method_6_code 66 = .ok (.ireturn, 1) := by decide +kernel
theorem own_pn9 : plainName "com/example/vetted_traces/vettedtraces/language/Token" = true := by first | (simp [plainName, overriddenIn]; done) | decide +kernel
theorem own_efT1 (m : MethodId) (x0 : Addr) (x1 : Addr) : entryFrame m #[(.ref x0), (.ref x1)] 3 = mkF m 0 #[.val (.ref x0), .val (.ref x1), .unset] [] := by first | (simp [entryFrame, mkF, argsToLocals, Value.category]; done) | rfl
def own_te (kd0 kd1 : Addr) (z0 z1 : Int32) (v0 v1 : List Value) (l0 l1 c0 c1 : Int32) : Int32 := (if kd0 = kd1 then (if (own_seq z0 z1 v0 v1) = (0 : Int32) then (0 : Int32) else (if l0 = l1 then (if c0 = c1 then (1 : Int32) else (0 : Int32)) else (0 : Int32))) else (0 : Int32))
def QT1 (Z : State) (a0_ : Addr) (a1 : Addr) (kd0 : Addr) (t0 : Addr) (b0_ : Addr) (k0_ : ClassId) (z0 : Int32) (v0 : List Value) (l0 : Int32) (c0 : Int32) (kd1 : Addr) (t1 : Addr) (b1_ : Addr) (k1_ : ClassId) (z1 : Int32) (v1 : List Value) (l1 : Int32) (c1 : Int32) (cs : Int32) (h0 : Heap) (n0 : Nat) (v : Option Value) (h : Heap) (L : List Loc) : Prop := v = some (.int (own_te kd0 kd1 z0 z1 v0 v1 l0 l1 c0 c1)) ∧ Fr n0 L ∧ h = h0
set_option maxRecDepth 65536 in
set_option maxHeartbeats 40000000 in
theorem rmT1 (l : Launch) (Z : State) (a0 : Array Value) (hw : ∀ d ∈ tables_1, d.before a0 Z = true) (ws : List Jvm.Cond) (a0_ : Addr) (a1 : Addr) (kd0 : Addr) (t0 : Addr) (b0_ : Addr) (k0_ : ClassId) (z0 : Int32) (v0 : List Value) (l0 : Int32) (c0 : Int32) (kd1 : Addr) (t1 : Addr) (b1_ : Addr) (k1_ : ClassId) (z1 : Int32) (v1 : List Value) (l1 : Int32) (c1 : Int32) (cs : Int32) (h0 : Heap) (n0 : Nat) (Z0 : n0 ≤ h0.size) (P0 : own_tok Z h0 a0_ kd0 t0 b0_ k0_ z0 v0 l0 c0) (P1 : own_tok Z h0 a1 kd1 t1 b1_ k1_ z1 v1 l1 c1) (SC : Sta Z Z.heap "java/lang/String" "COMPACT_STRINGS" "Z" (.int cs)) (hcs : ¬ cs = (0 : Int32)) (O0 : Old Z n0 h0) :
    MetFree l (⟨"com/example/vetted_traces/vettedtraces/language/Token", "equals", "(Ljava/lang/Object;)Z"⟩ : MethodName) (head1 (Jvm.Cond.code (⟨"com/example/vetted_traces/vettedtraces/language/Token", "equals", "(Ljava/lang/Object;)Z"⟩ : MethodName) prog_76_method_6_code 3 (some .boolean) :: ws) ({ frames := 2, cells := 0, slots := 0, locals := 28 } : Room)) (fun a U => a = #[(.ref a0_), (.ref a1)] ∧ Z.Warmed39 U.vm ∧ U.heap = h0) (fun _ _ _ _ _ => True) (fun _ U o U' => ∃ v L, o = .returned v ∧ QT1 Z a0_ a1 kd0 t0 b0_ k0_ z0 v0 l0 c0 kd1 t1 b1_ k1_ z1 v1 l1 c1 cs h0 n0 v U'.heap L ∧ FrameEnd U o U' L ({ frames := 2, cells := 0, slots := 0, locals := 28 } : Room).cells ({ frames := 2, cells := 0, slots := 0, locals := 28 } : Room).slots) := by
  refine MetFree.of_bodySF (plainFor_of_name own_pn9) hisR ?_
  intro p e s m args below meth c s₁ Bd hml0 hP hK
  obtain ⟨rfl, hZ, hh⟩ := hP
  have hx := Bd.exec
  have hby := Bd.bytes
  have hml : c.maxLocals = 3 := hml0
  have hown : s.vm.findClass "com/example/vetted_traces/vettedtraces/language/Token" = some m.cls := findClass_of_methodNamed Bd.named
  have hnm := (name_of_methodNamed Bd.named Bd.method).1
  have X0 : Stand p l e ({ frames := 2, cells := 0, slots := 0, locals := 28 } : Room) s m #[(.ref a0_), (.ref a1)] below meth c s₁ [] 0 0 := Stand.of_body Bd
  have e0 : s₁.heap = h0 := by rw [← hh, Bd.state]; rfl
  have N0 := Fr.nil n0
  have k0 : own_To p e below s₁ (mkF m 0 #[.val (.ref a0_), .val (.ref a1), .unset] []) s₁ (entryFrame m #[(.ref a0_), (.ref a1)] 3) := fun t k => castTop (own_efT1 m a0_ a1) k
  have ki : own_To p e below s₁ (mkF m 0 #[.val (.ref a0_), .val (.ref a1), .unset] []) s₁ (mkF m 0 #[.val (.ref a0_), .val (.ref a1), .unset] []) := fun t q => q
  have hl0 := (own_open P0).2.2.2.2.2.2.2.2.2
  have hl1 := (own_open P1).2.2.2.2.2.2.2.2.2
  obtain ⟨T1, X1, e1, st1⟩ := instY X0 hx hZ hown (hw _ (List.mem_of_getElem? (i := 65) rfl)) e0 (Ins.self (own_open P1).1) (g := (mkF m 1 #[.val (.ref a0_), .val (.ref a1), .unset] [(.ref a1)])) rfl rfl (hb hby own_d9_1)
  obtain ⟨T2, X2, e2, st2⟩ := castY X1 hx hZ hown (hw _ (List.mem_of_getElem? (i := 65) rfl)) e1 (Ins.self (own_open P1).1) (g := (mkF m 10 #[.val (.ref a0_), .val (.ref a1), .unset] [(.ref a1)])) rfl rfl (hb hby own_d9_10)
  obtain ⟨T3, X3, e3, st3⟩ := getF X2 hx hZ hown (host := "") (Or.inl (hw _ (List.mem_of_getElem? (i := 50) rfl))) Via.refl e2 (own_open P0).2.1 (g := (mkF m 15 #[.val (.ref a0_), .val (.ref a1), .val (.ref a1)] [(.ref a0_)])) rfl rfl (hb hby own_d9_15)
  obtain ⟨T4, X4, e4, st4⟩ := getF X3 hx hZ hown (host := "") (Or.inl (hw _ (List.mem_of_getElem? (i := 50) rfl))) Via.refl e3 (own_open P1).2.1 (g := (mkF m 19 #[.val (.ref a0_), .val (.ref a1), .val (.ref a1)] [(.ref a1), (.ref kd0)])) rfl rfl (hb hby own_d9_19)
  have k5 : own_To p e below T4 (mkF m 22 #[.val (.ref a0_), .val (.ref a1), .val (.ref a1)] [(.ref kd1), (.ref kd0)]) s₁ (mkF m 0 #[.val (.ref a0_), .val (.ref a1), .unset] []) := fun t q => ki t (by
    refine XS.aloadN X0.here hx rfl (hb hby own_d9_0) rfl rfl ?_
    show Steps p.tables e below (s₁.setTop (mkF m 1 #[.val (.ref a0_), .val (.ref a1), .unset] [(.ref a1)])) _
    refine st1 _ ?_
    show Steps p.tables e below (T1.setTop (mkF m 4 #[.val (.ref a0_), .val (.ref a1), .unset] [(.int (1 : Int32))])) _
    refine XS.ifYes X1.here hx rfl (pc0 := 4) (pc' := 9) rfl (hb hby own_d9_4) rfl ((if0 _ _).trans (feq (by decide)).2) (by decide) (by decide) ?_
    show Steps p.tables e below (T1.setTop (mkF m 9 #[.val (.ref a0_), .val (.ref a1), .unset] [])) _
    refine XS.aloadN X1.here hx rfl (hb hby own_d9_9) rfl rfl ?_
    show Steps p.tables e below (T1.setTop (mkF m 10 #[.val (.ref a0_), .val (.ref a1), .unset] [(.ref a1)])) _
    refine st2 _ ?_
    show Steps p.tables e below (T2.setTop (mkF m 13 #[.val (.ref a0_), .val (.ref a1), .unset] [(.ref a1)])) _
    refine XS.astoreN X2.here hx rfl (hb hby own_d9_13) rfl rfl (l' := #[.val (.ref a0_), .val (.ref a1), .val (.ref a1)]) rfl ?_
    show Steps p.tables e below (T2.setTop (mkF m 14 #[.val (.ref a0_), .val (.ref a1), .val (.ref a1)] [])) _
    refine XS.aloadN X2.here hx rfl (hb hby own_d9_14) rfl rfl ?_
    show Steps p.tables e below (T2.setTop (mkF m 15 #[.val (.ref a0_), .val (.ref a1), .val (.ref a1)] [(.ref a0_)])) _
    refine st3 _ ?_
    show Steps p.tables e below (T3.setTop (mkF m 18 #[.val (.ref a0_), .val (.ref a1), .val (.ref a1)] [(.ref kd0)])) _
    refine XS.aloadN X3.here hx rfl (hb hby own_d9_18) rfl rfl ?_
    show Steps p.tables e below (T3.setTop (mkF m 19 #[.val (.ref a0_), .val (.ref a1), .val (.ref a1)] [(.ref a1), (.ref kd0)])) _
    refine st4 _ ?_
    show Steps p.tables e below (T4.setTop (mkF m 22 #[.val (.ref a0_), .val (.ref a1), .val (.ref a1)] [(.ref kd1), (.ref kd0)])) _
    exact q)
  by_cases hc6 : kd0 = kd1
  ·
    obtain ⟨T7, X7, e7, st7⟩ := getF X4 hx hZ hown (host := "") (Or.inl (hw _ (List.mem_of_getElem? (i := 54) rfl))) Via.refl e4 (own_open P0).2.2.1 (g := (mkF m 26 #[.val (.ref a0_), .val (.ref a1), .val (.ref a1)] [(.ref a0_)])) rfl rfl (hb hby own_d9_26)
    obtain ⟨T8, X8, e8, st8⟩ := getF X7 hx hZ hown (host := "") (Or.inl (hw _ (List.mem_of_getElem? (i := 54) rfl))) Via.refl e7 (own_open P1).2.2.1 (g := (mkF m 30 #[.val (.ref a0_), .val (.ref a1), .val (.ref a1)] [(.ref a1), (.ref t0)])) rfl rfl (hb hby own_d9_30)
    obtain ⟨cq9, kq9, q9a, q9b, q9c⟩ := isOf hZ e8 (own_open P0).2.2.2.2.2.1
    obtain ⟨_, _, ⟨T9, L9, kk9, n9⟩, -, X9, ⟨Lc9, hQ9, l9, y9, z9⟩, st9⟩ := X8.virtualBack hx (y := (⟨"java/lang/String", "equals", "(Ljava/lang/Object;)Z"⟩ : MethodName)) (z := (⟨"java/lang/String", "equals", "(Ljava/lang/Object;)Z"⟩ : MethodName)) hown (mvT hZ (hw _ (List.mem_of_getElem? (i := 67) rfl))) (mvT hZ (hw _ (List.mem_of_getElem? (i := 68) rfl))) (notFace_of_selects (args := #[]) (mvT hZ (hw _ (List.mem_of_getElem? (i := 70) rfl)))) (mvT hZ (hw _ (List.mem_of_getElem? (i := 70) rfl))) (mvT hZ (hw _ (List.mem_of_getElem? (i := 69) rfl))) (by decide) (backOf (W := 0) (rm10 l Z a0 hw [] t0 t1 cs b0_ k0_ z0 v0 b1_ k1_ z1 v1 h0 n0 Z0 (own_open P0).2.2.2.2.2.1 (own_open P0).2.2.2.2.2.2.1 (own_open P0).2.2.2.2.2.2.2.1 (own_open P0).2.2.2.2.2.2.2.2.1 hl0 (own_open P1).2.2.2.2.2.1 (own_open P1).2.2.2.2.2.2.1 (own_open P1).2.2.2.2.2.2.2.1 (own_open P1).2.2.2.2.2.2.2.2.1 hl1 SC hcs O0) hZ (hw _ (List.mem_of_getElem? (i := 71) rfl)) (hw _ (List.mem_of_getElem? (i := 10) rfl)) (by decide) (by decide)) q9a q9c (g := (mkF m 33 #[.val (.ref a0_), .val (.ref a1), .val (.ref a1)] [(.ref t1), (.ref t0)])) rfl (by rw [hml]; rfl) (Steps.refl _) (argsL := [(.ref t1)]) (rest := []) (lenOf own_pd5 rfl) rfl (by show 2 * 0 + _ ≤ _; exact Nat.le_of_eq rfl) (hb hby own_d9_33) (fun _ _ => ⟨rfl, e8, (by decide : 0 + 0 ≤ _), (by decide : 0 + 0 ≤ _)⟩)
    dsimp only [Pt.U, Pt.locs, Pt.cells, Pt.slots] at X9 l9 y9 z9 st9 hQ9
    subst l9 y9 z9
    obtain ⟨rfl, N9q, e9⟩ := hQ9
    have N9 := Fr.app N0 N9q
    have k10 : own_To p e below T9 (mkF m 36 #[.val (.ref a0_), .val (.ref a1), .val (.ref a1)] [(.int (own_seq z0 z1 v0 v1))]) s₁ (mkF m 0 #[.val (.ref a0_), .val (.ref a1), .unset] []) := fun t q => k5 t (by
      refine Jvm.RoadKit.acmp (g := (mkF m 22 #[.val (.ref a0_), .val (.ref a1), .val (.ref a1)] [(.ref kd1), (.ref kd0)])) X4 hx rfl rfl rfl (pc0 := 22) (pc' := 25) (same := true) rfl (hb hby own_d9_22) rfl (decide_eq_true (congrArg Value.ref hc6)) (by decide) (by decide) ?_
      show Steps p.tables e below (T4.setTop (mkF m 25 #[.val (.ref a0_), .val (.ref a1), .val (.ref a1)] [])) _
      refine XS.aloadN X4.here hx rfl (hb hby own_d9_25) rfl rfl ?_
      show Steps p.tables e below (T4.setTop (mkF m 26 #[.val (.ref a0_), .val (.ref a1), .val (.ref a1)] [(.ref a0_)])) _
      refine st7 _ ?_
      show Steps p.tables e below (T7.setTop (mkF m 29 #[.val (.ref a0_), .val (.ref a1), .val (.ref a1)] [(.ref t0)])) _
      refine XS.aloadN X7.here hx rfl (hb hby own_d9_29) rfl rfl ?_
      show Steps p.tables e below (T7.setTop (mkF m 30 #[.val (.ref a0_), .val (.ref a1), .val (.ref a1)] [(.ref a1), (.ref t0)])) _
      refine st8 _ ?_
      show Steps p.tables e below (T8.setTop (mkF m 33 #[.val (.ref a0_), .val (.ref a1), .val (.ref a1)] [(.ref t1), (.ref t0)])) _
      refine st9.trans ?_
      show Steps p.tables e below (T9.setTop (mkF m 36 #[.val (.ref a0_), .val (.ref a1), .val (.ref a1)] [(.int (own_seq z0 z1 v0 v1))])) _
      exact q)
    by_cases hc11 : (own_seq z0 z1 v0 v1) = (0 : Int32)
    ·
      have k12 : own_To p e below T9 (mkF m 66 #[.val (.ref a0_), .val (.ref a1), .val (.ref a1)] [(.int (0 : Int32))]) s₁ (mkF m 0 #[.val (.ref a0_), .val (.ref a1), .unset] []) := fun t q => k10 t (by
        refine XS.ifYes X9.here hx rfl (pc0 := 36) (pc' := 65) rfl (hb hby own_d9_36) rfl ((if0 _ _).trans (teq hc11).1) (by decide) (by decide) ?_
        show Steps p.tables e below (T9.setTop (mkF m 65 #[.val (.ref a0_), .val (.ref a1), .val (.ref a1)] [])) _
        refine XS.iconst X9.here hx rfl (hb hby own_d9_65) ?_
        show Steps p.tables e below (T9.setTop (mkF m 66 #[.val (.ref a0_), .val (.ref a1), .val (.ref a1)] [(.int (0 : Int32))])) _
        exact q)
      obtain ⟨fs, hr, hrun, hended, hW, hsame⟩ := X9.leave (v := some (.int (0 : Int32))) (fun h => by rw [Bd.returns] at h; cases h)
      refine ⟨_, _, k0 _ (k12 _ ?_), hrun, hended, _, _, rfl, ?_, ⟨_, rfl⟩, hW, hsame.mono (by decide) (by decide)⟩
      · show Steps p.tables e below (T9.setTop (mkF m 66 #[.val (.ref a0_), .val (.ref a1), .val (.ref a1)] [(.int (0 : Int32))])) _
        exact retN X9 hx (t := .boolean) Bd.returns (by simp) (hb hby own_d9_66) hr
      · show QT1 Z a0_ a1 kd0 t0 b0_ k0_ z0 v0 l0 c0 kd1 t1 b1_ k1_ z1 v1 l1 c1 cs h0 n0 _ T9.heap _
        rw [e9]
        exact ⟨by rw [own_te, if_pos hc6, if_pos hc11], N9, rfl⟩
    ·
      obtain ⟨T13, X13, e13, st13⟩ := getF X9 hx hZ hown (host := "") (Or.inl (hw _ (List.mem_of_getElem? (i := 56) rfl))) Via.refl e9 (own_open P0).2.2.2.1 (g := (mkF m 40 #[.val (.ref a0_), .val (.ref a1), .val (.ref a1)] [(.ref a0_)])) rfl rfl (hb hby own_d9_40)
      obtain ⟨T14, X14, e14, st14⟩ := getF X13 hx hZ hown (host := "") (Or.inl (hw _ (List.mem_of_getElem? (i := 56) rfl))) Via.refl e13 (own_open P1).2.2.2.1 (g := (mkF m 44 #[.val (.ref a0_), .val (.ref a1), .val (.ref a1)] [(.ref a1), (.int l0)])) rfl rfl (hb hby own_d9_44)
      have k15 : own_To p e below T14 (mkF m 47 #[.val (.ref a0_), .val (.ref a1), .val (.ref a1)] [(.int l1), (.int l0)]) s₁ (mkF m 0 #[.val (.ref a0_), .val (.ref a1), .unset] []) := fun t q => k10 t (by
        refine XS.ifNo X9.here hx rfl (hb hby own_d9_36) rfl ((if0 _ _).trans (feq hc11).1) ?_
        show Steps p.tables e below (T9.setTop (mkF m 39 #[.val (.ref a0_), .val (.ref a1), .val (.ref a1)] [])) _
        refine XS.aloadN X9.here hx rfl (hb hby own_d9_39) rfl rfl ?_
        show Steps p.tables e below (T9.setTop (mkF m 40 #[.val (.ref a0_), .val (.ref a1), .val (.ref a1)] [(.ref a0_)])) _
        refine st13 _ ?_
        show Steps p.tables e below (T13.setTop (mkF m 43 #[.val (.ref a0_), .val (.ref a1), .val (.ref a1)] [(.int l0)])) _
        refine XS.aloadN X13.here hx rfl (hb hby own_d9_43) rfl rfl ?_
        show Steps p.tables e below (T13.setTop (mkF m 44 #[.val (.ref a0_), .val (.ref a1), .val (.ref a1)] [(.ref a1), (.int l0)])) _
        refine st14 _ ?_
        show Steps p.tables e below (T14.setTop (mkF m 47 #[.val (.ref a0_), .val (.ref a1), .val (.ref a1)] [(.int l1), (.int l0)])) _
        exact q)
      by_cases hc16 : l0 = l1
      ·
        obtain ⟨T17, X17, e17, st17⟩ := getF X14 hx hZ hown (host := "") (Or.inl (hw _ (List.mem_of_getElem? (i := 58) rfl))) Via.refl e14 (own_open P0).2.2.2.2.1 (g := (mkF m 51 #[.val (.ref a0_), .val (.ref a1), .val (.ref a1)] [(.ref a0_)])) rfl rfl (hb hby own_d9_51)
        obtain ⟨T18, X18, e18, st18⟩ := getF X17 hx hZ hown (host := "") (Or.inl (hw _ (List.mem_of_getElem? (i := 58) rfl))) Via.refl e17 (own_open P1).2.2.2.2.1 (g := (mkF m 55 #[.val (.ref a0_), .val (.ref a1), .val (.ref a1)] [(.ref a1), (.int c0)])) rfl rfl (hb hby own_d9_55)
        have k19 : own_To p e below T18 (mkF m 58 #[.val (.ref a0_), .val (.ref a1), .val (.ref a1)] [(.int c1), (.int c0)]) s₁ (mkF m 0 #[.val (.ref a0_), .val (.ref a1), .unset] []) := fun t q => k15 t (by
          refine XS.icmpNo X14.here hx rfl (hb hby own_d9_47) rfl (teq hc16).2 ?_
          show Steps p.tables e below (T14.setTop (mkF m 50 #[.val (.ref a0_), .val (.ref a1), .val (.ref a1)] [])) _
          refine XS.aloadN X14.here hx rfl (hb hby own_d9_50) rfl rfl ?_
          show Steps p.tables e below (T14.setTop (mkF m 51 #[.val (.ref a0_), .val (.ref a1), .val (.ref a1)] [(.ref a0_)])) _
          refine st17 _ ?_
          show Steps p.tables e below (T17.setTop (mkF m 54 #[.val (.ref a0_), .val (.ref a1), .val (.ref a1)] [(.int c0)])) _
          refine XS.aloadN X17.here hx rfl (hb hby own_d9_54) rfl rfl ?_
          show Steps p.tables e below (T17.setTop (mkF m 55 #[.val (.ref a0_), .val (.ref a1), .val (.ref a1)] [(.ref a1), (.int c0)])) _
          refine st18 _ ?_
          show Steps p.tables e below (T18.setTop (mkF m 58 #[.val (.ref a0_), .val (.ref a1), .val (.ref a1)] [(.int c1), (.int c0)])) _
          exact q)
        by_cases hc20 : c0 = c1
        ·
          have k21 : own_To p e below T18 (mkF m 66 #[.val (.ref a0_), .val (.ref a1), .val (.ref a1)] [(.int (1 : Int32))]) s₁ (mkF m 0 #[.val (.ref a0_), .val (.ref a1), .unset] []) := fun t q => k19 t (by
            refine XS.icmpNo X18.here hx rfl (hb hby own_d9_58) rfl (teq hc20).2 ?_
            show Steps p.tables e below (T18.setTop (mkF m 61 #[.val (.ref a0_), .val (.ref a1), .val (.ref a1)] [])) _
            refine XS.iconst X18.here hx rfl (hb hby own_d9_61) ?_
            show Steps p.tables e below (T18.setTop (mkF m 62 #[.val (.ref a0_), .val (.ref a1), .val (.ref a1)] [(.int (1 : Int32))])) _
            refine XS.goto X18.here hx rfl (pc0 := 62) (pc' := 66) rfl (hb hby own_d9_62) (by decide) (by decide) ?_
            show Steps p.tables e below (T18.setTop (mkF m 66 #[.val (.ref a0_), .val (.ref a1), .val (.ref a1)] [(.int (1 : Int32))])) _
            exact q)
          obtain ⟨fs, hr, hrun, hended, hW, hsame⟩ := X18.leave (v := some (.int (1 : Int32))) (fun h => by rw [Bd.returns] at h; cases h)
          refine ⟨_, _, k0 _ (k21 _ ?_), hrun, hended, _, _, rfl, ?_, ⟨_, rfl⟩, hW, hsame.mono (by decide) (by decide)⟩
          · show Steps p.tables e below (T18.setTop (mkF m 66 #[.val (.ref a0_), .val (.ref a1), .val (.ref a1)] [(.int (1 : Int32))])) _
            exact retN X18 hx (t := .boolean) Bd.returns (by simp) (hb hby own_d9_66) hr
          · show QT1 Z a0_ a1 kd0 t0 b0_ k0_ z0 v0 l0 c0 kd1 t1 b1_ k1_ z1 v1 l1 c1 cs h0 n0 _ T18.heap _
            rw [e18]
            exact ⟨by rw [own_te, if_pos hc6, if_neg hc11, if_pos hc16, if_pos hc20], N9, rfl⟩
        ·
          have k22 : own_To p e below T18 (mkF m 66 #[.val (.ref a0_), .val (.ref a1), .val (.ref a1)] [(.int (0 : Int32))]) s₁ (mkF m 0 #[.val (.ref a0_), .val (.ref a1), .unset] []) := fun t q => k19 t (by
            refine XS.icmpYes X18.here hx rfl (pc0 := 58) (pc' := 65) rfl (hb hby own_d9_58) rfl (feq hc20).2 (by decide) (by decide) ?_
            show Steps p.tables e below (T18.setTop (mkF m 65 #[.val (.ref a0_), .val (.ref a1), .val (.ref a1)] [])) _
            refine XS.iconst X18.here hx rfl (hb hby own_d9_65) ?_
            show Steps p.tables e below (T18.setTop (mkF m 66 #[.val (.ref a0_), .val (.ref a1), .val (.ref a1)] [(.int (0 : Int32))])) _
            exact q)
          obtain ⟨fs, hr, hrun, hended, hW, hsame⟩ := X18.leave (v := some (.int (0 : Int32))) (fun h => by rw [Bd.returns] at h; cases h)
          refine ⟨_, _, k0 _ (k22 _ ?_), hrun, hended, _, _, rfl, ?_, ⟨_, rfl⟩, hW, hsame.mono (by decide) (by decide)⟩
          · show Steps p.tables e below (T18.setTop (mkF m 66 #[.val (.ref a0_), .val (.ref a1), .val (.ref a1)] [(.int (0 : Int32))])) _
            exact retN X18 hx (t := .boolean) Bd.returns (by simp) (hb hby own_d9_66) hr
          · show QT1 Z a0_ a1 kd0 t0 b0_ k0_ z0 v0 l0 c0 kd1 t1 b1_ k1_ z1 v1 l1 c1 cs h0 n0 _ T18.heap _
            rw [e18]
            exact ⟨by rw [own_te, if_pos hc6, if_neg hc11, if_pos hc16, if_neg hc20], N9, rfl⟩
      ·
        have k23 : own_To p e below T14 (mkF m 66 #[.val (.ref a0_), .val (.ref a1), .val (.ref a1)] [(.int (0 : Int32))]) s₁ (mkF m 0 #[.val (.ref a0_), .val (.ref a1), .unset] []) := fun t q => k15 t (by
          refine XS.icmpYes X14.here hx rfl (pc0 := 47) (pc' := 65) rfl (hb hby own_d9_47) rfl (feq hc16).2 (by decide) (by decide) ?_
          show Steps p.tables e below (T14.setTop (mkF m 65 #[.val (.ref a0_), .val (.ref a1), .val (.ref a1)] [])) _
          refine XS.iconst X14.here hx rfl (hb hby own_d9_65) ?_
          show Steps p.tables e below (T14.setTop (mkF m 66 #[.val (.ref a0_), .val (.ref a1), .val (.ref a1)] [(.int (0 : Int32))])) _
          exact q)
        obtain ⟨fs, hr, hrun, hended, hW, hsame⟩ := X14.leave (v := some (.int (0 : Int32))) (fun h => by rw [Bd.returns] at h; cases h)
        refine ⟨_, _, k0 _ (k23 _ ?_), hrun, hended, _, _, rfl, ?_, ⟨_, rfl⟩, hW, hsame.mono (by decide) (by decide)⟩
        · show Steps p.tables e below (T14.setTop (mkF m 66 #[.val (.ref a0_), .val (.ref a1), .val (.ref a1)] [(.int (0 : Int32))])) _
          exact retN X14 hx (t := .boolean) Bd.returns (by simp) (hb hby own_d9_66) hr
        · show QT1 Z a0_ a1 kd0 t0 b0_ k0_ z0 v0 l0 c0 kd1 t1 b1_ k1_ z1 v1 l1 c1 cs h0 n0 _ T14.heap _
          rw [e14]
          exact ⟨by rw [own_te, if_pos hc6, if_neg hc11, if_neg hc16], N9, rfl⟩
  ·
    have k24 : own_To p e below T4 (mkF m 66 #[.val (.ref a0_), .val (.ref a1), .val (.ref a1)] [(.int (0 : Int32))]) s₁ (mkF m 0 #[.val (.ref a0_), .val (.ref a1), .unset] []) := fun t q => k5 t (by
      refine Jvm.RoadKit.acmp (g := (mkF m 22 #[.val (.ref a0_), .val (.ref a1), .val (.ref a1)] [(.ref kd1), (.ref kd0)])) X4 hx rfl rfl rfl (pc0 := 22) (pc' := 65) (same := false) rfl (hb hby own_d9_22) rfl (decide_eq_false fun q => hc6 (Value.ref.inj q)) (by decide) (by decide) ?_
      show Steps p.tables e below (T4.setTop (mkF m 65 #[.val (.ref a0_), .val (.ref a1), .val (.ref a1)] [])) _
      refine XS.iconst X4.here hx rfl (hb hby own_d9_65) ?_
      show Steps p.tables e below (T4.setTop (mkF m 66 #[.val (.ref a0_), .val (.ref a1), .val (.ref a1)] [(.int (0 : Int32))])) _
      exact q)
    obtain ⟨fs, hr, hrun, hended, hW, hsame⟩ := X4.leave (v := some (.int (0 : Int32))) (fun h => by rw [Bd.returns] at h; cases h)
    refine ⟨_, _, k0 _ (k24 _ ?_), hrun, hended, _, _, rfl, ?_, ⟨_, rfl⟩, hW, hsame.mono (by decide) (by decide)⟩
    · show Steps p.tables e below (T4.setTop (mkF m 66 #[.val (.ref a0_), .val (.ref a1), .val (.ref a1)] [(.int (0 : Int32))])) _
      exact retN X4 hx (t := .boolean) Bd.returns (by simp) (hb hby own_d9_66) hr
    · show QT1 Z a0_ a1 kd0 t0 b0_ k0_ z0 v0 l0 c0 kd1 t1 b1_ k1_ z1 v1 l1 c1 cs h0 n0 _ T4.heap _
      rw [e4]
      exact ⟨by rw [own_te, if_neg hc6], N0, rfl⟩
theorem own_d9_7 : decode prog_76_method_6_code 7 = .ok (.iconst 0, 1) := by decide +kernel
theorem own_d9_8 : decode prog_76_method_6_code 8 = .ok (.ireturn, 1) := by decide +kernel
theorem own_efTN (m : MethodId) (x0 : Addr) : entryFrame m #[(.ref x0), .null] 3 = mkF m 0 #[.val (.ref x0), .val .null, .unset] [] := by first | (simp [entryFrame, mkF, argsToLocals, Value.category]; done) | rfl
def QTN (Z : State) (a0_ : Addr) (h0 : Heap) (n0 : Nat) (v : Option Value) (h : Heap) (L : List Loc) : Prop := v = some (.int (0 : Int32)) ∧ Fr n0 L ∧ h = h0
set_option maxRecDepth 65536 in
set_option maxHeartbeats 40000000 in
theorem rmTN (l : Launch) (Z : State) (a0 : Array Value) (hw : ∀ d ∈ tables_1, d.before a0 Z = true) (ws : List Jvm.Cond) (a0_ : Addr) (h0 : Heap) (n0 : Nat) (Z0 : n0 ≤ h0.size) :
    MetFree l (⟨"com/example/vetted_traces/vettedtraces/language/Token", "equals", "(Ljava/lang/Object;)Z"⟩ : MethodName) (head1 (Jvm.Cond.code (⟨"com/example/vetted_traces/vettedtraces/language/Token", "equals", "(Ljava/lang/Object;)Z"⟩ : MethodName) prog_76_method_6_code 3 (some .boolean) :: ws) ({ frames := 0, cells := 0, slots := 0, locals := 0 } : Room)) (fun a U => a = #[(.ref a0_), .null] ∧ Z.Warmed39 U.vm ∧ U.heap = h0) (fun _ _ _ _ _ => True) (fun _ U o U' => ∃ v L, o = .returned v ∧ QTN Z a0_ h0 n0 v U'.heap L ∧ FrameEnd U o U' L ({ frames := 0, cells := 0, slots := 0, locals := 0 } : Room).cells ({ frames := 0, cells := 0, slots := 0, locals := 0 } : Room).slots) := by
  refine MetFree.of_bodySF (plainFor_of_name own_pn9) hisR ?_
  intro p e s m args below meth c s₁ Bd hml0 hP hK
  obtain ⟨rfl, hZ, hh⟩ := hP
  have hx := Bd.exec
  have hby := Bd.bytes
  have hml : c.maxLocals = 3 := hml0
  have hown : s.vm.findClass "com/example/vetted_traces/vettedtraces/language/Token" = some m.cls := findClass_of_methodNamed Bd.named
  have hnm := (name_of_methodNamed Bd.named Bd.method).1
  have X0 : Stand p l e ({ frames := 0, cells := 0, slots := 0, locals := 0 } : Room) s m #[(.ref a0_), .null] below meth c s₁ [] 0 0 := Stand.of_body Bd
  have e0 : s₁.heap = h0 := by rw [← hh, Bd.state]; rfl
  have N0 := Fr.nil n0
  have k0 : own_To p e below s₁ (mkF m 0 #[.val (.ref a0_), .val .null, .unset] []) s₁ (entryFrame m #[(.ref a0_), .null] 3) := fun t k => castTop (own_efTN m a0_) k
  have ki : own_To p e below s₁ (mkF m 0 #[.val (.ref a0_), .val .null, .unset] []) s₁ (mkF m 0 #[.val (.ref a0_), .val .null, .unset] []) := fun t q => q
  have k1 : own_To p e below s₁ (mkF m 8 #[.val (.ref a0_), .val .null, .unset] [(.int (0 : Int32))]) s₁ (mkF m 0 #[.val (.ref a0_), .val .null, .unset] []) := fun t q => ki t (by
    refine XS.aloadN X0.here hx rfl (hb hby own_d9_0) rfl rfl ?_
    show Steps p.tables e below (s₁.setTop (mkF m 1 #[.val (.ref a0_), .val .null, .unset] [.null])) _
    refine X0.instanceofNull hx (g := (mkF m 1 #[.val (.ref a0_), .val .null, .unset] [.null])) rfl rfl (hb hby own_d9_1) _ ?_
    show Steps p.tables e below (s₁.setTop (mkF m 4 #[.val (.ref a0_), .val .null, .unset] [(.int (0 : Int32))])) _
    refine XS.ifNo X0.here hx rfl (hb hby own_d9_4) rfl ((if0 _ _).trans (teq rfl).2) ?_
    show Steps p.tables e below (s₁.setTop (mkF m 7 #[.val (.ref a0_), .val .null, .unset] [])) _
    refine XS.iconst X0.here hx rfl (hb hby own_d9_7) ?_
    show Steps p.tables e below (s₁.setTop (mkF m 8 #[.val (.ref a0_), .val .null, .unset] [(.int (0 : Int32))])) _
    exact q)
  obtain ⟨fs, hr, hrun, hended, hW, hsame⟩ := X0.leave (v := some (.int (0 : Int32))) (fun h => by rw [Bd.returns] at h; cases h)
  refine ⟨_, _, k0 _ (k1 _ ?_), hrun, hended, _, _, rfl, ?_, ⟨_, rfl⟩, hW, hsame.mono (by decide) (by decide)⟩
  · show Steps p.tables e below (s₁.setTop (mkF m 8 #[.val (.ref a0_), .val .null, .unset] [(.int (0 : Int32))])) _
    exact retN X0 hx (t := .boolean) Bd.returns (by simp) (hb hby own_d9_8) hr
  · show QTN Z a0_ h0 n0 _ s₁.heap _
    rw [e0]
    exact ⟨rfl, N0, rfl⟩
theorem own_efTS (m : MethodId) (x0 : Addr) (x1 : Addr) : entryFrame m #[(.ref x0), (.ref x1)] 3 = mkF m 0 #[.val (.ref x0), .val (.ref x1), .unset] [] := by first | (simp [entryFrame, mkF, argsToLocals, Value.category]; done) | rfl
def QTS (Z : State) (a0_ : Addr) (a1 : Addr) (h0 : Heap) (n0 : Nat) (v : Option Value) (h : Heap) (L : List Loc) : Prop := v = some (.int (0 : Int32)) ∧ Fr n0 L ∧ h = h0
set_option maxRecDepth 65536 in
set_option maxHeartbeats 40000000 in
theorem rmTS (l : Launch) (Z : State) (a0 : Array Value) (hw : ∀ d ∈ tables_1, d.before a0 Z = true) (ws : List Jvm.Cond) (a0_ : Addr) (a1 : Addr) (h0 : Heap) (n0 : Nat) (Z0 : n0 ≤ h0.size) (E1 : Exa Z h0 a1 "java/lang/String") :
    MetFree l (⟨"com/example/vetted_traces/vettedtraces/language/Token", "equals", "(Ljava/lang/Object;)Z"⟩ : MethodName) (head1 (Jvm.Cond.code (⟨"com/example/vetted_traces/vettedtraces/language/Token", "equals", "(Ljava/lang/Object;)Z"⟩ : MethodName) prog_76_method_6_code 3 (some .boolean) :: ws) ({ frames := 0, cells := 0, slots := 0, locals := 0 } : Room)) (fun a U => a = #[(.ref a0_), (.ref a1)] ∧ Z.Warmed39 U.vm ∧ U.heap = h0) (fun _ _ _ _ _ => True) (fun _ U o U' => ∃ v L, o = .returned v ∧ QTS Z a0_ a1 h0 n0 v U'.heap L ∧ FrameEnd U o U' L ({ frames := 0, cells := 0, slots := 0, locals := 0 } : Room).cells ({ frames := 0, cells := 0, slots := 0, locals := 0 } : Room).slots) := by
  refine MetFree.of_bodySF (plainFor_of_name own_pn9) hisR ?_
  intro p e s m args below meth c s₁ Bd hml0 hP hK
  obtain ⟨rfl, hZ, hh⟩ := hP
  have hx := Bd.exec
  have hby := Bd.bytes
  have hml : c.maxLocals = 3 := hml0
  have hown : s.vm.findClass "com/example/vetted_traces/vettedtraces/language/Token" = some m.cls := findClass_of_methodNamed Bd.named
  have hnm := (name_of_methodNamed Bd.named Bd.method).1
  have X0 : Stand p l e ({ frames := 0, cells := 0, slots := 0, locals := 0 } : Room) s m #[(.ref a0_), (.ref a1)] below meth c s₁ [] 0 0 := Stand.of_body Bd
  have e0 : s₁.heap = h0 := by rw [← hh, Bd.state]; rfl
  have N0 := Fr.nil n0
  have k0 : own_To p e below s₁ (mkF m 0 #[.val (.ref a0_), .val (.ref a1), .unset] []) s₁ (entryFrame m #[(.ref a0_), (.ref a1)] 3) := fun t k => castTop (own_efTS m a0_ a1) k
  have ki : own_To p e below s₁ (mkF m 0 #[.val (.ref a0_), .val (.ref a1), .unset] []) s₁ (mkF m 0 #[.val (.ref a0_), .val (.ref a1), .unset] []) := fun t q => q
  obtain ⟨T1, X1, e1, st1⟩ := instNo X0 hx hZ hown (hw _ (List.mem_of_getElem? (i := 65) rfl)) e0 E1 (own_no (hw _ (List.mem_of_getElem? (i := 94) rfl)) (hw _ (List.mem_of_getElem? (i := 31) rfl)) (NS.step (hw _ (List.mem_of_getElem? (i := 94) rfl)) (own_root (hw _ (List.mem_of_getElem? (i := 95) rfl)) (hw _ (List.mem_of_getElem? (i := 31) rfl)) (by decide)) (by decide)) (by decide)) (g := (mkF m 1 #[.val (.ref a0_), .val (.ref a1), .unset] [(.ref a1)])) rfl rfl (hb hby own_d9_1)
  have k2 : own_To p e below T1 (mkF m 8 #[.val (.ref a0_), .val (.ref a1), .unset] [(.int (0 : Int32))]) s₁ (mkF m 0 #[.val (.ref a0_), .val (.ref a1), .unset] []) := fun t q => ki t (by
    refine XS.aloadN X0.here hx rfl (hb hby own_d9_0) rfl rfl ?_
    show Steps p.tables e below (s₁.setTop (mkF m 1 #[.val (.ref a0_), .val (.ref a1), .unset] [(.ref a1)])) _
    refine st1 _ ?_
    show Steps p.tables e below (T1.setTop (mkF m 4 #[.val (.ref a0_), .val (.ref a1), .unset] [(.int (0 : Int32))])) _
    refine XS.ifNo X1.here hx rfl (hb hby own_d9_4) rfl ((if0 _ _).trans (teq rfl).2) ?_
    show Steps p.tables e below (T1.setTop (mkF m 7 #[.val (.ref a0_), .val (.ref a1), .unset] [])) _
    refine XS.iconst X1.here hx rfl (hb hby own_d9_7) ?_
    show Steps p.tables e below (T1.setTop (mkF m 8 #[.val (.ref a0_), .val (.ref a1), .unset] [(.int (0 : Int32))])) _
    exact q)
  obtain ⟨fs, hr, hrun, hended, hW, hsame⟩ := X1.leave (v := some (.int (0 : Int32))) (fun h => by rw [Bd.returns] at h; cases h)
  refine ⟨_, _, k0 _ (k2 _ ?_), hrun, hended, _, _, rfl, ?_, ⟨_, rfl⟩, hW, hsame.mono (by decide) (by decide)⟩
  · show Steps p.tables e below (T1.setTop (mkF m 8 #[.val (.ref a0_), .val (.ref a1), .unset] [(.int (0 : Int32))])) _
    exact retN X1 hx (t := .boolean) Bd.returns (by simp) (hb hby own_d9_8) hr
  · show QTS Z a0_ a1 h0 n0 _ T1.heap _
    rw [e1]
    exact ⟨rfl, N0, rfl⟩
theorem own_lenx (p0 p1 p2 : Int32) : (own_xs p0 p1 p2).length = (own_len p0).toNatClampNeg := by
  unfold own_xs own_len
  by_cases h0 : p0 = 0
  · rw [if_pos h0, if_pos h0]; rfl
  · rw [if_neg h0, if_neg h0]
    by_cases h1 : p0 = 1
    · rw [if_pos h1, if_pos h1]; rfl
    · rw [if_neg h1, if_neg h1]; rfl
theorem own_256 : ∀ n : Fin 256, (own_by (nar .char (Int32.ofNat n.1)) &&& 255) = Int32.ofNat n.1 ∧ ¬ (255 : Int32) < nar .char (Int32.ofNat n.1) := by decide +kernel
theorem own_ofn (x : Int32) (h0 : 0 ≤ x.toInt) (h1 : x.toInt < 256) : ∃ n : Fin 256, x = Int32.ofNat n.1 := by
  refine ⟨⟨x.toInt.toNat, by omega⟩, ?_⟩
  apply Int32.toInt_inj.mp
  have q : ((x.toInt.toNat : Nat) : Int) = x.toInt := by omega
  rw [Int32.toInt_ofNat_of_lt (show x.toInt.toNat < 2 ^ 31 by omega)]; exact q.symm
theorem own_inj (x y : Int32) (h0 : 0 ≤ x.toInt ∧ x.toInt < 256) (h1 : 0 ≤ y.toInt ∧ y.toInt < 256) (h : own_by (nar .char x) = own_by (nar .char y)) : x = y := by
  obtain ⟨n, rfl⟩ := own_ofn x h0.1 h0.2
  obtain ⟨k, rfl⟩ := own_ofn y h1.1 h1.2
  rw [← (own_256 n).1, ← (own_256 k).1, h]
theorem own_hp (x : Int32) (h0 : 0 ≤ x.toInt ∧ x.toInt < 256) : ¬ (255 : Int32) < nar .char x := by
  obtain ⟨n, rfl⟩ := own_ofn x h0.1 h0.2
  exact (own_256 n).2
theorem own_r8 (x : Int32) : 0 ≤ ((x &&& (255 : Int32)).toUInt32.toUInt16.toUInt32.toInt32).toInt ∧ ((x &&& (255 : Int32)).toUInt32.toUInt16.toUInt32.toInt32).toInt < 256 := by
  rw [i2c_mask]
  have h := c_mask x 255 8 (by decide) (by decide)
  omega
theorem own_r3 (x : Int32) : 0 ≤ (x &&& (3 : Int32)).toInt ∧ (x &&& (3 : Int32)).toInt < 4 := by
  have h := c_mask x 3 2 (by decide) (by decide)
  omega
theorem own_r2 (x : Int32) : 0 ≤ (own_min (x &&& (3 : Int32)) (2 : Int32)).toInt ∧ (own_min (x &&& (3 : Int32)) (2 : Int32)).toInt < 3 := by
  have h := own_r3 x
  unfold own_min
  by_cases q : (2 : Int32) < (x &&& (3 : Int32))
  · rw [if_pos q]; decide
  · rw [if_neg q]
    rw [Int32.lt_iff_toInt_lt, show (2 : Int32).toInt = 2 from rfl] at q; omega
theorem own_if {c : Prop} [Decidable c] {a b : Int32} {n : Int} (h1 : 0 ≤ a.toInt ∧ a.toInt < n) (h2 : 0 ≤ b.toInt ∧ b.toInt < n) : 0 ≤ (if c then a else b).toInt ∧ (if c then a else b).toInt < n := by
  by_cases q : c
  · rw [if_pos q]; exact h1
  · rw [if_neg q]; exact h2
theorem own_kinj {Z : State} {en : Nat → Addr} (H : own_en Z en) (a b : Int32) (ha : 0 ≤ a.toInt ∧ a.toInt < 4) (hb : 0 ≤ b.toInt ∧ b.toInt < 4) : own_kind en a = own_kind en b ↔ a = b := by
  have h4 : ∀ x : Int32, 0 ≤ x.toInt ∧ x.toInt < 4 → x = 0 ∨ x = 1 ∨ x = 2 ∨ x = 3 := fun x h => by
    simp only [← Int32.toInt_inj, Int32.reduceToInt]; omega
  have e0 : own_kind en 0 = en 0 := rfl
  have e1 : own_kind en 1 = en 1 := rfl
  have e2 : own_kind en 2 = en 2 := rfl
  have e3 : own_kind en 3 = en 3 := rfl
  have n01 := own_ne H 0 1 (by decide) (by decide) (by decide)
  have n02 := own_ne H 0 2 (by decide) (by decide) (by decide)
  have n03 := own_ne H 0 3 (by decide) (by decide) (by decide)
  have n12 := own_ne H 1 2 (by decide) (by decide) (by decide)
  have n13 := own_ne H 1 3 (by decide) (by decide) (by decide)
  have n23 := own_ne H 2 3 (by decide) (by decide) (by decide)
  rcases h4 a ha with rfl | rfl | rfl | rfl <;> rcases h4 b hb with rfl | rfl | rfl | rfl <;> simp only [e0, e1, e2, e3, n01, n02, n03, n12, n13, n23, n01.symm, n02.symm, n03.symm, n12.symm, n13.symm, n23.symm] <;> decide
theorem own_txt (la lb c0 c1 b0 b1 : Int32) (ha : 0 ≤ la.toInt ∧ la.toInt < 3) (hb : 0 ≤ lb.toInt ∧ lb.toInt < 3) (hc0 : 0 ≤ c0.toInt ∧ c0.toInt < 256) (hc1 : 0 ≤ c1.toInt ∧ c1.toInt < 256) (hb0 : 0 ≤ b0.toInt ∧ b0.toInt < 256) (hb1 : 0 ≤ b1.toInt ∧ b1.toInt < 256) : (own_len la = own_len lb ∧ own_xs la c0 c1 = own_xs lb b0 b1) ↔ (la = lb ∧ (la < 1 ∨ c0 = b0) ∧ (la < 2 ∨ c1 = b1)) := by
  have h3 : ∀ x : Int32, 0 ≤ x.toInt ∧ x.toInt < 3 → x = 0 ∨ x = 1 ∨ x = 2 := fun x h => by
    simp only [← Int32.toInt_inj, Int32.reduceToInt]; omega
  have l0 : own_len 0 = 0 := by decide
  have l1 : own_len 1 = 1 := by decide
  have l2 : own_len 2 = 2 := by decide
  have x0 : ∀ x y, own_xs 0 x y = [] := fun _ _ => by rw [own_xs, if_pos rfl]
  have x1 : ∀ x y, own_xs 1 x y = [.int (own_by (nar .char x))] := fun _ _ => by rw [own_xs, if_neg (by decide), if_pos rfl]
  have x2 : ∀ x y, own_xs 2 x y = [.int (own_by (nar .char x)), .int (own_by (nar .char y))] := fun _ _ => by rw [own_xs, if_neg (by decide), if_neg (by decide)]
  have i0 := own_inj c0 b0 hc0 hb0
  have i1 := own_inj c1 b1 hc1 hb1
  have q01 : (0 : Int32) < 1 := by decide
  have q02 : (0 : Int32) < 2 := by decide
  have q12 : (1 : Int32) < 2 := by decide
  have q11 : ¬ (1 : Int32) < 1 := by decide
  have q21 : ¬ (2 : Int32) < 1 := by decide
  have q22 : ¬ (2 : Int32) < 2 := by decide
  have d01 : ¬ (0 : Int32) = 1 := by decide
  have d02 : ¬ (0 : Int32) = 2 := by decide
  have d12 : ¬ (1 : Int32) = 2 := by decide
  have d10 : ¬ (1 : Int32) = 0 := by decide
  have d20 : ¬ (2 : Int32) = 0 := by decide
  have d21 : ¬ (2 : Int32) = 1 := by decide
  rcases h3 la ha with rfl | rfl | rfl <;> rcases h3 lb hb with rfl | rfl | rfl
  · exact ⟨fun _ => ⟨rfl, Or.inl q01, Or.inl q02⟩, fun _ => ⟨rfl, by rw [x0, x0]⟩⟩
  · exact ⟨fun q => absurd (l0.symm.trans (q.1.trans l1)) d01, fun q => absurd q.1 d01⟩
  · exact ⟨fun q => absurd (l0.symm.trans (q.1.trans l2)) d02, fun q => absurd q.1 d02⟩
  · exact ⟨fun q => absurd (l1.symm.trans (q.1.trans l0)) d10, fun q => absurd q.1 d10⟩
  · rw [x1, x1]
    refine ⟨fun q => ⟨rfl, Or.inr (i0 ?_), Or.inl q12⟩, fun q => ⟨rfl, ?_⟩⟩
    · have := q.2; simp only [List.cons.injEq, Value.int.injEq] at this; exact this.1
    · rw [q.2.1.resolve_left q11]
  · exact ⟨fun q => absurd (l1.symm.trans (q.1.trans l2)) d12, fun q => absurd q.1 d12⟩
  · exact ⟨fun q => absurd (l2.symm.trans (q.1.trans l0)) d20, fun q => absurd q.1 d20⟩
  · exact ⟨fun q => absurd (l2.symm.trans (q.1.trans l1)) d21, fun q => absurd q.1 d21⟩
  · rw [x2, x2]
    refine ⟨fun q => ?_, fun q => ⟨rfl, ?_⟩⟩
    · have := q.2; simp only [List.cons.injEq, Value.int.injEq] at this; exact ⟨rfl, Or.inr (i0 this.1), Or.inr (i1 this.2.1)⟩
    · rw [q.2.1.resolve_left q21, q.2.2.resolve_left q22]
theorem own_teE (kd0 kd1 : Addr) (z0 z1 : Int32) (v0 v1 : List Value) (l0 l1 c0 c1 : Int32) : own_te kd0 kd1 z0 z1 v0 v1 l0 l1 c0 c1 = if (kd0 = kd1 ∧ (z0 = z1 ∧ v0 = v1) ∧ l0 = l1 ∧ c0 = c1) then 1 else 0 := by
  unfold own_te own_seq
  by_cases h1 : kd0 = kd1
  · by_cases h2 : z0 = z1 ∧ v0 = v1
    · by_cases h3 : l0 = l1
      · by_cases h4 : c0 = c1
        · simp [h1, h2, h3, h4]
        · simp [h1, h2, h3, h4]
      · simp [h1, h2, h3]
    · simp [h1, h2]
  · simp [h1]
theorem own_tesym (kd0 kd1 : Addr) (z0 z1 : Int32) (v0 v1 : List Value) (l0 l1 c0 c1 : Int32) : own_te kd0 kd1 z0 z1 v0 v1 l0 l1 c0 c1 = own_te kd1 kd0 z1 z0 v1 v0 l1 l0 c1 c0 := by
  rw [own_teE, own_teE]
  by_cases h : kd0 = kd1 ∧ (z0 = z1 ∧ v0 = v1) ∧ l0 = l1 ∧ c0 = c1
  · rw [if_pos h, if_pos ⟨h.1.symm, ⟨h.2.1.1.symm, h.2.1.2.symm⟩, h.2.2.1.symm, h.2.2.2.symm⟩]
  · rw [if_neg h, if_neg (fun q => h ⟨q.1.symm, ⟨q.2.1.1.symm, q.2.1.2.symm⟩, q.2.2.1.symm, q.2.2.2.symm⟩)]
theorem own_fin {kd0 kd1 : Addr} {ka kb la lb c0 c1 b0 b1 l0 l1 m0 m1 te ex z0 z1 : Int32} {v0 v1 : List Value} (hK : kd0 = kd1 ↔ ka = kb) (hT : (z0 = z1 ∧ v0 = v1) ↔ (la = lb ∧ (la < 1 ∨ c0 = b0) ∧ (la < 2 ∨ c1 = b1)))
    (h1 : te = (if la = lb then (if la < (1 : Int32) then (if la < (2 : Int32) then (1 : Int32) else (if c1 = b1 then (1 : Int32) else (0 : Int32))) else (if c0 = b0 then (if la < (2 : Int32) then (1 : Int32) else (if c1 = b1 then (1 : Int32) else (0 : Int32))) else (0 : Int32))) else (0 : Int32))) (h2 : ex = (if ka = kb then (if te = (0 : Int32) then (0 : Int32) else (if l0 = l1 then (if m0 = m1 then (1 : Int32) else (0 : Int32)) else (0 : Int32))) else (0 : Int32))) : own_te kd0 kd1 z0 z1 v0 v1 l0 l1 m0 m1 = ex := by
  have h3 : te = if (la = lb ∧ (la < 1 ∨ c0 = b0) ∧ (la < 2 ∨ c1 = b1)) then 1 else 0 := by
    rw [h1]
    by_cases a1 : la = lb
    · by_cases a2 : la < 1
      · by_cases a3 : la < 2
        · simp only [eq_true a1, eq_true a2, eq_true a3, true_or, and_self, ↓reduceIte]
        · by_cases a4 : c1 = b1
          · simp only [eq_true a1, eq_true a2, eq_false a3, eq_true a4, true_or, or_true, and_self, ↓reduceIte]
          · simp only [eq_true a1, eq_true a2, eq_false a3, eq_false a4, true_or, or_self, and_false, ↓reduceIte]
      · by_cases a5 : c0 = b0
        · by_cases a3 : la < 2
          · simp only [eq_true a1, eq_false a2, eq_true a3, eq_true a5, true_or, or_true, and_self, ↓reduceIte]
          · by_cases a4 : c1 = b1
            · simp only [eq_true a1, eq_false a2, eq_false a3, eq_true a4, eq_true a5, or_true, and_self, ↓reduceIte]
            · simp only [eq_true a1, eq_false a2, eq_false a3, eq_false a4, eq_true a5, or_true, or_self, and_false, ↓reduceIte]
        · simp only [eq_true a1, eq_false a2, eq_false a5, or_self, and_false, false_and, ↓reduceIte]
    · simp only [eq_false a1, false_and, ↓reduceIte]
  rw [own_teE, h2]
  by_cases k1 : ka = kb
  · rw [if_pos k1]
    by_cases k2 : la = lb ∧ (la < 1 ∨ c0 = b0) ∧ (la < 2 ∨ c1 = b1)
    · rw [h3, if_pos k2, if_neg (show ¬ (1 : Int32) = 0 by decide)]
      by_cases k3 : l0 = l1
      · rw [if_pos k3]
        by_cases k4 : m0 = m1
        · rw [if_pos k4, if_pos ⟨hK.mpr k1, hT.mpr k2, k3, k4⟩]
        · rw [if_neg k4, if_neg (fun q => k4 q.2.2.2)]
      · rw [if_neg k3, if_neg (fun q => k3 q.2.2.1)]
    · rw [h3, if_neg k2, if_pos (show (0 : Int32) = 0 from rfl), if_neg (fun q => k2 (hT.mp q.2.1))]
  · rw [if_neg k1, if_neg (fun q => k1 (hK.mp q.1))]
theorem own_pd3 : parseMethodDescriptor "(II)I" = some ⟨[.int, .int], some .int⟩ := by decide +kernel
theorem own_pd2 : parseMethodDescriptor "(ICC)Ljava/lang/String;" = some ⟨[.int, .char, .char], some (.object "java/lang/String")⟩ := by decide +kernel
theorem own_pd1 : parseMethodDescriptor "(I)Lcom/example/vetted_traces/vettedtraces/language/TokenKind;" = some ⟨[.int], some (.object "com/example/vetted_traces/vettedtraces/language/TokenKind")⟩ := by decide +kernel
theorem own_pd4 : parseMethodDescriptor "(Lcom/example/vetted_traces/vettedtraces/language/TokenKind;Ljava/lang/String;II)V" = some ⟨[(.object "com/example/vetted_traces/vettedtraces/language/TokenKind"), (.object "java/lang/String"), .int, .int], none⟩ := by decide +kernel
theorem own_pn0 : plainName "com/example/vetted_traces/vettedtraces/language/TokenEqualsPinLaw" = true := by first | (simp [plainName, overriddenIn]; done) | decide +kernel
theorem own_ef0 (m : MethodId) (x0 : Int32) (x1 : Int32) (x2 : Int32) (x3 : Int32) (x4 : Int32) (x5 : Int32) : entryFrame m #[(.int x0), (.int x1), (.int x2), (.int x3), (.int x4), (.int x5)] maxLocals = mkF m 0 #[.val (.int x0), .val (.int x1), .val (.int x2), .val (.int x3), .val (.int x4), .val (.int x5), .unset, .unset, .unset, .unset, .unset, .unset, .unset, .unset, .unset, .unset, .unset, .unset, .unset, .unset, .unset, .unset, .unset] [] := by first | (simp [entryFrame, mkF, argsToLocals, Value.category, maxLocals]; done) | rfl
def Q0 (Z : State) (p0 : Int32) (p1 : Int32) (p2 : Int32) (p3 : Int32) (p4 : Int32) (p5 : Int32) (en : Nat → Addr) (cs : Int32) (h0 : Heap) (n0 : Nat) (v : Option Value) (h : Heap) (L : List Loc) : Prop := v = some (.int 1) ∧ Fr n0 L
set_option maxRecDepth 65536 in
set_option maxHeartbeats 40000000 in
theorem rm0 (l : Launch) (Z : State) (a0 : Array Value) (hw : ∀ d ∈ tables_1, d.before a0 Z = true) (ws : List Jvm.Cond) (p0 : Int32) (p1 : Int32) (p2 : Int32) (p3 : Int32) (p4 : Int32) (p5 : Int32) (en : Nat → Addr) (cs : Int32) (h0 : Heap) (n0 : Nat) (Z0 : n0 ≤ h0.size) (HE : own_en Z en) (SC : Sta Z Z.heap "java/lang/String" "COMPACT_STRINGS" "Z" (.int cs)) (hcs : ¬ cs = (0 : Int32)) (O0 : Old Z n0 h0) (hEL : EW Z a0 own_EL) :
    MetFree l x (head1 (Jvm.Cond.code x code maxLocals ret :: ws) room_1) (fun a U => a = #[(.int p0), (.int p1), (.int p2), (.int p3), (.int p4), (.int p5)] ∧ Z.Warmed39 U.vm ∧ U.heap = h0 ∧ CHv Z own_EL U.vm h0) (fun _ _ _ _ _ => True) (fun _ U o U' => ∃ v L, o = .returned v ∧ Q0 Z p0 p1 p2 p3 p4 p5 en cs h0 n0 v U'.heap L ∧ CHr Z own_EL U.vm U.heap U'.vm U'.heap ∧ ReturnedEndW U o U' L 32 3200) := by
  refine MetFree.of_bodySF (plainFor_of_name own_pn0) hisR ?_
  intro p e s m args below meth c s₁ Bd hml0 hP hK
  obtain ⟨rfl, hZ, hh, hCH⟩ := hP
  have hx := Bd.exec
  have hby := Bd.bytes
  have hml : c.maxLocals = 23 := hml0
  have hown : s.vm.findClass "com/example/vetted_traces/vettedtraces/language/TokenEqualsPinLaw" = some m.cls := findClass_of_methodNamed Bd.named
  have hnm := (name_of_methodNamed Bd.named Bd.method).1
  have X0 : Stand p l e room_1 s m #[(.int p0), (.int p1), (.int p2), (.int p3), (.int p4), (.int p5)] below meth c s₁ [] 0 0 := Stand.of_body Bd
  have e0 : s₁.heap = h0 := by rw [← hh, Bd.state]; rfl
  have N0 := Fr.nil n0
  have k0 : own_To p e below s₁ (mkF m 0 #[.val (.int p0), .val (.int p1), .val (.int p2), .val (.int p3), .val (.int p4), .val (.int p5), .unset, .unset, .unset, .unset, .unset, .unset, .unset, .unset, .unset, .unset, .unset, .unset, .unset, .unset, .unset, .unset, .unset] []) s₁ (entryFrame m #[(.int p0), (.int p1), (.int p2), (.int p3), (.int p4), (.int p5)] maxLocals) := fun t k => castTop (own_ef0 m p0 p1 p2 p3 p4 p5) k
  have ki : own_To p e below s₁ (mkF m 0 #[.val (.int p0), .val (.int p1), .val (.int p2), .val (.int p3), .val (.int p4), .val (.int p5), .unset, .unset, .unset, .unset, .unset, .unset, .unset, .unset, .unset, .unset, .unset, .unset, .unset, .unset, .unset, .unset, .unset] []) s₁ (mkF m 0 #[.val (.int p0), .val (.int p1), .val (.int p2), .val (.int p3), .val (.int p4), .val (.int p5), .unset, .unset, .unset, .unset, .unset, .unset, .unset, .unset, .unset, .unset, .unset, .unset, .unset, .unset, .unset, .unset, .unset] []) := fun t q => q
  have hstr : ∀ a ∈ Bundle.stringAtoms, a.before a0 Z = true := fun d hd => hw d ((by decide +kernel : ∀ d ∈ Bundle.stringAtoms, d ∈ tables_1) d hd)
  have X0 := own_base X0
  have CR0 := CHr.refl hCH
  have k1 : own_To p e below s₁ (mkF m 5 #[.val (.int p0), .val (.int p1), .val (.int p2), .val (.int p3), .val (.int p4), .val (.int p5), .val (.int (p0 &&& (3 : Int32))), .unset, .unset, .unset, .unset, .unset, .unset, .unset, .unset, .unset, .unset, .unset, .unset, .unset, .unset, .unset, .unset] []) s₁ (mkF m 0 #[.val (.int p0), .val (.int p1), .val (.int p2), .val (.int p3), .val (.int p4), .val (.int p5), .unset, .unset, .unset, .unset, .unset, .unset, .unset, .unset, .unset, .unset, .unset, .unset, .unset, .unset, .unset, .unset, .unset] []) := fun t q => ki t (by
    refine XS.iloadN X0.here hx rfl (hb hby at_0) rfl ?_
    show Steps p.tables e below (s₁.setTop (mkF m 1 #[.val (.int p0), .val (.int p1), .val (.int p2), .val (.int p3), .val (.int p4), .val (.int p5), .unset, .unset, .unset, .unset, .unset, .unset, .unset, .unset, .unset, .unset, .unset, .unset, .unset, .unset, .unset, .unset, .unset] [(.int p0)])) _
    refine XS.iconst X0.here hx rfl (hb hby at_1) ?_
    show Steps p.tables e below (s₁.setTop (mkF m 2 #[.val (.int p0), .val (.int p1), .val (.int p2), .val (.int p3), .val (.int p4), .val (.int p5), .unset, .unset, .unset, .unset, .unset, .unset, .unset, .unset, .unset, .unset, .unset, .unset, .unset, .unset, .unset, .unset, .unset] [(.int (3 : Int32)), (.int p0)])) _
    refine XS.iand X0.here hx rfl (hb hby at_2) rfl ?_
    show Steps p.tables e below (s₁.setTop (mkF m 3 #[.val (.int p0), .val (.int p1), .val (.int p2), .val (.int p3), .val (.int p4), .val (.int p5), .unset, .unset, .unset, .unset, .unset, .unset, .unset, .unset, .unset, .unset, .unset, .unset, .unset, .unset, .unset, .unset, .unset] [(.int (p0 &&& (3 : Int32)))])) _
    refine XS.istore X0.here hx rfl (hb hby at_3) rfl (l' := #[.val (.int p0), .val (.int p1), .val (.int p2), .val (.int p3), .val (.int p4), .val (.int p5), .val (.int (p0 &&& (3 : Int32))), .unset, .unset, .unset, .unset, .unset, .unset, .unset, .unset, .unset, .unset, .unset, .unset, .unset, .unset, .unset, .unset]) rfl ?_
    show Steps p.tables e below (s₁.setTop (mkF m 5 #[.val (.int p0), .val (.int p1), .val (.int p2), .val (.int p3), .val (.int p4), .val (.int p5), .val (.int (p0 &&& (3 : Int32))), .unset, .unset, .unset, .unset, .unset, .unset, .unset, .unset, .unset, .unset, .unset, .unset, .unset, .unset, .unset, .unset] [])) _
    exact q)
  obtain ⟨ka, q_ka⟩ : ∃ z, (p0 &&& (3 : Int32)) = z := ⟨_, rfl⟩
  have r_ka : 0 ≤ ka.toInt ∧ ka.toInt < 4 := by rw [← q_ka]; exact own_r3 _
  have k2 : own_To p e below s₁ (mkF m 5 #[.val (.int p0), .val (.int p1), .val (.int p2), .val (.int p3), .val (.int p4), .val (.int p5), .val (.int ka), .unset, .unset, .unset, .unset, .unset, .unset, .unset, .unset, .unset, .unset, .unset, .unset, .unset, .unset, .unset, .unset] []) s₁ (mkF m 0 #[.val (.int p0), .val (.int p1), .val (.int p2), .val (.int p3), .val (.int p4), .val (.int p5), .unset, .unset, .unset, .unset, .unset, .unset, .unset, .unset, .unset, .unset, .unset, .unset, .unset, .unset, .unset, .unset, .unset] []) := by rw [q_ka] at k1; exact k1
  have k3 : own_To p e below s₁ (mkF m 10 #[.val (.int p0), .val (.int p1), .val (.int p2), .val (.int p3), .val (.int p4), .val (.int p5), .val (.int ka), .unset, .unset, .unset, .unset, .unset, .unset, .unset, .unset, .unset, .unset, .unset, .unset, .unset, .unset, .unset, .unset] [(.int (((p0.toUInt32 >>> ((2 : Int32) &&& 31).toUInt32).toInt32) &&& (1 : Int32)))]) s₁ (mkF m 0 #[.val (.int p0), .val (.int p1), .val (.int p2), .val (.int p3), .val (.int p4), .val (.int p5), .unset, .unset, .unset, .unset, .unset, .unset, .unset, .unset, .unset, .unset, .unset, .unset, .unset, .unset, .unset, .unset, .unset] []) := fun t q => k2 t (by
    refine XS.iloadN X0.here hx rfl (hb hby at_5) rfl ?_
    show Steps p.tables e below (s₁.setTop (mkF m 6 #[.val (.int p0), .val (.int p1), .val (.int p2), .val (.int p3), .val (.int p4), .val (.int p5), .val (.int ka), .unset, .unset, .unset, .unset, .unset, .unset, .unset, .unset, .unset, .unset, .unset, .unset, .unset, .unset, .unset, .unset] [(.int p0)])) _
    refine XS.iconst X0.here hx rfl (hb hby at_6) ?_
    show Steps p.tables e below (s₁.setTop (mkF m 7 #[.val (.int p0), .val (.int p1), .val (.int p2), .val (.int p3), .val (.int p4), .val (.int p5), .val (.int ka), .unset, .unset, .unset, .unset, .unset, .unset, .unset, .unset, .unset, .unset, .unset, .unset, .unset, .unset, .unset, .unset] [(.int (2 : Int32)), (.int p0)])) _
    refine XS.iushr X0.here hx rfl (hb hby at_7) rfl ?_
    show Steps p.tables e below (s₁.setTop (mkF m 8 #[.val (.int p0), .val (.int p1), .val (.int p2), .val (.int p3), .val (.int p4), .val (.int p5), .val (.int ka), .unset, .unset, .unset, .unset, .unset, .unset, .unset, .unset, .unset, .unset, .unset, .unset, .unset, .unset, .unset, .unset] [(.int ((p0.toUInt32 >>> ((2 : Int32) &&& 31).toUInt32).toInt32))])) _
    refine XS.iconst X0.here hx rfl (hb hby at_8) ?_
    show Steps p.tables e below (s₁.setTop (mkF m 9 #[.val (.int p0), .val (.int p1), .val (.int p2), .val (.int p3), .val (.int p4), .val (.int p5), .val (.int ka), .unset, .unset, .unset, .unset, .unset, .unset, .unset, .unset, .unset, .unset, .unset, .unset, .unset, .unset, .unset, .unset] [(.int (1 : Int32)), (.int ((p0.toUInt32 >>> ((2 : Int32) &&& 31).toUInt32).toInt32))])) _
    refine XS.iand X0.here hx rfl (hb hby at_9) rfl ?_
    show Steps p.tables e below (s₁.setTop (mkF m 10 #[.val (.int p0), .val (.int p1), .val (.int p2), .val (.int p3), .val (.int p4), .val (.int p5), .val (.int ka), .unset, .unset, .unset, .unset, .unset, .unset, .unset, .unset, .unset, .unset, .unset, .unset, .unset, .unset, .unset, .unset] [(.int (((p0.toUInt32 >>> ((2 : Int32) &&& 31).toUInt32).toInt32) &&& (1 : Int32)))])) _
    exact q)
  obtain ⟨kb, hkb, k5⟩ : ∃ (kb : Int32), (kb = (if (((p0.toUInt32 >>> ((2 : Int32) &&& 31).toUInt32).toInt32) &&& (1 : Int32)) = (0 : Int32) then (((p0.toUInt32 >>> ((3 : Int32) &&& 31).toUInt32).toInt32) &&& (3 : Int32)) else ka)) ∧ own_To p e below s₁ (mkF m 23 #[.val (.int p0), .val (.int p1), .val (.int p2), .val (.int p3), .val (.int p4), .val (.int p5), .val (.int ka), .unset, .unset, .unset, .unset, .unset, .unset, .unset, .unset, .unset, .unset, .unset, .unset, .unset, .unset, .unset, .unset] [(.int kb)]) s₁ (mkF m 0 #[.val (.int p0), .val (.int p1), .val (.int p2), .val (.int p3), .val (.int p4), .val (.int p5), .unset, .unset, .unset, .unset, .unset, .unset, .unset, .unset, .unset, .unset, .unset, .unset, .unset, .unset, .unset, .unset, .unset] []) := by
    by_cases hm4 : (((p0.toUInt32 >>> ((2 : Int32) &&& 31).toUInt32).toInt32) &&& (1 : Int32)) = (0 : Int32)
    ·
      refine ⟨(((p0.toUInt32 >>> ((3 : Int32) &&& 31).toUInt32).toInt32) &&& (3 : Int32)), by rw [if_pos hm4], fun t q => k3 t (?_)⟩
      refine XS.ifYes X0.here hx rfl (pc0 := 10) (pc' := 18) rfl (hb hby at_10) rfl ((if0 _ _).trans (teq hm4).1) (by decide) (by decide) ?_
      show Steps p.tables e below (s₁.setTop (mkF m 18 #[.val (.int p0), .val (.int p1), .val (.int p2), .val (.int p3), .val (.int p4), .val (.int p5), .val (.int ka), .unset, .unset, .unset, .unset, .unset, .unset, .unset, .unset, .unset, .unset, .unset, .unset, .unset, .unset, .unset, .unset] [])) _
      refine XS.iloadN X0.here hx rfl (hb hby at_18) rfl ?_
      show Steps p.tables e below (s₁.setTop (mkF m 19 #[.val (.int p0), .val (.int p1), .val (.int p2), .val (.int p3), .val (.int p4), .val (.int p5), .val (.int ka), .unset, .unset, .unset, .unset, .unset, .unset, .unset, .unset, .unset, .unset, .unset, .unset, .unset, .unset, .unset, .unset] [(.int p0)])) _
      refine XS.iconst X0.here hx rfl (hb hby at_19) ?_
      show Steps p.tables e below (s₁.setTop (mkF m 20 #[.val (.int p0), .val (.int p1), .val (.int p2), .val (.int p3), .val (.int p4), .val (.int p5), .val (.int ka), .unset, .unset, .unset, .unset, .unset, .unset, .unset, .unset, .unset, .unset, .unset, .unset, .unset, .unset, .unset, .unset] [(.int (3 : Int32)), (.int p0)])) _
      refine XS.iushr X0.here hx rfl (hb hby at_20) rfl ?_
      show Steps p.tables e below (s₁.setTop (mkF m 21 #[.val (.int p0), .val (.int p1), .val (.int p2), .val (.int p3), .val (.int p4), .val (.int p5), .val (.int ka), .unset, .unset, .unset, .unset, .unset, .unset, .unset, .unset, .unset, .unset, .unset, .unset, .unset, .unset, .unset, .unset] [(.int ((p0.toUInt32 >>> ((3 : Int32) &&& 31).toUInt32).toInt32))])) _
      refine XS.iconst X0.here hx rfl (hb hby at_21) ?_
      show Steps p.tables e below (s₁.setTop (mkF m 22 #[.val (.int p0), .val (.int p1), .val (.int p2), .val (.int p3), .val (.int p4), .val (.int p5), .val (.int ka), .unset, .unset, .unset, .unset, .unset, .unset, .unset, .unset, .unset, .unset, .unset, .unset, .unset, .unset, .unset, .unset] [(.int (3 : Int32)), (.int ((p0.toUInt32 >>> ((3 : Int32) &&& 31).toUInt32).toInt32))])) _
      refine XS.iand X0.here hx rfl (hb hby at_22) rfl ?_
      show Steps p.tables e below (s₁.setTop (mkF m 23 #[.val (.int p0), .val (.int p1), .val (.int p2), .val (.int p3), .val (.int p4), .val (.int p5), .val (.int ka), .unset, .unset, .unset, .unset, .unset, .unset, .unset, .unset, .unset, .unset, .unset, .unset, .unset, .unset, .unset, .unset] [(.int (((p0.toUInt32 >>> ((3 : Int32) &&& 31).toUInt32).toInt32) &&& (3 : Int32)))])) _
      exact q
    ·
      refine ⟨ka, by rw [if_neg hm4], fun t q => k3 t (?_)⟩
      refine XS.ifNo X0.here hx rfl (hb hby at_10) rfl ((if0 _ _).trans (feq hm4).1) ?_
      show Steps p.tables e below (s₁.setTop (mkF m 13 #[.val (.int p0), .val (.int p1), .val (.int p2), .val (.int p3), .val (.int p4), .val (.int p5), .val (.int ka), .unset, .unset, .unset, .unset, .unset, .unset, .unset, .unset, .unset, .unset, .unset, .unset, .unset, .unset, .unset, .unset] [])) _
      refine XS.iload X0.here hx rfl (hb hby at_13) rfl ?_
      show Steps p.tables e below (s₁.setTop (mkF m 15 #[.val (.int p0), .val (.int p1), .val (.int p2), .val (.int p3), .val (.int p4), .val (.int p5), .val (.int ka), .unset, .unset, .unset, .unset, .unset, .unset, .unset, .unset, .unset, .unset, .unset, .unset, .unset, .unset, .unset, .unset] [(.int ka)])) _
      refine XS.goto X0.here hx rfl (pc0 := 15) (pc' := 23) rfl (hb hby at_15) (by decide) (by decide) ?_
      show Steps p.tables e below (s₁.setTop (mkF m 23 #[.val (.int p0), .val (.int p1), .val (.int p2), .val (.int p3), .val (.int p4), .val (.int p5), .val (.int ka), .unset, .unset, .unset, .unset, .unset, .unset, .unset, .unset, .unset, .unset, .unset, .unset, .unset, .unset, .unset, .unset] [(.int ka)])) _
      exact q
  have r_kb : 0 ≤ kb.toInt ∧ kb.toInt < 4 := by rw [hkb]; exact own_if (own_r3 _) r_ka
  have k6 : own_To p e below s₁ (mkF m 33 #[.val (.int p0), .val (.int p1), .val (.int p2), .val (.int p3), .val (.int p4), .val (.int p5), .val (.int ka), .val (.int kb), .val (.int ((p1 &&& (255 : Int32)).toUInt32.toUInt16.toUInt32.toInt32)), .unset, .unset, .unset, .unset, .unset, .unset, .unset, .unset, .unset, .unset, .unset, .unset, .unset, .unset] []) s₁ (mkF m 0 #[.val (.int p0), .val (.int p1), .val (.int p2), .val (.int p3), .val (.int p4), .val (.int p5), .unset, .unset, .unset, .unset, .unset, .unset, .unset, .unset, .unset, .unset, .unset, .unset, .unset, .unset, .unset, .unset, .unset] []) := fun t q => k5 t (by
    refine XS.istore X0.here hx rfl (hb hby at_23) rfl (l' := #[.val (.int p0), .val (.int p1), .val (.int p2), .val (.int p3), .val (.int p4), .val (.int p5), .val (.int ka), .val (.int kb), .unset, .unset, .unset, .unset, .unset, .unset, .unset, .unset, .unset, .unset, .unset, .unset, .unset, .unset, .unset]) rfl ?_
    show Steps p.tables e below (s₁.setTop (mkF m 25 #[.val (.int p0), .val (.int p1), .val (.int p2), .val (.int p3), .val (.int p4), .val (.int p5), .val (.int ka), .val (.int kb), .unset, .unset, .unset, .unset, .unset, .unset, .unset, .unset, .unset, .unset, .unset, .unset, .unset, .unset, .unset] [])) _
    refine XS.iloadN X0.here hx rfl (hb hby at_25) rfl ?_
    show Steps p.tables e below (s₁.setTop (mkF m 26 #[.val (.int p0), .val (.int p1), .val (.int p2), .val (.int p3), .val (.int p4), .val (.int p5), .val (.int ka), .val (.int kb), .unset, .unset, .unset, .unset, .unset, .unset, .unset, .unset, .unset, .unset, .unset, .unset, .unset, .unset, .unset] [(.int p1)])) _
    refine XS.sipush X0.here hx rfl (hb hby at_26) ?_
    show Steps p.tables e below (s₁.setTop (mkF m 29 #[.val (.int p0), .val (.int p1), .val (.int p2), .val (.int p3), .val (.int p4), .val (.int p5), .val (.int ka), .val (.int kb), .unset, .unset, .unset, .unset, .unset, .unset, .unset, .unset, .unset, .unset, .unset, .unset, .unset, .unset, .unset] [(.int (255 : Int32)), (.int p1)])) _
    refine XS.iand X0.here hx rfl (hb hby at_29) rfl ?_
    show Steps p.tables e below (s₁.setTop (mkF m 30 #[.val (.int p0), .val (.int p1), .val (.int p2), .val (.int p3), .val (.int p4), .val (.int p5), .val (.int ka), .val (.int kb), .unset, .unset, .unset, .unset, .unset, .unset, .unset, .unset, .unset, .unset, .unset, .unset, .unset, .unset, .unset] [(.int (p1 &&& (255 : Int32)))])) _
    refine XS.i2c X0.here hx rfl (hb hby at_30) rfl ?_
    show Steps p.tables e below (s₁.setTop (mkF m 31 #[.val (.int p0), .val (.int p1), .val (.int p2), .val (.int p3), .val (.int p4), .val (.int p5), .val (.int ka), .val (.int kb), .unset, .unset, .unset, .unset, .unset, .unset, .unset, .unset, .unset, .unset, .unset, .unset, .unset, .unset, .unset] [(.int ((p1 &&& (255 : Int32)).toUInt32.toUInt16.toUInt32.toInt32))])) _
    refine XS.istore X0.here hx rfl (hb hby at_31) rfl (l' := #[.val (.int p0), .val (.int p1), .val (.int p2), .val (.int p3), .val (.int p4), .val (.int p5), .val (.int ka), .val (.int kb), .val (.int ((p1 &&& (255 : Int32)).toUInt32.toUInt16.toUInt32.toInt32)), .unset, .unset, .unset, .unset, .unset, .unset, .unset, .unset, .unset, .unset, .unset, .unset, .unset, .unset]) rfl ?_
    show Steps p.tables e below (s₁.setTop (mkF m 33 #[.val (.int p0), .val (.int p1), .val (.int p2), .val (.int p3), .val (.int p4), .val (.int p5), .val (.int ka), .val (.int kb), .val (.int ((p1 &&& (255 : Int32)).toUInt32.toUInt16.toUInt32.toInt32)), .unset, .unset, .unset, .unset, .unset, .unset, .unset, .unset, .unset, .unset, .unset, .unset, .unset, .unset] [])) _
    exact q)
  obtain ⟨c0, q_c0⟩ : ∃ z, ((p1 &&& (255 : Int32)).toUInt32.toUInt16.toUInt32.toInt32) = z := ⟨_, rfl⟩
  have r_c0 : 0 ≤ c0.toInt ∧ c0.toInt < 256 := by rw [← q_c0]; exact own_r8 _
  have k7 : own_To p e below s₁ (mkF m 33 #[.val (.int p0), .val (.int p1), .val (.int p2), .val (.int p3), .val (.int p4), .val (.int p5), .val (.int ka), .val (.int kb), .val (.int c0), .unset, .unset, .unset, .unset, .unset, .unset, .unset, .unset, .unset, .unset, .unset, .unset, .unset, .unset] []) s₁ (mkF m 0 #[.val (.int p0), .val (.int p1), .val (.int p2), .val (.int p3), .val (.int p4), .val (.int p5), .unset, .unset, .unset, .unset, .unset, .unset, .unset, .unset, .unset, .unset, .unset, .unset, .unset, .unset, .unset, .unset, .unset] []) := by rw [q_c0] at k6; exact k6
  have k8 : own_To p e below s₁ (mkF m 44 #[.val (.int p0), .val (.int p1), .val (.int p2), .val (.int p3), .val (.int p4), .val (.int p5), .val (.int ka), .val (.int kb), .val (.int c0), .val (.int ((((p1.toUInt32 >>> ((8 : Int32) &&& 31).toUInt32).toInt32) &&& (255 : Int32)).toUInt32.toUInt16.toUInt32.toInt32)), .unset, .unset, .unset, .unset, .unset, .unset, .unset, .unset, .unset, .unset, .unset, .unset, .unset] []) s₁ (mkF m 0 #[.val (.int p0), .val (.int p1), .val (.int p2), .val (.int p3), .val (.int p4), .val (.int p5), .unset, .unset, .unset, .unset, .unset, .unset, .unset, .unset, .unset, .unset, .unset, .unset, .unset, .unset, .unset, .unset, .unset] []) := fun t q => k7 t (by
    refine XS.iloadN X0.here hx rfl (hb hby at_33) rfl ?_
    show Steps p.tables e below (s₁.setTop (mkF m 34 #[.val (.int p0), .val (.int p1), .val (.int p2), .val (.int p3), .val (.int p4), .val (.int p5), .val (.int ka), .val (.int kb), .val (.int c0), .unset, .unset, .unset, .unset, .unset, .unset, .unset, .unset, .unset, .unset, .unset, .unset, .unset, .unset] [(.int p1)])) _
    refine XS.bipush X0.here hx rfl (hb hby at_34) ?_
    show Steps p.tables e below (s₁.setTop (mkF m 36 #[.val (.int p0), .val (.int p1), .val (.int p2), .val (.int p3), .val (.int p4), .val (.int p5), .val (.int ka), .val (.int kb), .val (.int c0), .unset, .unset, .unset, .unset, .unset, .unset, .unset, .unset, .unset, .unset, .unset, .unset, .unset, .unset] [(.int (8 : Int32)), (.int p1)])) _
    refine XS.iushr X0.here hx rfl (hb hby at_36) rfl ?_
    show Steps p.tables e below (s₁.setTop (mkF m 37 #[.val (.int p0), .val (.int p1), .val (.int p2), .val (.int p3), .val (.int p4), .val (.int p5), .val (.int ka), .val (.int kb), .val (.int c0), .unset, .unset, .unset, .unset, .unset, .unset, .unset, .unset, .unset, .unset, .unset, .unset, .unset, .unset] [(.int ((p1.toUInt32 >>> ((8 : Int32) &&& 31).toUInt32).toInt32))])) _
    refine XS.sipush X0.here hx rfl (hb hby at_37) ?_
    show Steps p.tables e below (s₁.setTop (mkF m 40 #[.val (.int p0), .val (.int p1), .val (.int p2), .val (.int p3), .val (.int p4), .val (.int p5), .val (.int ka), .val (.int kb), .val (.int c0), .unset, .unset, .unset, .unset, .unset, .unset, .unset, .unset, .unset, .unset, .unset, .unset, .unset, .unset] [(.int (255 : Int32)), (.int ((p1.toUInt32 >>> ((8 : Int32) &&& 31).toUInt32).toInt32))])) _
    refine XS.iand X0.here hx rfl (hb hby at_40) rfl ?_
    show Steps p.tables e below (s₁.setTop (mkF m 41 #[.val (.int p0), .val (.int p1), .val (.int p2), .val (.int p3), .val (.int p4), .val (.int p5), .val (.int ka), .val (.int kb), .val (.int c0), .unset, .unset, .unset, .unset, .unset, .unset, .unset, .unset, .unset, .unset, .unset, .unset, .unset, .unset] [(.int (((p1.toUInt32 >>> ((8 : Int32) &&& 31).toUInt32).toInt32) &&& (255 : Int32)))])) _
    refine XS.i2c X0.here hx rfl (hb hby at_41) rfl ?_
    show Steps p.tables e below (s₁.setTop (mkF m 42 #[.val (.int p0), .val (.int p1), .val (.int p2), .val (.int p3), .val (.int p4), .val (.int p5), .val (.int ka), .val (.int kb), .val (.int c0), .unset, .unset, .unset, .unset, .unset, .unset, .unset, .unset, .unset, .unset, .unset, .unset, .unset, .unset] [(.int ((((p1.toUInt32 >>> ((8 : Int32) &&& 31).toUInt32).toInt32) &&& (255 : Int32)).toUInt32.toUInt16.toUInt32.toInt32))])) _
    refine XS.istore X0.here hx rfl (hb hby at_42) rfl (l' := #[.val (.int p0), .val (.int p1), .val (.int p2), .val (.int p3), .val (.int p4), .val (.int p5), .val (.int ka), .val (.int kb), .val (.int c0), .val (.int ((((p1.toUInt32 >>> ((8 : Int32) &&& 31).toUInt32).toInt32) &&& (255 : Int32)).toUInt32.toUInt16.toUInt32.toInt32)), .unset, .unset, .unset, .unset, .unset, .unset, .unset, .unset, .unset, .unset, .unset, .unset, .unset]) rfl ?_
    show Steps p.tables e below (s₁.setTop (mkF m 44 #[.val (.int p0), .val (.int p1), .val (.int p2), .val (.int p3), .val (.int p4), .val (.int p5), .val (.int ka), .val (.int kb), .val (.int c0), .val (.int ((((p1.toUInt32 >>> ((8 : Int32) &&& 31).toUInt32).toInt32) &&& (255 : Int32)).toUInt32.toUInt16.toUInt32.toInt32)), .unset, .unset, .unset, .unset, .unset, .unset, .unset, .unset, .unset, .unset, .unset, .unset, .unset] [])) _
    exact q)
  obtain ⟨c1, q_c1⟩ : ∃ z, ((((p1.toUInt32 >>> ((8 : Int32) &&& 31).toUInt32).toInt32) &&& (255 : Int32)).toUInt32.toUInt16.toUInt32.toInt32) = z := ⟨_, rfl⟩
  have r_c1 : 0 ≤ c1.toInt ∧ c1.toInt < 256 := by rw [← q_c1]; exact own_r8 _
  have k9 : own_To p e below s₁ (mkF m 44 #[.val (.int p0), .val (.int p1), .val (.int p2), .val (.int p3), .val (.int p4), .val (.int p5), .val (.int ka), .val (.int kb), .val (.int c0), .val (.int c1), .unset, .unset, .unset, .unset, .unset, .unset, .unset, .unset, .unset, .unset, .unset, .unset, .unset] []) s₁ (mkF m 0 #[.val (.int p0), .val (.int p1), .val (.int p2), .val (.int p3), .val (.int p4), .val (.int p5), .unset, .unset, .unset, .unset, .unset, .unset, .unset, .unset, .unset, .unset, .unset, .unset, .unset, .unset, .unset, .unset, .unset] []) := by rw [q_c1] at k8; exact k8
  obtain ⟨_, _, ⟨T10, L10, kk10, n10⟩, -, X10, ⟨Lc10, hQ10, l10, y10, z10⟩, st10⟩ := Jvm.LawKit.callS X0 hx (y := (⟨"java/lang/Math", "min", "(II)I"⟩ : MethodName)) hown (mvT hZ (hw _ (List.mem_of_getElem? (i := 0) rfl))) (mvT hZ (hw _ (List.mem_of_getElem? (i := 1) rfl))) (mvT hZ (hw _ (List.mem_of_getElem? (i := 2) rfl))) (mvT hZ (hw _ (List.mem_of_getElem? (i := 3) rfl))) (by decide) (backOf (W := 0) (rm1 l Z a0 hw [] (((p1.toUInt32 >>> ((16 : Int32) &&& 31).toUInt32).toInt32) &&& (3 : Int32)) (2 : Int32) h0 n0 Z0) hZ (hw _ (List.mem_of_getElem? (i := 3) rfl)) (hw _ (List.mem_of_getElem? (i := 2) rfl)) (by decide) (by decide)) (g := (mkF m 51 #[.val (.int p0), .val (.int p1), .val (.int p2), .val (.int p3), .val (.int p4), .val (.int p5), .val (.int ka), .val (.int kb), .val (.int c0), .val (.int c1), .unset, .unset, .unset, .unset, .unset, .unset, .unset, .unset, .unset, .unset, .unset, .unset, .unset] [(.int (2 : Int32)), (.int (((p1.toUInt32 >>> ((16 : Int32) &&& 31).toUInt32).toInt32) &&& (3 : Int32)))])) rfl (by rw [hml]; rfl) (argsL := [(.int (((p1.toUInt32 >>> ((16 : Int32) &&& 31).toUInt32).toInt32) &&& (3 : Int32))), (.int (2 : Int32))]) (rest := []) (lenOf own_pd3 rfl) rfl (by show 2 * 0 + _ ≤ _; exact Nat.le_of_eq rfl) (hb hby at_51) (fun _ _ => ⟨rfl, e0, (by decide : 0 + 0 ≤ _), (by decide : 0 + 0 ≤ _)⟩)
  dsimp only [Pt.U, Pt.locs, Pt.cells, Pt.slots] at X10 l10 y10 z10 st10 hQ10
  subst l10 y10 z10
  obtain ⟨rfl, N10q, e10⟩ := hQ10
  have N10 := Fr.app N0 N10q
  have k11 : own_To p e below T10 (mkF m 56 #[.val (.int p0), .val (.int p1), .val (.int p2), .val (.int p3), .val (.int p4), .val (.int p5), .val (.int ka), .val (.int kb), .val (.int c0), .val (.int c1), .val (.int (own_min (((p1.toUInt32 >>> ((16 : Int32) &&& 31).toUInt32).toInt32) &&& (3 : Int32)) (2 : Int32))), .unset, .unset, .unset, .unset, .unset, .unset, .unset, .unset, .unset, .unset, .unset, .unset] []) s₁ (mkF m 0 #[.val (.int p0), .val (.int p1), .val (.int p2), .val (.int p3), .val (.int p4), .val (.int p5), .unset, .unset, .unset, .unset, .unset, .unset, .unset, .unset, .unset, .unset, .unset, .unset, .unset, .unset, .unset, .unset, .unset] []) := fun t q => k9 t (by
    refine XS.iloadN X0.here hx rfl (hb hby at_44) rfl ?_
    show Steps p.tables e below (s₁.setTop (mkF m 45 #[.val (.int p0), .val (.int p1), .val (.int p2), .val (.int p3), .val (.int p4), .val (.int p5), .val (.int ka), .val (.int kb), .val (.int c0), .val (.int c1), .unset, .unset, .unset, .unset, .unset, .unset, .unset, .unset, .unset, .unset, .unset, .unset, .unset] [(.int p1)])) _
    refine XS.bipush X0.here hx rfl (hb hby at_45) ?_
    show Steps p.tables e below (s₁.setTop (mkF m 47 #[.val (.int p0), .val (.int p1), .val (.int p2), .val (.int p3), .val (.int p4), .val (.int p5), .val (.int ka), .val (.int kb), .val (.int c0), .val (.int c1), .unset, .unset, .unset, .unset, .unset, .unset, .unset, .unset, .unset, .unset, .unset, .unset, .unset] [(.int (16 : Int32)), (.int p1)])) _
    refine XS.iushr X0.here hx rfl (hb hby at_47) rfl ?_
    show Steps p.tables e below (s₁.setTop (mkF m 48 #[.val (.int p0), .val (.int p1), .val (.int p2), .val (.int p3), .val (.int p4), .val (.int p5), .val (.int ka), .val (.int kb), .val (.int c0), .val (.int c1), .unset, .unset, .unset, .unset, .unset, .unset, .unset, .unset, .unset, .unset, .unset, .unset, .unset] [(.int ((p1.toUInt32 >>> ((16 : Int32) &&& 31).toUInt32).toInt32))])) _
    refine XS.iconst X0.here hx rfl (hb hby at_48) ?_
    show Steps p.tables e below (s₁.setTop (mkF m 49 #[.val (.int p0), .val (.int p1), .val (.int p2), .val (.int p3), .val (.int p4), .val (.int p5), .val (.int ka), .val (.int kb), .val (.int c0), .val (.int c1), .unset, .unset, .unset, .unset, .unset, .unset, .unset, .unset, .unset, .unset, .unset, .unset, .unset] [(.int (3 : Int32)), (.int ((p1.toUInt32 >>> ((16 : Int32) &&& 31).toUInt32).toInt32))])) _
    refine XS.iand X0.here hx rfl (hb hby at_49) rfl ?_
    show Steps p.tables e below (s₁.setTop (mkF m 50 #[.val (.int p0), .val (.int p1), .val (.int p2), .val (.int p3), .val (.int p4), .val (.int p5), .val (.int ka), .val (.int kb), .val (.int c0), .val (.int c1), .unset, .unset, .unset, .unset, .unset, .unset, .unset, .unset, .unset, .unset, .unset, .unset, .unset] [(.int (((p1.toUInt32 >>> ((16 : Int32) &&& 31).toUInt32).toInt32) &&& (3 : Int32)))])) _
    refine XS.iconst X0.here hx rfl (hb hby at_50) ?_
    show Steps p.tables e below (s₁.setTop (mkF m 51 #[.val (.int p0), .val (.int p1), .val (.int p2), .val (.int p3), .val (.int p4), .val (.int p5), .val (.int ka), .val (.int kb), .val (.int c0), .val (.int c1), .unset, .unset, .unset, .unset, .unset, .unset, .unset, .unset, .unset, .unset, .unset, .unset, .unset] [(.int (2 : Int32)), (.int (((p1.toUInt32 >>> ((16 : Int32) &&& 31).toUInt32).toInt32) &&& (3 : Int32)))])) _
    refine st10 _ ?_
    show Steps p.tables e below (T10.setTop (mkF m 54 #[.val (.int p0), .val (.int p1), .val (.int p2), .val (.int p3), .val (.int p4), .val (.int p5), .val (.int ka), .val (.int kb), .val (.int c0), .val (.int c1), .unset, .unset, .unset, .unset, .unset, .unset, .unset, .unset, .unset, .unset, .unset, .unset, .unset] [(.int (own_min (((p1.toUInt32 >>> ((16 : Int32) &&& 31).toUInt32).toInt32) &&& (3 : Int32)) (2 : Int32)))])) _
    refine XS.istore X10.here hx rfl (hb hby at_54) rfl (l' := #[.val (.int p0), .val (.int p1), .val (.int p2), .val (.int p3), .val (.int p4), .val (.int p5), .val (.int ka), .val (.int kb), .val (.int c0), .val (.int c1), .val (.int (own_min (((p1.toUInt32 >>> ((16 : Int32) &&& 31).toUInt32).toInt32) &&& (3 : Int32)) (2 : Int32))), .unset, .unset, .unset, .unset, .unset, .unset, .unset, .unset, .unset, .unset, .unset, .unset]) rfl ?_
    show Steps p.tables e below (T10.setTop (mkF m 56 #[.val (.int p0), .val (.int p1), .val (.int p2), .val (.int p3), .val (.int p4), .val (.int p5), .val (.int ka), .val (.int kb), .val (.int c0), .val (.int c1), .val (.int (own_min (((p1.toUInt32 >>> ((16 : Int32) &&& 31).toUInt32).toInt32) &&& (3 : Int32)) (2 : Int32))), .unset, .unset, .unset, .unset, .unset, .unset, .unset, .unset, .unset, .unset, .unset, .unset] [])) _
    exact q)
  obtain ⟨la, q_la⟩ : ∃ z, (own_min (((p1.toUInt32 >>> ((16 : Int32) &&& 31).toUInt32).toInt32) &&& (3 : Int32)) (2 : Int32)) = z := ⟨_, rfl⟩
  have r_la : 0 ≤ la.toInt ∧ la.toInt < 3 := by rw [← q_la]; exact own_r2 _
  have k12 : own_To p e below T10 (mkF m 56 #[.val (.int p0), .val (.int p1), .val (.int p2), .val (.int p3), .val (.int p4), .val (.int p5), .val (.int ka), .val (.int kb), .val (.int c0), .val (.int c1), .val (.int la), .unset, .unset, .unset, .unset, .unset, .unset, .unset, .unset, .unset, .unset, .unset, .unset] []) s₁ (mkF m 0 #[.val (.int p0), .val (.int p1), .val (.int p2), .val (.int p3), .val (.int p4), .val (.int p5), .unset, .unset, .unset, .unset, .unset, .unset, .unset, .unset, .unset, .unset, .unset, .unset, .unset, .unset, .unset, .unset, .unset] []) := by rw [q_la] at k11; exact k11
  have k13 : own_To p e below T10 (mkF m 62 #[.val (.int p0), .val (.int p1), .val (.int p2), .val (.int p3), .val (.int p4), .val (.int p5), .val (.int ka), .val (.int kb), .val (.int c0), .val (.int c1), .val (.int la), .unset, .unset, .unset, .unset, .unset, .unset, .unset, .unset, .unset, .unset, .unset, .unset] [(.int (((p1.toUInt32 >>> ((18 : Int32) &&& 31).toUInt32).toInt32) &&& (1 : Int32)))]) s₁ (mkF m 0 #[.val (.int p0), .val (.int p1), .val (.int p2), .val (.int p3), .val (.int p4), .val (.int p5), .unset, .unset, .unset, .unset, .unset, .unset, .unset, .unset, .unset, .unset, .unset, .unset, .unset, .unset, .unset, .unset, .unset] []) := fun t q => k12 t (by
    refine XS.iloadN X10.here hx rfl (hb hby at_56) rfl ?_
    show Steps p.tables e below (T10.setTop (mkF m 57 #[.val (.int p0), .val (.int p1), .val (.int p2), .val (.int p3), .val (.int p4), .val (.int p5), .val (.int ka), .val (.int kb), .val (.int c0), .val (.int c1), .val (.int la), .unset, .unset, .unset, .unset, .unset, .unset, .unset, .unset, .unset, .unset, .unset, .unset] [(.int p1)])) _
    refine XS.bipush X10.here hx rfl (hb hby at_57) ?_
    show Steps p.tables e below (T10.setTop (mkF m 59 #[.val (.int p0), .val (.int p1), .val (.int p2), .val (.int p3), .val (.int p4), .val (.int p5), .val (.int ka), .val (.int kb), .val (.int c0), .val (.int c1), .val (.int la), .unset, .unset, .unset, .unset, .unset, .unset, .unset, .unset, .unset, .unset, .unset, .unset] [(.int (18 : Int32)), (.int p1)])) _
    refine XS.iushr X10.here hx rfl (hb hby at_59) rfl ?_
    show Steps p.tables e below (T10.setTop (mkF m 60 #[.val (.int p0), .val (.int p1), .val (.int p2), .val (.int p3), .val (.int p4), .val (.int p5), .val (.int ka), .val (.int kb), .val (.int c0), .val (.int c1), .val (.int la), .unset, .unset, .unset, .unset, .unset, .unset, .unset, .unset, .unset, .unset, .unset, .unset] [(.int ((p1.toUInt32 >>> ((18 : Int32) &&& 31).toUInt32).toInt32))])) _
    refine XS.iconst X10.here hx rfl (hb hby at_60) ?_
    show Steps p.tables e below (T10.setTop (mkF m 61 #[.val (.int p0), .val (.int p1), .val (.int p2), .val (.int p3), .val (.int p4), .val (.int p5), .val (.int ka), .val (.int kb), .val (.int c0), .val (.int c1), .val (.int la), .unset, .unset, .unset, .unset, .unset, .unset, .unset, .unset, .unset, .unset, .unset, .unset] [(.int (1 : Int32)), (.int ((p1.toUInt32 >>> ((18 : Int32) &&& 31).toUInt32).toInt32))])) _
    refine XS.iand X10.here hx rfl (hb hby at_61) rfl ?_
    show Steps p.tables e below (T10.setTop (mkF m 62 #[.val (.int p0), .val (.int p1), .val (.int p2), .val (.int p3), .val (.int p4), .val (.int p5), .val (.int ka), .val (.int kb), .val (.int c0), .val (.int c1), .val (.int la), .unset, .unset, .unset, .unset, .unset, .unset, .unset, .unset, .unset, .unset, .unset, .unset] [(.int (((p1.toUInt32 >>> ((18 : Int32) &&& 31).toUInt32).toInt32) &&& (1 : Int32)))])) _
    exact q)
  by_cases hc14 : (((p1.toUInt32 >>> ((18 : Int32) &&& 31).toUInt32).toInt32) &&& (1 : Int32)) = (0 : Int32)
  ·
    obtain ⟨_, _, ⟨T15, L15, kk15, n15⟩, -, X15, ⟨Lc15, hQ15, l15, y15, z15⟩, st15⟩ := Jvm.LawKit.callS X10 hx (y := (⟨"java/lang/Math", "min", "(II)I"⟩ : MethodName)) hown (mvT hZ (hw _ (List.mem_of_getElem? (i := 0) rfl))) (mvT hZ (hw _ (List.mem_of_getElem? (i := 1) rfl))) (mvT hZ (hw _ (List.mem_of_getElem? (i := 2) rfl))) (mvT hZ (hw _ (List.mem_of_getElem? (i := 3) rfl))) (by decide) (backOf (W := 0) (rm1 l Z a0 hw [] (((p1.toUInt32 >>> ((19 : Int32) &&& 31).toUInt32).toInt32) &&& (3 : Int32)) (2 : Int32) h0 n0 Z0) hZ (hw _ (List.mem_of_getElem? (i := 3) rfl)) (hw _ (List.mem_of_getElem? (i := 2) rfl)) (by decide) (by decide)) (g := (mkF m 77 #[.val (.int p0), .val (.int p1), .val (.int p2), .val (.int p3), .val (.int p4), .val (.int p5), .val (.int ka), .val (.int kb), .val (.int c0), .val (.int c1), .val (.int la), .unset, .unset, .unset, .unset, .unset, .unset, .unset, .unset, .unset, .unset, .unset, .unset] [(.int (2 : Int32)), (.int (((p1.toUInt32 >>> ((19 : Int32) &&& 31).toUInt32).toInt32) &&& (3 : Int32)))])) rfl (by rw [hml]; rfl) (argsL := [(.int (((p1.toUInt32 >>> ((19 : Int32) &&& 31).toUInt32).toInt32) &&& (3 : Int32))), (.int (2 : Int32))]) (rest := []) (lenOf own_pd3 rfl) rfl (by show 2 * 0 + _ ≤ _; exact Nat.le_of_eq rfl) (hb hby at_77) (fun _ _ => ⟨rfl, e10, (by decide : 0 + 0 ≤ _), (by decide : 0 + 0 ≤ _)⟩)
    dsimp only [Pt.U, Pt.locs, Pt.cells, Pt.slots] at X15 l15 y15 z15 st15 hQ15
    subst l15 y15 z15
    obtain ⟨rfl, N15q, e15⟩ := hQ15
    have N15 := Fr.app N10 N15q
    have k16 : own_To p e below T15 (mkF m 82 #[.val (.int p0), .val (.int p1), .val (.int p2), .val (.int p3), .val (.int p4), .val (.int p5), .val (.int ka), .val (.int kb), .val (.int c0), .val (.int c1), .val (.int la), .val (.int (own_min (((p1.toUInt32 >>> ((19 : Int32) &&& 31).toUInt32).toInt32) &&& (3 : Int32)) (2 : Int32))), .unset, .unset, .unset, .unset, .unset, .unset, .unset, .unset, .unset, .unset, .unset] []) s₁ (mkF m 0 #[.val (.int p0), .val (.int p1), .val (.int p2), .val (.int p3), .val (.int p4), .val (.int p5), .unset, .unset, .unset, .unset, .unset, .unset, .unset, .unset, .unset, .unset, .unset, .unset, .unset, .unset, .unset, .unset, .unset] []) := fun t q => k13 t (by
      refine XS.ifYes X10.here hx rfl (pc0 := 62) (pc' := 70) rfl (hb hby at_62) rfl ((if0 _ _).trans (teq hc14).1) (by decide) (by decide) ?_
      show Steps p.tables e below (T10.setTop (mkF m 70 #[.val (.int p0), .val (.int p1), .val (.int p2), .val (.int p3), .val (.int p4), .val (.int p5), .val (.int ka), .val (.int kb), .val (.int c0), .val (.int c1), .val (.int la), .unset, .unset, .unset, .unset, .unset, .unset, .unset, .unset, .unset, .unset, .unset, .unset] [])) _
      refine XS.iloadN X10.here hx rfl (hb hby at_70) rfl ?_
      show Steps p.tables e below (T10.setTop (mkF m 71 #[.val (.int p0), .val (.int p1), .val (.int p2), .val (.int p3), .val (.int p4), .val (.int p5), .val (.int ka), .val (.int kb), .val (.int c0), .val (.int c1), .val (.int la), .unset, .unset, .unset, .unset, .unset, .unset, .unset, .unset, .unset, .unset, .unset, .unset] [(.int p1)])) _
      refine XS.bipush X10.here hx rfl (hb hby at_71) ?_
      show Steps p.tables e below (T10.setTop (mkF m 73 #[.val (.int p0), .val (.int p1), .val (.int p2), .val (.int p3), .val (.int p4), .val (.int p5), .val (.int ka), .val (.int kb), .val (.int c0), .val (.int c1), .val (.int la), .unset, .unset, .unset, .unset, .unset, .unset, .unset, .unset, .unset, .unset, .unset, .unset] [(.int (19 : Int32)), (.int p1)])) _
      refine XS.iushr X10.here hx rfl (hb hby at_73) rfl ?_
      show Steps p.tables e below (T10.setTop (mkF m 74 #[.val (.int p0), .val (.int p1), .val (.int p2), .val (.int p3), .val (.int p4), .val (.int p5), .val (.int ka), .val (.int kb), .val (.int c0), .val (.int c1), .val (.int la), .unset, .unset, .unset, .unset, .unset, .unset, .unset, .unset, .unset, .unset, .unset, .unset] [(.int ((p1.toUInt32 >>> ((19 : Int32) &&& 31).toUInt32).toInt32))])) _
      refine XS.iconst X10.here hx rfl (hb hby at_74) ?_
      show Steps p.tables e below (T10.setTop (mkF m 75 #[.val (.int p0), .val (.int p1), .val (.int p2), .val (.int p3), .val (.int p4), .val (.int p5), .val (.int ka), .val (.int kb), .val (.int c0), .val (.int c1), .val (.int la), .unset, .unset, .unset, .unset, .unset, .unset, .unset, .unset, .unset, .unset, .unset, .unset] [(.int (3 : Int32)), (.int ((p1.toUInt32 >>> ((19 : Int32) &&& 31).toUInt32).toInt32))])) _
      refine XS.iand X10.here hx rfl (hb hby at_75) rfl ?_
      show Steps p.tables e below (T10.setTop (mkF m 76 #[.val (.int p0), .val (.int p1), .val (.int p2), .val (.int p3), .val (.int p4), .val (.int p5), .val (.int ka), .val (.int kb), .val (.int c0), .val (.int c1), .val (.int la), .unset, .unset, .unset, .unset, .unset, .unset, .unset, .unset, .unset, .unset, .unset, .unset] [(.int (((p1.toUInt32 >>> ((19 : Int32) &&& 31).toUInt32).toInt32) &&& (3 : Int32)))])) _
      refine XS.iconst X10.here hx rfl (hb hby at_76) ?_
      show Steps p.tables e below (T10.setTop (mkF m 77 #[.val (.int p0), .val (.int p1), .val (.int p2), .val (.int p3), .val (.int p4), .val (.int p5), .val (.int ka), .val (.int kb), .val (.int c0), .val (.int c1), .val (.int la), .unset, .unset, .unset, .unset, .unset, .unset, .unset, .unset, .unset, .unset, .unset, .unset] [(.int (2 : Int32)), (.int (((p1.toUInt32 >>> ((19 : Int32) &&& 31).toUInt32).toInt32) &&& (3 : Int32)))])) _
      refine st15 _ ?_
      show Steps p.tables e below (T15.setTop (mkF m 80 #[.val (.int p0), .val (.int p1), .val (.int p2), .val (.int p3), .val (.int p4), .val (.int p5), .val (.int ka), .val (.int kb), .val (.int c0), .val (.int c1), .val (.int la), .unset, .unset, .unset, .unset, .unset, .unset, .unset, .unset, .unset, .unset, .unset, .unset] [(.int (own_min (((p1.toUInt32 >>> ((19 : Int32) &&& 31).toUInt32).toInt32) &&& (3 : Int32)) (2 : Int32)))])) _
      refine XS.istore X15.here hx rfl (hb hby at_80) rfl (l' := #[.val (.int p0), .val (.int p1), .val (.int p2), .val (.int p3), .val (.int p4), .val (.int p5), .val (.int ka), .val (.int kb), .val (.int c0), .val (.int c1), .val (.int la), .val (.int (own_min (((p1.toUInt32 >>> ((19 : Int32) &&& 31).toUInt32).toInt32) &&& (3 : Int32)) (2 : Int32))), .unset, .unset, .unset, .unset, .unset, .unset, .unset, .unset, .unset, .unset, .unset]) rfl ?_
      show Steps p.tables e below (T15.setTop (mkF m 82 #[.val (.int p0), .val (.int p1), .val (.int p2), .val (.int p3), .val (.int p4), .val (.int p5), .val (.int ka), .val (.int kb), .val (.int c0), .val (.int c1), .val (.int la), .val (.int (own_min (((p1.toUInt32 >>> ((19 : Int32) &&& 31).toUInt32).toInt32) &&& (3 : Int32)) (2 : Int32))), .unset, .unset, .unset, .unset, .unset, .unset, .unset, .unset, .unset, .unset, .unset] [])) _
      exact q)
    obtain ⟨lb, q_lb⟩ : ∃ z, (own_min (((p1.toUInt32 >>> ((19 : Int32) &&& 31).toUInt32).toInt32) &&& (3 : Int32)) (2 : Int32)) = z := ⟨_, rfl⟩
    have r_lb : 0 ≤ lb.toInt ∧ lb.toInt < 3 := by rw [← q_lb]; exact own_r2 _
    have k17 : own_To p e below T15 (mkF m 82 #[.val (.int p0), .val (.int p1), .val (.int p2), .val (.int p3), .val (.int p4), .val (.int p5), .val (.int ka), .val (.int kb), .val (.int c0), .val (.int c1), .val (.int la), .val (.int lb), .unset, .unset, .unset, .unset, .unset, .unset, .unset, .unset, .unset, .unset, .unset] []) s₁ (mkF m 0 #[.val (.int p0), .val (.int p1), .val (.int p2), .val (.int p3), .val (.int p4), .val (.int p5), .unset, .unset, .unset, .unset, .unset, .unset, .unset, .unset, .unset, .unset, .unset, .unset, .unset, .unset, .unset, .unset, .unset] []) := by rw [q_lb] at k16; exact k16
    have k18 : own_To p e below T15 (mkF m 88 #[.val (.int p0), .val (.int p1), .val (.int p2), .val (.int p3), .val (.int p4), .val (.int p5), .val (.int ka), .val (.int kb), .val (.int c0), .val (.int c1), .val (.int la), .val (.int lb), .unset, .unset, .unset, .unset, .unset, .unset, .unset, .unset, .unset, .unset, .unset] [(.int (((p1.toUInt32 >>> ((21 : Int32) &&& 31).toUInt32).toInt32) &&& (1 : Int32)))]) s₁ (mkF m 0 #[.val (.int p0), .val (.int p1), .val (.int p2), .val (.int p3), .val (.int p4), .val (.int p5), .unset, .unset, .unset, .unset, .unset, .unset, .unset, .unset, .unset, .unset, .unset, .unset, .unset, .unset, .unset, .unset, .unset] []) := fun t q => k17 t (by
      refine XS.iloadN X15.here hx rfl (hb hby at_82) rfl ?_
      show Steps p.tables e below (T15.setTop (mkF m 83 #[.val (.int p0), .val (.int p1), .val (.int p2), .val (.int p3), .val (.int p4), .val (.int p5), .val (.int ka), .val (.int kb), .val (.int c0), .val (.int c1), .val (.int la), .val (.int lb), .unset, .unset, .unset, .unset, .unset, .unset, .unset, .unset, .unset, .unset, .unset] [(.int p1)])) _
      refine XS.bipush X15.here hx rfl (hb hby at_83) ?_
      show Steps p.tables e below (T15.setTop (mkF m 85 #[.val (.int p0), .val (.int p1), .val (.int p2), .val (.int p3), .val (.int p4), .val (.int p5), .val (.int ka), .val (.int kb), .val (.int c0), .val (.int c1), .val (.int la), .val (.int lb), .unset, .unset, .unset, .unset, .unset, .unset, .unset, .unset, .unset, .unset, .unset] [(.int (21 : Int32)), (.int p1)])) _
      refine XS.iushr X15.here hx rfl (hb hby at_85) rfl ?_
      show Steps p.tables e below (T15.setTop (mkF m 86 #[.val (.int p0), .val (.int p1), .val (.int p2), .val (.int p3), .val (.int p4), .val (.int p5), .val (.int ka), .val (.int kb), .val (.int c0), .val (.int c1), .val (.int la), .val (.int lb), .unset, .unset, .unset, .unset, .unset, .unset, .unset, .unset, .unset, .unset, .unset] [(.int ((p1.toUInt32 >>> ((21 : Int32) &&& 31).toUInt32).toInt32))])) _
      refine XS.iconst X15.here hx rfl (hb hby at_86) ?_
      show Steps p.tables e below (T15.setTop (mkF m 87 #[.val (.int p0), .val (.int p1), .val (.int p2), .val (.int p3), .val (.int p4), .val (.int p5), .val (.int ka), .val (.int kb), .val (.int c0), .val (.int c1), .val (.int la), .val (.int lb), .unset, .unset, .unset, .unset, .unset, .unset, .unset, .unset, .unset, .unset, .unset] [(.int (1 : Int32)), (.int ((p1.toUInt32 >>> ((21 : Int32) &&& 31).toUInt32).toInt32))])) _
      refine XS.iand X15.here hx rfl (hb hby at_87) rfl ?_
      show Steps p.tables e below (T15.setTop (mkF m 88 #[.val (.int p0), .val (.int p1), .val (.int p2), .val (.int p3), .val (.int p4), .val (.int p5), .val (.int ka), .val (.int kb), .val (.int c0), .val (.int c1), .val (.int la), .val (.int lb), .unset, .unset, .unset, .unset, .unset, .unset, .unset, .unset, .unset, .unset, .unset] [(.int (((p1.toUInt32 >>> ((21 : Int32) &&& 31).toUInt32).toInt32) &&& (1 : Int32)))])) _
      exact q)
    obtain ⟨b0, hb0, k20⟩ : ∃ (b0 : Int32), (b0 = (if (((p1.toUInt32 >>> ((21 : Int32) &&& 31).toUInt32).toInt32) &&& (1 : Int32)) = (0 : Int32) then ((((p1.toUInt32 >>> ((22 : Int32) &&& 31).toUInt32).toInt32) &&& (255 : Int32)).toUInt32.toUInt16.toUInt32.toInt32) else c0)) ∧ own_To p e below T15 (mkF m 105 #[.val (.int p0), .val (.int p1), .val (.int p2), .val (.int p3), .val (.int p4), .val (.int p5), .val (.int ka), .val (.int kb), .val (.int c0), .val (.int c1), .val (.int la), .val (.int lb), .unset, .unset, .unset, .unset, .unset, .unset, .unset, .unset, .unset, .unset, .unset] [(.int b0)]) s₁ (mkF m 0 #[.val (.int p0), .val (.int p1), .val (.int p2), .val (.int p3), .val (.int p4), .val (.int p5), .unset, .unset, .unset, .unset, .unset, .unset, .unset, .unset, .unset, .unset, .unset, .unset, .unset, .unset, .unset, .unset, .unset] []) := by
      by_cases hm19 : (((p1.toUInt32 >>> ((21 : Int32) &&& 31).toUInt32).toInt32) &&& (1 : Int32)) = (0 : Int32)
      ·
        refine ⟨((((p1.toUInt32 >>> ((22 : Int32) &&& 31).toUInt32).toInt32) &&& (255 : Int32)).toUInt32.toUInt16.toUInt32.toInt32), by rw [if_pos hm19], fun t q => k18 t (?_)⟩
        refine XS.ifYes X15.here hx rfl (pc0 := 88) (pc' := 96) rfl (hb hby at_88) rfl ((if0 _ _).trans (teq hm19).1) (by decide) (by decide) ?_
        show Steps p.tables e below (T15.setTop (mkF m 96 #[.val (.int p0), .val (.int p1), .val (.int p2), .val (.int p3), .val (.int p4), .val (.int p5), .val (.int ka), .val (.int kb), .val (.int c0), .val (.int c1), .val (.int la), .val (.int lb), .unset, .unset, .unset, .unset, .unset, .unset, .unset, .unset, .unset, .unset, .unset] [])) _
        refine XS.iloadN X15.here hx rfl (hb hby at_96) rfl ?_
        show Steps p.tables e below (T15.setTop (mkF m 97 #[.val (.int p0), .val (.int p1), .val (.int p2), .val (.int p3), .val (.int p4), .val (.int p5), .val (.int ka), .val (.int kb), .val (.int c0), .val (.int c1), .val (.int la), .val (.int lb), .unset, .unset, .unset, .unset, .unset, .unset, .unset, .unset, .unset, .unset, .unset] [(.int p1)])) _
        refine XS.bipush X15.here hx rfl (hb hby at_97) ?_
        show Steps p.tables e below (T15.setTop (mkF m 99 #[.val (.int p0), .val (.int p1), .val (.int p2), .val (.int p3), .val (.int p4), .val (.int p5), .val (.int ka), .val (.int kb), .val (.int c0), .val (.int c1), .val (.int la), .val (.int lb), .unset, .unset, .unset, .unset, .unset, .unset, .unset, .unset, .unset, .unset, .unset] [(.int (22 : Int32)), (.int p1)])) _
        refine XS.iushr X15.here hx rfl (hb hby at_99) rfl ?_
        show Steps p.tables e below (T15.setTop (mkF m 100 #[.val (.int p0), .val (.int p1), .val (.int p2), .val (.int p3), .val (.int p4), .val (.int p5), .val (.int ka), .val (.int kb), .val (.int c0), .val (.int c1), .val (.int la), .val (.int lb), .unset, .unset, .unset, .unset, .unset, .unset, .unset, .unset, .unset, .unset, .unset] [(.int ((p1.toUInt32 >>> ((22 : Int32) &&& 31).toUInt32).toInt32))])) _
        refine XS.sipush X15.here hx rfl (hb hby at_100) ?_
        show Steps p.tables e below (T15.setTop (mkF m 103 #[.val (.int p0), .val (.int p1), .val (.int p2), .val (.int p3), .val (.int p4), .val (.int p5), .val (.int ka), .val (.int kb), .val (.int c0), .val (.int c1), .val (.int la), .val (.int lb), .unset, .unset, .unset, .unset, .unset, .unset, .unset, .unset, .unset, .unset, .unset] [(.int (255 : Int32)), (.int ((p1.toUInt32 >>> ((22 : Int32) &&& 31).toUInt32).toInt32))])) _
        refine XS.iand X15.here hx rfl (hb hby at_103) rfl ?_
        show Steps p.tables e below (T15.setTop (mkF m 104 #[.val (.int p0), .val (.int p1), .val (.int p2), .val (.int p3), .val (.int p4), .val (.int p5), .val (.int ka), .val (.int kb), .val (.int c0), .val (.int c1), .val (.int la), .val (.int lb), .unset, .unset, .unset, .unset, .unset, .unset, .unset, .unset, .unset, .unset, .unset] [(.int (((p1.toUInt32 >>> ((22 : Int32) &&& 31).toUInt32).toInt32) &&& (255 : Int32)))])) _
        refine XS.i2c X15.here hx rfl (hb hby at_104) rfl ?_
        show Steps p.tables e below (T15.setTop (mkF m 105 #[.val (.int p0), .val (.int p1), .val (.int p2), .val (.int p3), .val (.int p4), .val (.int p5), .val (.int ka), .val (.int kb), .val (.int c0), .val (.int c1), .val (.int la), .val (.int lb), .unset, .unset, .unset, .unset, .unset, .unset, .unset, .unset, .unset, .unset, .unset] [(.int ((((p1.toUInt32 >>> ((22 : Int32) &&& 31).toUInt32).toInt32) &&& (255 : Int32)).toUInt32.toUInt16.toUInt32.toInt32))])) _
        exact q
      ·
        refine ⟨c0, by rw [if_neg hm19], fun t q => k18 t (?_)⟩
        refine XS.ifNo X15.here hx rfl (hb hby at_88) rfl ((if0 _ _).trans (feq hm19).1) ?_
        show Steps p.tables e below (T15.setTop (mkF m 91 #[.val (.int p0), .val (.int p1), .val (.int p2), .val (.int p3), .val (.int p4), .val (.int p5), .val (.int ka), .val (.int kb), .val (.int c0), .val (.int c1), .val (.int la), .val (.int lb), .unset, .unset, .unset, .unset, .unset, .unset, .unset, .unset, .unset, .unset, .unset] [])) _
        refine XS.iload X15.here hx rfl (hb hby at_91) rfl ?_
        show Steps p.tables e below (T15.setTop (mkF m 93 #[.val (.int p0), .val (.int p1), .val (.int p2), .val (.int p3), .val (.int p4), .val (.int p5), .val (.int ka), .val (.int kb), .val (.int c0), .val (.int c1), .val (.int la), .val (.int lb), .unset, .unset, .unset, .unset, .unset, .unset, .unset, .unset, .unset, .unset, .unset] [(.int c0)])) _
        refine XS.goto X15.here hx rfl (pc0 := 93) (pc' := 105) rfl (hb hby at_93) (by decide) (by decide) ?_
        show Steps p.tables e below (T15.setTop (mkF m 105 #[.val (.int p0), .val (.int p1), .val (.int p2), .val (.int p3), .val (.int p4), .val (.int p5), .val (.int ka), .val (.int kb), .val (.int c0), .val (.int c1), .val (.int la), .val (.int lb), .unset, .unset, .unset, .unset, .unset, .unset, .unset, .unset, .unset, .unset, .unset] [(.int c0)])) _
        exact q
    have r_b0 : 0 ≤ b0.toInt ∧ b0.toInt < 256 := by rw [hb0]; exact own_if (own_r8 _) r_c0
    have k21 : own_To p e below T15 (mkF m 112 #[.val (.int p0), .val (.int p1), .val (.int p2), .val (.int p3), .val (.int p4), .val (.int p5), .val (.int ka), .val (.int kb), .val (.int c0), .val (.int c1), .val (.int la), .val (.int lb), .val (.int b0), .unset, .unset, .unset, .unset, .unset, .unset, .unset, .unset, .unset, .unset] [(.int (((p0.toUInt32 >>> ((5 : Int32) &&& 31).toUInt32).toInt32) &&& (1 : Int32)))]) s₁ (mkF m 0 #[.val (.int p0), .val (.int p1), .val (.int p2), .val (.int p3), .val (.int p4), .val (.int p5), .unset, .unset, .unset, .unset, .unset, .unset, .unset, .unset, .unset, .unset, .unset, .unset, .unset, .unset, .unset, .unset, .unset] []) := fun t q => k20 t (by
      refine XS.istore X15.here hx rfl (hb hby at_105) rfl (l' := #[.val (.int p0), .val (.int p1), .val (.int p2), .val (.int p3), .val (.int p4), .val (.int p5), .val (.int ka), .val (.int kb), .val (.int c0), .val (.int c1), .val (.int la), .val (.int lb), .val (.int b0), .unset, .unset, .unset, .unset, .unset, .unset, .unset, .unset, .unset, .unset]) rfl ?_
      show Steps p.tables e below (T15.setTop (mkF m 107 #[.val (.int p0), .val (.int p1), .val (.int p2), .val (.int p3), .val (.int p4), .val (.int p5), .val (.int ka), .val (.int kb), .val (.int c0), .val (.int c1), .val (.int la), .val (.int lb), .val (.int b0), .unset, .unset, .unset, .unset, .unset, .unset, .unset, .unset, .unset, .unset] [])) _
      refine XS.iloadN X15.here hx rfl (hb hby at_107) rfl ?_
      show Steps p.tables e below (T15.setTop (mkF m 108 #[.val (.int p0), .val (.int p1), .val (.int p2), .val (.int p3), .val (.int p4), .val (.int p5), .val (.int ka), .val (.int kb), .val (.int c0), .val (.int c1), .val (.int la), .val (.int lb), .val (.int b0), .unset, .unset, .unset, .unset, .unset, .unset, .unset, .unset, .unset, .unset] [(.int p0)])) _
      refine XS.iconst X15.here hx rfl (hb hby at_108) ?_
      show Steps p.tables e below (T15.setTop (mkF m 109 #[.val (.int p0), .val (.int p1), .val (.int p2), .val (.int p3), .val (.int p4), .val (.int p5), .val (.int ka), .val (.int kb), .val (.int c0), .val (.int c1), .val (.int la), .val (.int lb), .val (.int b0), .unset, .unset, .unset, .unset, .unset, .unset, .unset, .unset, .unset, .unset] [(.int (5 : Int32)), (.int p0)])) _
      refine XS.iushr X15.here hx rfl (hb hby at_109) rfl ?_
      show Steps p.tables e below (T15.setTop (mkF m 110 #[.val (.int p0), .val (.int p1), .val (.int p2), .val (.int p3), .val (.int p4), .val (.int p5), .val (.int ka), .val (.int kb), .val (.int c0), .val (.int c1), .val (.int la), .val (.int lb), .val (.int b0), .unset, .unset, .unset, .unset, .unset, .unset, .unset, .unset, .unset, .unset] [(.int ((p0.toUInt32 >>> ((5 : Int32) &&& 31).toUInt32).toInt32))])) _
      refine XS.iconst X15.here hx rfl (hb hby at_110) ?_
      show Steps p.tables e below (T15.setTop (mkF m 111 #[.val (.int p0), .val (.int p1), .val (.int p2), .val (.int p3), .val (.int p4), .val (.int p5), .val (.int ka), .val (.int kb), .val (.int c0), .val (.int c1), .val (.int la), .val (.int lb), .val (.int b0), .unset, .unset, .unset, .unset, .unset, .unset, .unset, .unset, .unset, .unset] [(.int (1 : Int32)), (.int ((p0.toUInt32 >>> ((5 : Int32) &&& 31).toUInt32).toInt32))])) _
      refine XS.iand X15.here hx rfl (hb hby at_111) rfl ?_
      show Steps p.tables e below (T15.setTop (mkF m 112 #[.val (.int p0), .val (.int p1), .val (.int p2), .val (.int p3), .val (.int p4), .val (.int p5), .val (.int ka), .val (.int kb), .val (.int c0), .val (.int c1), .val (.int la), .val (.int lb), .val (.int b0), .unset, .unset, .unset, .unset, .unset, .unset, .unset, .unset, .unset, .unset] [(.int (((p0.toUInt32 >>> ((5 : Int32) &&& 31).toUInt32).toInt32) &&& (1 : Int32)))])) _
      exact q)
    obtain ⟨b1, hb1, k23⟩ : ∃ (b1 : Int32), (b1 = (if (((p0.toUInt32 >>> ((5 : Int32) &&& 31).toUInt32).toInt32) &&& (1 : Int32)) = (0 : Int32) then ((((p0.toUInt32 >>> ((6 : Int32) &&& 31).toUInt32).toInt32) &&& (255 : Int32)).toUInt32.toUInt16.toUInt32.toInt32) else c1)) ∧ own_To p e below T15 (mkF m 129 #[.val (.int p0), .val (.int p1), .val (.int p2), .val (.int p3), .val (.int p4), .val (.int p5), .val (.int ka), .val (.int kb), .val (.int c0), .val (.int c1), .val (.int la), .val (.int lb), .val (.int b0), .unset, .unset, .unset, .unset, .unset, .unset, .unset, .unset, .unset, .unset] [(.int b1)]) s₁ (mkF m 0 #[.val (.int p0), .val (.int p1), .val (.int p2), .val (.int p3), .val (.int p4), .val (.int p5), .unset, .unset, .unset, .unset, .unset, .unset, .unset, .unset, .unset, .unset, .unset, .unset, .unset, .unset, .unset, .unset, .unset] []) := by
      by_cases hm22 : (((p0.toUInt32 >>> ((5 : Int32) &&& 31).toUInt32).toInt32) &&& (1 : Int32)) = (0 : Int32)
      ·
        refine ⟨((((p0.toUInt32 >>> ((6 : Int32) &&& 31).toUInt32).toInt32) &&& (255 : Int32)).toUInt32.toUInt16.toUInt32.toInt32), by rw [if_pos hm22], fun t q => k21 t (?_)⟩
        refine XS.ifYes X15.here hx rfl (pc0 := 112) (pc' := 120) rfl (hb hby at_112) rfl ((if0 _ _).trans (teq hm22).1) (by decide) (by decide) ?_
        show Steps p.tables e below (T15.setTop (mkF m 120 #[.val (.int p0), .val (.int p1), .val (.int p2), .val (.int p3), .val (.int p4), .val (.int p5), .val (.int ka), .val (.int kb), .val (.int c0), .val (.int c1), .val (.int la), .val (.int lb), .val (.int b0), .unset, .unset, .unset, .unset, .unset, .unset, .unset, .unset, .unset, .unset] [])) _
        refine XS.iloadN X15.here hx rfl (hb hby at_120) rfl ?_
        show Steps p.tables e below (T15.setTop (mkF m 121 #[.val (.int p0), .val (.int p1), .val (.int p2), .val (.int p3), .val (.int p4), .val (.int p5), .val (.int ka), .val (.int kb), .val (.int c0), .val (.int c1), .val (.int la), .val (.int lb), .val (.int b0), .unset, .unset, .unset, .unset, .unset, .unset, .unset, .unset, .unset, .unset] [(.int p0)])) _
        refine XS.bipush X15.here hx rfl (hb hby at_121) ?_
        show Steps p.tables e below (T15.setTop (mkF m 123 #[.val (.int p0), .val (.int p1), .val (.int p2), .val (.int p3), .val (.int p4), .val (.int p5), .val (.int ka), .val (.int kb), .val (.int c0), .val (.int c1), .val (.int la), .val (.int lb), .val (.int b0), .unset, .unset, .unset, .unset, .unset, .unset, .unset, .unset, .unset, .unset] [(.int (6 : Int32)), (.int p0)])) _
        refine XS.iushr X15.here hx rfl (hb hby at_123) rfl ?_
        show Steps p.tables e below (T15.setTop (mkF m 124 #[.val (.int p0), .val (.int p1), .val (.int p2), .val (.int p3), .val (.int p4), .val (.int p5), .val (.int ka), .val (.int kb), .val (.int c0), .val (.int c1), .val (.int la), .val (.int lb), .val (.int b0), .unset, .unset, .unset, .unset, .unset, .unset, .unset, .unset, .unset, .unset] [(.int ((p0.toUInt32 >>> ((6 : Int32) &&& 31).toUInt32).toInt32))])) _
        refine XS.sipush X15.here hx rfl (hb hby at_124) ?_
        show Steps p.tables e below (T15.setTop (mkF m 127 #[.val (.int p0), .val (.int p1), .val (.int p2), .val (.int p3), .val (.int p4), .val (.int p5), .val (.int ka), .val (.int kb), .val (.int c0), .val (.int c1), .val (.int la), .val (.int lb), .val (.int b0), .unset, .unset, .unset, .unset, .unset, .unset, .unset, .unset, .unset, .unset] [(.int (255 : Int32)), (.int ((p0.toUInt32 >>> ((6 : Int32) &&& 31).toUInt32).toInt32))])) _
        refine XS.iand X15.here hx rfl (hb hby at_127) rfl ?_
        show Steps p.tables e below (T15.setTop (mkF m 128 #[.val (.int p0), .val (.int p1), .val (.int p2), .val (.int p3), .val (.int p4), .val (.int p5), .val (.int ka), .val (.int kb), .val (.int c0), .val (.int c1), .val (.int la), .val (.int lb), .val (.int b0), .unset, .unset, .unset, .unset, .unset, .unset, .unset, .unset, .unset, .unset] [(.int (((p0.toUInt32 >>> ((6 : Int32) &&& 31).toUInt32).toInt32) &&& (255 : Int32)))])) _
        refine XS.i2c X15.here hx rfl (hb hby at_128) rfl ?_
        show Steps p.tables e below (T15.setTop (mkF m 129 #[.val (.int p0), .val (.int p1), .val (.int p2), .val (.int p3), .val (.int p4), .val (.int p5), .val (.int ka), .val (.int kb), .val (.int c0), .val (.int c1), .val (.int la), .val (.int lb), .val (.int b0), .unset, .unset, .unset, .unset, .unset, .unset, .unset, .unset, .unset, .unset] [(.int ((((p0.toUInt32 >>> ((6 : Int32) &&& 31).toUInt32).toInt32) &&& (255 : Int32)).toUInt32.toUInt16.toUInt32.toInt32))])) _
        exact q
      ·
        refine ⟨c1, by rw [if_neg hm22], fun t q => k21 t (?_)⟩
        refine XS.ifNo X15.here hx rfl (hb hby at_112) rfl ((if0 _ _).trans (feq hm22).1) ?_
        show Steps p.tables e below (T15.setTop (mkF m 115 #[.val (.int p0), .val (.int p1), .val (.int p2), .val (.int p3), .val (.int p4), .val (.int p5), .val (.int ka), .val (.int kb), .val (.int c0), .val (.int c1), .val (.int la), .val (.int lb), .val (.int b0), .unset, .unset, .unset, .unset, .unset, .unset, .unset, .unset, .unset, .unset] [])) _
        refine XS.iload X15.here hx rfl (hb hby at_115) rfl ?_
        show Steps p.tables e below (T15.setTop (mkF m 117 #[.val (.int p0), .val (.int p1), .val (.int p2), .val (.int p3), .val (.int p4), .val (.int p5), .val (.int ka), .val (.int kb), .val (.int c0), .val (.int c1), .val (.int la), .val (.int lb), .val (.int b0), .unset, .unset, .unset, .unset, .unset, .unset, .unset, .unset, .unset, .unset] [(.int c1)])) _
        refine XS.goto X15.here hx rfl (pc0 := 117) (pc' := 129) rfl (hb hby at_117) (by decide) (by decide) ?_
        show Steps p.tables e below (T15.setTop (mkF m 129 #[.val (.int p0), .val (.int p1), .val (.int p2), .val (.int p3), .val (.int p4), .val (.int p5), .val (.int ka), .val (.int kb), .val (.int c0), .val (.int c1), .val (.int la), .val (.int lb), .val (.int b0), .unset, .unset, .unset, .unset, .unset, .unset, .unset, .unset, .unset, .unset] [(.int c1)])) _
        exact q
    have r_b1 : 0 ≤ b1.toInt ∧ b1.toInt < 256 := by rw [hb1]; exact own_if (own_r8 _) r_c1
    have k24 : own_To p e below T15 (mkF m 135 #[.val (.int p0), .val (.int p1), .val (.int p2), .val (.int p3), .val (.int p4), .val (.int p5), .val (.int ka), .val (.int kb), .val (.int c0), .val (.int c1), .val (.int la), .val (.int lb), .val (.int b0), .val (.int b1), .unset, .unset, .unset, .unset, .unset, .unset, .unset, .unset, .unset] [(.int (p4 &&& (1 : Int32)))]) s₁ (mkF m 0 #[.val (.int p0), .val (.int p1), .val (.int p2), .val (.int p3), .val (.int p4), .val (.int p5), .unset, .unset, .unset, .unset, .unset, .unset, .unset, .unset, .unset, .unset, .unset, .unset, .unset, .unset, .unset, .unset, .unset] []) := fun t q => k23 t (by
      refine XS.istore X15.here hx rfl (hb hby at_129) rfl (l' := #[.val (.int p0), .val (.int p1), .val (.int p2), .val (.int p3), .val (.int p4), .val (.int p5), .val (.int ka), .val (.int kb), .val (.int c0), .val (.int c1), .val (.int la), .val (.int lb), .val (.int b0), .val (.int b1), .unset, .unset, .unset, .unset, .unset, .unset, .unset, .unset, .unset]) rfl ?_
      show Steps p.tables e below (T15.setTop (mkF m 131 #[.val (.int p0), .val (.int p1), .val (.int p2), .val (.int p3), .val (.int p4), .val (.int p5), .val (.int ka), .val (.int kb), .val (.int c0), .val (.int c1), .val (.int la), .val (.int lb), .val (.int b0), .val (.int b1), .unset, .unset, .unset, .unset, .unset, .unset, .unset, .unset, .unset] [])) _
      refine XS.iload X15.here hx rfl (hb hby at_131) rfl ?_
      show Steps p.tables e below (T15.setTop (mkF m 133 #[.val (.int p0), .val (.int p1), .val (.int p2), .val (.int p3), .val (.int p4), .val (.int p5), .val (.int ka), .val (.int kb), .val (.int c0), .val (.int c1), .val (.int la), .val (.int lb), .val (.int b0), .val (.int b1), .unset, .unset, .unset, .unset, .unset, .unset, .unset, .unset, .unset] [(.int p4)])) _
      refine XS.iconst X15.here hx rfl (hb hby at_133) ?_
      show Steps p.tables e below (T15.setTop (mkF m 134 #[.val (.int p0), .val (.int p1), .val (.int p2), .val (.int p3), .val (.int p4), .val (.int p5), .val (.int ka), .val (.int kb), .val (.int c0), .val (.int c1), .val (.int la), .val (.int lb), .val (.int b0), .val (.int b1), .unset, .unset, .unset, .unset, .unset, .unset, .unset, .unset, .unset] [(.int (1 : Int32)), (.int p4)])) _
      refine XS.iand X15.here hx rfl (hb hby at_134) rfl ?_
      show Steps p.tables e below (T15.setTop (mkF m 135 #[.val (.int p0), .val (.int p1), .val (.int p2), .val (.int p3), .val (.int p4), .val (.int p5), .val (.int ka), .val (.int kb), .val (.int c0), .val (.int c1), .val (.int la), .val (.int lb), .val (.int b0), .val (.int b1), .unset, .unset, .unset, .unset, .unset, .unset, .unset, .unset, .unset] [(.int (p4 &&& (1 : Int32)))])) _
      exact q)
    obtain ⟨lineB, hlineB, k26⟩ : ∃ (lineB : Int32), (lineB = (if (p4 &&& (1 : Int32)) = (0 : Int32) then p4 else p2)) ∧ own_To p e below T15 (mkF m 144 #[.val (.int p0), .val (.int p1), .val (.int p2), .val (.int p3), .val (.int p4), .val (.int p5), .val (.int ka), .val (.int kb), .val (.int c0), .val (.int c1), .val (.int la), .val (.int lb), .val (.int b0), .val (.int b1), .unset, .unset, .unset, .unset, .unset, .unset, .unset, .unset, .unset] [(.int lineB)]) s₁ (mkF m 0 #[.val (.int p0), .val (.int p1), .val (.int p2), .val (.int p3), .val (.int p4), .val (.int p5), .unset, .unset, .unset, .unset, .unset, .unset, .unset, .unset, .unset, .unset, .unset, .unset, .unset, .unset, .unset, .unset, .unset] []) := by
      by_cases hm25 : (p4 &&& (1 : Int32)) = (0 : Int32)
      ·
        refine ⟨p4, by rw [if_pos hm25], fun t q => k24 t (?_)⟩
        refine XS.ifYes X15.here hx rfl (pc0 := 135) (pc' := 142) rfl (hb hby at_135) rfl ((if0 _ _).trans (teq hm25).1) (by decide) (by decide) ?_
        show Steps p.tables e below (T15.setTop (mkF m 142 #[.val (.int p0), .val (.int p1), .val (.int p2), .val (.int p3), .val (.int p4), .val (.int p5), .val (.int ka), .val (.int kb), .val (.int c0), .val (.int c1), .val (.int la), .val (.int lb), .val (.int b0), .val (.int b1), .unset, .unset, .unset, .unset, .unset, .unset, .unset, .unset, .unset] [])) _
        refine XS.iload X15.here hx rfl (hb hby at_142) rfl ?_
        show Steps p.tables e below (T15.setTop (mkF m 144 #[.val (.int p0), .val (.int p1), .val (.int p2), .val (.int p3), .val (.int p4), .val (.int p5), .val (.int ka), .val (.int kb), .val (.int c0), .val (.int c1), .val (.int la), .val (.int lb), .val (.int b0), .val (.int b1), .unset, .unset, .unset, .unset, .unset, .unset, .unset, .unset, .unset] [(.int p4)])) _
        exact q
      ·
        refine ⟨p2, by rw [if_neg hm25], fun t q => k24 t (?_)⟩
        refine XS.ifNo X15.here hx rfl (hb hby at_135) rfl ((if0 _ _).trans (feq hm25).1) ?_
        show Steps p.tables e below (T15.setTop (mkF m 138 #[.val (.int p0), .val (.int p1), .val (.int p2), .val (.int p3), .val (.int p4), .val (.int p5), .val (.int ka), .val (.int kb), .val (.int c0), .val (.int c1), .val (.int la), .val (.int lb), .val (.int b0), .val (.int b1), .unset, .unset, .unset, .unset, .unset, .unset, .unset, .unset, .unset] [])) _
        refine XS.iloadN X15.here hx rfl (hb hby at_138) rfl ?_
        show Steps p.tables e below (T15.setTop (mkF m 139 #[.val (.int p0), .val (.int p1), .val (.int p2), .val (.int p3), .val (.int p4), .val (.int p5), .val (.int ka), .val (.int kb), .val (.int c0), .val (.int c1), .val (.int la), .val (.int lb), .val (.int b0), .val (.int b1), .unset, .unset, .unset, .unset, .unset, .unset, .unset, .unset, .unset] [(.int p2)])) _
        refine XS.goto X15.here hx rfl (pc0 := 139) (pc' := 144) rfl (hb hby at_139) (by decide) (by decide) ?_
        show Steps p.tables e below (T15.setTop (mkF m 144 #[.val (.int p0), .val (.int p1), .val (.int p2), .val (.int p3), .val (.int p4), .val (.int p5), .val (.int ka), .val (.int kb), .val (.int c0), .val (.int c1), .val (.int la), .val (.int lb), .val (.int b0), .val (.int b1), .unset, .unset, .unset, .unset, .unset, .unset, .unset, .unset, .unset] [(.int p2)])) _
        exact q
    have k27 : own_To p e below T15 (mkF m 150 #[.val (.int p0), .val (.int p1), .val (.int p2), .val (.int p3), .val (.int p4), .val (.int p5), .val (.int ka), .val (.int kb), .val (.int c0), .val (.int c1), .val (.int la), .val (.int lb), .val (.int b0), .val (.int b1), .val (.int lineB), .unset, .unset, .unset, .unset, .unset, .unset, .unset, .unset] [(.int (p5 &&& (1 : Int32)))]) s₁ (mkF m 0 #[.val (.int p0), .val (.int p1), .val (.int p2), .val (.int p3), .val (.int p4), .val (.int p5), .unset, .unset, .unset, .unset, .unset, .unset, .unset, .unset, .unset, .unset, .unset, .unset, .unset, .unset, .unset, .unset, .unset] []) := fun t q => k26 t (by
      refine XS.istore X15.here hx rfl (hb hby at_144) rfl (l' := #[.val (.int p0), .val (.int p1), .val (.int p2), .val (.int p3), .val (.int p4), .val (.int p5), .val (.int ka), .val (.int kb), .val (.int c0), .val (.int c1), .val (.int la), .val (.int lb), .val (.int b0), .val (.int b1), .val (.int lineB), .unset, .unset, .unset, .unset, .unset, .unset, .unset, .unset]) rfl ?_
      show Steps p.tables e below (T15.setTop (mkF m 146 #[.val (.int p0), .val (.int p1), .val (.int p2), .val (.int p3), .val (.int p4), .val (.int p5), .val (.int ka), .val (.int kb), .val (.int c0), .val (.int c1), .val (.int la), .val (.int lb), .val (.int b0), .val (.int b1), .val (.int lineB), .unset, .unset, .unset, .unset, .unset, .unset, .unset, .unset] [])) _
      refine XS.iload X15.here hx rfl (hb hby at_146) rfl ?_
      show Steps p.tables e below (T15.setTop (mkF m 148 #[.val (.int p0), .val (.int p1), .val (.int p2), .val (.int p3), .val (.int p4), .val (.int p5), .val (.int ka), .val (.int kb), .val (.int c0), .val (.int c1), .val (.int la), .val (.int lb), .val (.int b0), .val (.int b1), .val (.int lineB), .unset, .unset, .unset, .unset, .unset, .unset, .unset, .unset] [(.int p5)])) _
      refine XS.iconst X15.here hx rfl (hb hby at_148) ?_
      show Steps p.tables e below (T15.setTop (mkF m 149 #[.val (.int p0), .val (.int p1), .val (.int p2), .val (.int p3), .val (.int p4), .val (.int p5), .val (.int ka), .val (.int kb), .val (.int c0), .val (.int c1), .val (.int la), .val (.int lb), .val (.int b0), .val (.int b1), .val (.int lineB), .unset, .unset, .unset, .unset, .unset, .unset, .unset, .unset] [(.int (1 : Int32)), (.int p5)])) _
      refine XS.iand X15.here hx rfl (hb hby at_149) rfl ?_
      show Steps p.tables e below (T15.setTop (mkF m 150 #[.val (.int p0), .val (.int p1), .val (.int p2), .val (.int p3), .val (.int p4), .val (.int p5), .val (.int ka), .val (.int kb), .val (.int c0), .val (.int c1), .val (.int la), .val (.int lb), .val (.int b0), .val (.int b1), .val (.int lineB), .unset, .unset, .unset, .unset, .unset, .unset, .unset, .unset] [(.int (p5 &&& (1 : Int32)))])) _
      exact q)
    obtain ⟨colB, hcolB, k29⟩ : ∃ (colB : Int32), (colB = (if (p5 &&& (1 : Int32)) = (0 : Int32) then p5 else p3)) ∧ own_To p e below T15 (mkF m 159 #[.val (.int p0), .val (.int p1), .val (.int p2), .val (.int p3), .val (.int p4), .val (.int p5), .val (.int ka), .val (.int kb), .val (.int c0), .val (.int c1), .val (.int la), .val (.int lb), .val (.int b0), .val (.int b1), .val (.int lineB), .unset, .unset, .unset, .unset, .unset, .unset, .unset, .unset] [(.int colB)]) s₁ (mkF m 0 #[.val (.int p0), .val (.int p1), .val (.int p2), .val (.int p3), .val (.int p4), .val (.int p5), .unset, .unset, .unset, .unset, .unset, .unset, .unset, .unset, .unset, .unset, .unset, .unset, .unset, .unset, .unset, .unset, .unset] []) := by
      by_cases hm28 : (p5 &&& (1 : Int32)) = (0 : Int32)
      ·
        refine ⟨p5, by rw [if_pos hm28], fun t q => k27 t (?_)⟩
        refine XS.ifYes X15.here hx rfl (pc0 := 150) (pc' := 157) rfl (hb hby at_150) rfl ((if0 _ _).trans (teq hm28).1) (by decide) (by decide) ?_
        show Steps p.tables e below (T15.setTop (mkF m 157 #[.val (.int p0), .val (.int p1), .val (.int p2), .val (.int p3), .val (.int p4), .val (.int p5), .val (.int ka), .val (.int kb), .val (.int c0), .val (.int c1), .val (.int la), .val (.int lb), .val (.int b0), .val (.int b1), .val (.int lineB), .unset, .unset, .unset, .unset, .unset, .unset, .unset, .unset] [])) _
        refine XS.iload X15.here hx rfl (hb hby at_157) rfl ?_
        show Steps p.tables e below (T15.setTop (mkF m 159 #[.val (.int p0), .val (.int p1), .val (.int p2), .val (.int p3), .val (.int p4), .val (.int p5), .val (.int ka), .val (.int kb), .val (.int c0), .val (.int c1), .val (.int la), .val (.int lb), .val (.int b0), .val (.int b1), .val (.int lineB), .unset, .unset, .unset, .unset, .unset, .unset, .unset, .unset] [(.int p5)])) _
        exact q
      ·
        refine ⟨p3, by rw [if_neg hm28], fun t q => k27 t (?_)⟩
        refine XS.ifNo X15.here hx rfl (hb hby at_150) rfl ((if0 _ _).trans (feq hm28).1) ?_
        show Steps p.tables e below (T15.setTop (mkF m 153 #[.val (.int p0), .val (.int p1), .val (.int p2), .val (.int p3), .val (.int p4), .val (.int p5), .val (.int ka), .val (.int kb), .val (.int c0), .val (.int c1), .val (.int la), .val (.int lb), .val (.int b0), .val (.int b1), .val (.int lineB), .unset, .unset, .unset, .unset, .unset, .unset, .unset, .unset] [])) _
        refine XS.iloadN X15.here hx rfl (hb hby at_153) rfl ?_
        show Steps p.tables e below (T15.setTop (mkF m 154 #[.val (.int p0), .val (.int p1), .val (.int p2), .val (.int p3), .val (.int p4), .val (.int p5), .val (.int ka), .val (.int kb), .val (.int c0), .val (.int c1), .val (.int la), .val (.int lb), .val (.int b0), .val (.int b1), .val (.int lineB), .unset, .unset, .unset, .unset, .unset, .unset, .unset, .unset] [(.int p3)])) _
        refine XS.goto X15.here hx rfl (pc0 := 154) (pc' := 159) rfl (hb hby at_154) (by decide) (by decide) ?_
        show Steps p.tables e below (T15.setTop (mkF m 159 #[.val (.int p0), .val (.int p1), .val (.int p2), .val (.int p3), .val (.int p4), .val (.int p5), .val (.int ka), .val (.int kb), .val (.int c0), .val (.int c1), .val (.int la), .val (.int lb), .val (.int b0), .val (.int b1), .val (.int lineB), .unset, .unset, .unset, .unset, .unset, .unset, .unset, .unset] [(.int p3)])) _
        exact q
    have k30 : own_To p e below T15 (mkF m 167 #[.val (.int p0), .val (.int p1), .val (.int p2), .val (.int p3), .val (.int p4), .val (.int p5), .val (.int ka), .val (.int kb), .val (.int c0), .val (.int c1), .val (.int la), .val (.int lb), .val (.int b0), .val (.int b1), .val (.int lineB), .val (.int colB), .unset, .unset, .unset, .unset, .unset, .unset, .unset] [(.int c1), (.int c0), (.int la)]) s₁ (mkF m 0 #[.val (.int p0), .val (.int p1), .val (.int p2), .val (.int p3), .val (.int p4), .val (.int p5), .unset, .unset, .unset, .unset, .unset, .unset, .unset, .unset, .unset, .unset, .unset, .unset, .unset, .unset, .unset, .unset, .unset] []) := fun t q => k29 t (by
      refine XS.istore X15.here hx rfl (hb hby at_159) rfl (l' := #[.val (.int p0), .val (.int p1), .val (.int p2), .val (.int p3), .val (.int p4), .val (.int p5), .val (.int ka), .val (.int kb), .val (.int c0), .val (.int c1), .val (.int la), .val (.int lb), .val (.int b0), .val (.int b1), .val (.int lineB), .val (.int colB), .unset, .unset, .unset, .unset, .unset, .unset, .unset]) rfl ?_
      show Steps p.tables e below (T15.setTop (mkF m 161 #[.val (.int p0), .val (.int p1), .val (.int p2), .val (.int p3), .val (.int p4), .val (.int p5), .val (.int ka), .val (.int kb), .val (.int c0), .val (.int c1), .val (.int la), .val (.int lb), .val (.int b0), .val (.int b1), .val (.int lineB), .val (.int colB), .unset, .unset, .unset, .unset, .unset, .unset, .unset] [])) _
      refine XS.iload X15.here hx rfl (hb hby at_161) rfl ?_
      show Steps p.tables e below (T15.setTop (mkF m 163 #[.val (.int p0), .val (.int p1), .val (.int p2), .val (.int p3), .val (.int p4), .val (.int p5), .val (.int ka), .val (.int kb), .val (.int c0), .val (.int c1), .val (.int la), .val (.int lb), .val (.int b0), .val (.int b1), .val (.int lineB), .val (.int colB), .unset, .unset, .unset, .unset, .unset, .unset, .unset] [(.int la)])) _
      refine XS.iload X15.here hx rfl (hb hby at_163) rfl ?_
      show Steps p.tables e below (T15.setTop (mkF m 165 #[.val (.int p0), .val (.int p1), .val (.int p2), .val (.int p3), .val (.int p4), .val (.int p5), .val (.int ka), .val (.int kb), .val (.int c0), .val (.int c1), .val (.int la), .val (.int lb), .val (.int b0), .val (.int b1), .val (.int lineB), .val (.int colB), .unset, .unset, .unset, .unset, .unset, .unset, .unset] [(.int c0), (.int la)])) _
      refine XS.iload X15.here hx rfl (hb hby at_165) rfl ?_
      show Steps p.tables e below (T15.setTop (mkF m 167 #[.val (.int p0), .val (.int p1), .val (.int p2), .val (.int p3), .val (.int p4), .val (.int p5), .val (.int ka), .val (.int kb), .val (.int c0), .val (.int c1), .val (.int la), .val (.int lb), .val (.int b0), .val (.int b1), .val (.int lineB), .val (.int colB), .unset, .unset, .unset, .unset, .unset, .unset, .unset] [(.int c1), (.int c0), (.int la)])) _
      exact q)
    obtain ⟨_, _, ⟨T31, L31, kk31, n31⟩, -, X31, hSs31, hgr31, ⟨Lc31, hQ31, l31, y31, z31, hC31⟩, st31⟩ := callSS X15 hx (y := (⟨"com/example/vetted_traces/vettedtraces/language/TokenEqualsPinLaw", "str", "(ICC)Ljava/lang/String;"⟩ : MethodName)) hown (mvT hZ (hw _ (List.mem_of_getElem? (i := 4) rfl))) (mvT hZ (hw _ (List.mem_of_getElem? (i := 5) rfl))) (mvT hZ (hw _ (List.mem_of_getElem? (i := 6) rfl))) (mvT hZ (hw _ (List.mem_of_getElem? (i := 7) rfl))) (by decide) (backOfSH (s := s) (vm0 := s.vm) (W := 0) (rm2 l Z a0 hw [] la c0 c1 cs h0 n0 Z0 SC hcs O0 (own_hp _ r_c0) (own_hp _ r_c1) hEL) hZ (hw _ (List.mem_of_getElem? (i := 7) rfl)) (hw _ (List.mem_of_getElem? (i := 6) rfl)) (by decide) (by decide) hEL hCH) (g := (mkF m 167 #[.val (.int p0), .val (.int p1), .val (.int p2), .val (.int p3), .val (.int p4), .val (.int p5), .val (.int ka), .val (.int kb), .val (.int c0), .val (.int c1), .val (.int la), .val (.int lb), .val (.int b0), .val (.int b1), .val (.int lineB), .val (.int colB), .unset, .unset, .unset, .unset, .unset, .unset, .unset] [(.int c1), (.int c0), (.int la)])) rfl (by rw [hml]; rfl) (argsL := [(.int la), (.int c0), (.int c1)]) (rest := []) (lenOf own_pd2 rfl) rfl (by show 2 * 0 + _ ≤ _; exact Nat.le_of_eq rfl) (hb hby at_167) (fun _ _ => ⟨rfl, e15, (by decide : 0 + 6 ≤ _), (by decide : 0 + 12 ≤ _)⟩)
    dsimp only [Pt.U, Pt.locs, Pt.cells, Pt.slots] at X31 l31 y31 z31 st31 hQ31 hSs31 hgr31 hC31
    subst l31 y31 z31
    have X31 := own_again X31
    have hSn31 := foldS (State.WarmedH.since (State.WarmedH.refl s) 0) (by rw [e15]; exact (Nat.zero_le _)) hSs31 hgr31
    have hZn31 : Z.Warmed39 (s.setVm T31.vm).vm := State.Warmed39.trans (t := s.setVm s.vm) hZ hSs31.1
    have hon31 : (s.setVm T31.vm).vm.findClass "com/example/vetted_traces/vettedtraces/language/TokenEqualsPinLaw" = some m.cls := by rw [show (s.setVm T31.vm).vm = T31.vm from rfl, hSs31.1.alike.findClass]; exact hown
    have hZ := hZn31
    have hown := hon31
    have CRl31 := CR0.trans hC31
    have CHl31 := CRl31.1
    obtain ⟨r31, rb31, kb31, rfl, N31q, K31, Ex31, Fc31, Fv31, V31⟩ := hQ31
    have N31 := Fr.app N15 N31q
    have k32 : own_To p e below T31 (mkF m 178 #[.val (.int p0), .val (.int p1), .val (.int p2), .val (.int p3), .val (.int p4), .val (.int p5), .val (.int ka), .val (.int kb), .val (.int c0), .val (.int c1), .val (.int la), .val (.int lb), .val (.int b0), .val (.int b1), .val (.int lineB), .val (.int colB), .val (.ref r31), .unset, .unset, .unset, .unset, .unset, .unset] [(.int b1), (.int b0), (.int lb)]) s₁ (mkF m 0 #[.val (.int p0), .val (.int p1), .val (.int p2), .val (.int p3), .val (.int p4), .val (.int p5), .unset, .unset, .unset, .unset, .unset, .unset, .unset, .unset, .unset, .unset, .unset, .unset, .unset, .unset, .unset, .unset, .unset] []) := fun t q => k30 t (by
      refine st31.trans ?_
      show Steps p.tables e below (T31.setTop (mkF m 170 #[.val (.int p0), .val (.int p1), .val (.int p2), .val (.int p3), .val (.int p4), .val (.int p5), .val (.int ka), .val (.int kb), .val (.int c0), .val (.int c1), .val (.int la), .val (.int lb), .val (.int b0), .val (.int b1), .val (.int lineB), .val (.int colB), .unset, .unset, .unset, .unset, .unset, .unset, .unset] [(.ref r31)])) _
      refine XS.astore X31.here hx rfl (hb hby at_170) rfl rfl (l' := #[.val (.int p0), .val (.int p1), .val (.int p2), .val (.int p3), .val (.int p4), .val (.int p5), .val (.int ka), .val (.int kb), .val (.int c0), .val (.int c1), .val (.int la), .val (.int lb), .val (.int b0), .val (.int b1), .val (.int lineB), .val (.int colB), .val (.ref r31), .unset, .unset, .unset, .unset, .unset, .unset]) rfl ?_
      show Steps p.tables e below (T31.setTop (mkF m 172 #[.val (.int p0), .val (.int p1), .val (.int p2), .val (.int p3), .val (.int p4), .val (.int p5), .val (.int ka), .val (.int kb), .val (.int c0), .val (.int c1), .val (.int la), .val (.int lb), .val (.int b0), .val (.int b1), .val (.int lineB), .val (.int colB), .val (.ref r31), .unset, .unset, .unset, .unset, .unset, .unset] [])) _
      refine XS.iload X31.here hx rfl (hb hby at_172) rfl ?_
      show Steps p.tables e below (T31.setTop (mkF m 174 #[.val (.int p0), .val (.int p1), .val (.int p2), .val (.int p3), .val (.int p4), .val (.int p5), .val (.int ka), .val (.int kb), .val (.int c0), .val (.int c1), .val (.int la), .val (.int lb), .val (.int b0), .val (.int b1), .val (.int lineB), .val (.int colB), .val (.ref r31), .unset, .unset, .unset, .unset, .unset, .unset] [(.int lb)])) _
      refine XS.iload X31.here hx rfl (hb hby at_174) rfl ?_
      show Steps p.tables e below (T31.setTop (mkF m 176 #[.val (.int p0), .val (.int p1), .val (.int p2), .val (.int p3), .val (.int p4), .val (.int p5), .val (.int ka), .val (.int kb), .val (.int c0), .val (.int c1), .val (.int la), .val (.int lb), .val (.int b0), .val (.int b1), .val (.int lineB), .val (.int colB), .val (.ref r31), .unset, .unset, .unset, .unset, .unset, .unset] [(.int b0), (.int lb)])) _
      refine XS.iload X31.here hx rfl (hb hby at_176) rfl ?_
      show Steps p.tables e below (T31.setTop (mkF m 178 #[.val (.int p0), .val (.int p1), .val (.int p2), .val (.int p3), .val (.int p4), .val (.int p5), .val (.int ka), .val (.int kb), .val (.int c0), .val (.int c1), .val (.int la), .val (.int lb), .val (.int b0), .val (.int b1), .val (.int lineB), .val (.int colB), .val (.ref r31), .unset, .unset, .unset, .unset, .unset, .unset] [(.int b1), (.int b0), (.int lb)])) _
      exact q)
    have K34 : Keep h0 T31.heap [] := ((Keep.refl h0 []).trans K31 all0)
    have O35 : Old Z n0 T31.heap := (O0.keep K31 all0)
    obtain ⟨_, _, ⟨T33, L33, kk33, n33⟩, -, X33, hSs33, hgr33, ⟨Lc33, hQ33, l33, y33, z33, hC33⟩, st33⟩ := callSS X31 hx (y := (⟨"com/example/vetted_traces/vettedtraces/language/TokenEqualsPinLaw", "str", "(ICC)Ljava/lang/String;"⟩ : MethodName)) hown (mvT hZ (hw _ (List.mem_of_getElem? (i := 4) rfl))) (mvT hZ (hw _ (List.mem_of_getElem? (i := 5) rfl))) (mvT hZ (hw _ (List.mem_of_getElem? (i := 6) rfl))) (mvT hZ (hw _ (List.mem_of_getElem? (i := 7) rfl))) (by decide) (backOfSH (s := s) (vm0 := T31.vm) (W := 0) (rm2 l Z a0 hw [] lb b0 b1 cs T31.heap n0 (Nat.le_trans Z0 K34.1) SC hcs O35 (own_hp _ r_b0) (own_hp _ r_b1) hEL) hZ (hw _ (List.mem_of_getElem? (i := 7) rfl)) (hw _ (List.mem_of_getElem? (i := 6) rfl)) (by decide) (by decide) hEL CHl31) (g := (mkF m 178 #[.val (.int p0), .val (.int p1), .val (.int p2), .val (.int p3), .val (.int p4), .val (.int p5), .val (.int ka), .val (.int kb), .val (.int c0), .val (.int c1), .val (.int la), .val (.int lb), .val (.int b0), .val (.int b1), .val (.int lineB), .val (.int colB), .val (.ref r31), .unset, .unset, .unset, .unset, .unset, .unset] [(.int b1), (.int b0), (.int lb)])) rfl (by rw [hml]; rfl) (argsL := [(.int lb), (.int b0), (.int b1)]) (rest := []) (lenOf own_pd2 rfl) rfl (by show 2 * 0 + _ ≤ _; exact Nat.le_of_eq rfl) (hb hby at_178) (fun _ _ => ⟨rfl, rfl, (by decide : 6 + 6 ≤ _), (by decide : 12 + 12 ≤ _)⟩)
    dsimp only [Pt.U, Pt.locs, Pt.cells, Pt.slots] at X33 l33 y33 z33 st33 hQ33 hSs33 hgr33 hC33
    subst l33 y33 z33
    have X33 := own_again X33
    have hSn33 := foldS hSn31 (by exact (Nat.le_refl _)) hSs33 hgr33
    have hZn33 : Z.Warmed39 (s.setVm T33.vm).vm := State.Warmed39.trans (t := s.setVm T31.vm) hZ hSs33.1
    have hon33 : (s.setVm T33.vm).vm.findClass "com/example/vetted_traces/vettedtraces/language/TokenEqualsPinLaw" = some m.cls := by rw [show (s.setVm T33.vm).vm = T33.vm from rfl, hSs33.1.alike.findClass]; exact hown
    have hZ := hZn33
    have hown := hon33
    have CRl33 := CRl31.trans hC33
    have CHl33 := CRl33.1
    obtain ⟨r33, rb33, kb33, rfl, N33q, K33, Ex33, Fc33, Fv33, V33⟩ := hQ33
    have N33 := Fr.app N31 N33q
    obtain ⟨T36, h36, X36, e36, E36, A36, D36, -, st36⟩ := newO X33 hx hZ hown (hw _ (List.mem_of_getElem? (i := 30) rfl)) (hw _ (List.mem_of_getElem? (i := 31) rfl)) (hw _ (List.mem_of_getElem? (i := 32) rfl)) rfl (g := (mkF m 183 #[.val (.int p0), .val (.int p1), .val (.int p2), .val (.int p3), .val (.int p4), .val (.int p5), .val (.int ka), .val (.int kb), .val (.int c0), .val (.int c1), .val (.int la), .val (.int lb), .val (.int b0), .val (.int b1), .val (.int lineB), .val (.int colB), .val (.ref r31), .val (.ref r33), .unset, .unset, .unset, .unset, .unset] [])) rfl (hb hby at_183) (by decide) (by decide)
    obtain ⟨b36, g36⟩ : ∃ z, z = T33.heap.size := ⟨_, rfl⟩
    rw [← g36] at A36 D36 st36
    have Sf36_b36 : Safe Z own_EL T33.vm T33.heap b36 := Safe.new (Nat.le_of_eq g36.symm)
    have K37 : Keep h0 T33.heap [] := (K34.trans K33 all0)
    have ge_b36 : n0 ≤ b36 := Nat.le_trans (Nat.le_trans Z0 K37.1) (Nat.le_of_eq g36.symm)
    have sz_b36 : h0.size ≤ b36 := Nat.le_trans K37.1 (Nat.le_of_eq g36.symm)
    have F38 := (Ex31.keep K33)
    have ne_r31_b36 : r31 ≠ b36 := Nat.ne_of_lt (Nat.lt_of_lt_of_le F38.lt (Nat.le_of_eq g36.symm))
    have F39 := (V31.keep K33 nin0)
    have ne_rb31_b36 : rb31 ≠ b36 := Nat.ne_of_lt (Nat.lt_of_lt_of_le F39.lt (Nat.le_of_eq g36.symm))
    have ne_r33_b36 : r33 ≠ b36 := Nat.ne_of_lt (Nat.lt_of_lt_of_le Ex33.lt (Nat.le_of_eq g36.symm))
    have ne_rb33_b36 : rb33 ≠ b36 := Nat.ne_of_lt (Nat.lt_of_lt_of_le V33.lt (Nat.le_of_eq g36.symm))
    have F36_51 : Fld Z h36 b36 "com/example/vetted_traces/vettedtraces/language/Token" "kind" "Lcom/example/vetted_traces/vettedtraces/language/TokenKind;" .null := D36 (Or.inr (hw _ (List.mem_of_getElem? (i := 51) rfl))) (ty := (.object "com/example/vetted_traces/vettedtraces/language/TokenKind")) (by decide)
    have F36_55 : Fld Z h36 b36 "com/example/vetted_traces/vettedtraces/language/Token" "text" "Ljava/lang/String;" .null := D36 (Or.inr (hw _ (List.mem_of_getElem? (i := 55) rfl))) (ty := (.object "java/lang/String")) (by decide)
    have F36_57 : Fld Z h36 b36 "com/example/vetted_traces/vettedtraces/language/Token" "line" "I" (.int (0 : Int32)) := D36 (Or.inr (hw _ (List.mem_of_getElem? (i := 57) rfl))) (ty := .int) (by decide)
    have F36_59 : Fld Z h36 b36 "com/example/vetted_traces/vettedtraces/language/Token" "column" "I" (.int (0 : Int32)) := D36 (Or.inr (hw _ (List.mem_of_getElem? (i := 59) rfl))) (ty := .int) (by decide)
    have K41 : Keep h0 h36 [] := (K37.ext E36)
    have O42 : Old Z n0 h36 := ((O35.keep K33 all0).ext E36)
    obtain ⟨_, _, ⟨T40, L40, kk40, n40⟩, -, X40, ⟨Lc40, hQ40, l40, y40, z40⟩, st40⟩ := Jvm.LawKit.callS X36 hx (y := (⟨"com/example/vetted_traces/vettedtraces/language/TokenEqualsPinLaw", "kind", "(I)Lcom/example/vetted_traces/vettedtraces/language/TokenKind;"⟩ : MethodName)) hown (mvT hZ (hw _ (List.mem_of_getElem? (i := 33) rfl))) (mvT hZ (hw _ (List.mem_of_getElem? (i := 34) rfl))) (mvT hZ (hw _ (List.mem_of_getElem? (i := 6) rfl))) (mvT hZ (hw _ (List.mem_of_getElem? (i := 35) rfl))) (by decide) (backOf (W := 2) (rm6 l Z a0 hw [] ka en h36 n0 (Nat.le_trans Z0 K41.1) HE O42) hZ (hw _ (List.mem_of_getElem? (i := 35) rfl)) (hw _ (List.mem_of_getElem? (i := 6) rfl)) (by decide) (by decide)) (g := (mkF m 189 #[.val (.int p0), .val (.int p1), .val (.int p2), .val (.int p3), .val (.int p4), .val (.int p5), .val (.int ka), .val (.int kb), .val (.int c0), .val (.int c1), .val (.int la), .val (.int lb), .val (.int b0), .val (.int b1), .val (.int lineB), .val (.int colB), .val (.ref r31), .val (.ref r33), .unset, .unset, .unset, .unset, .unset] [(.int ka), (.ref b36), (.ref b36)])) rfl (by rw [hml]; rfl) (argsL := [(.int ka)]) (rest := [(.ref b36), (.ref b36)]) (lenOf own_pd1 rfl) rfl (by show 2 * 0 + _ ≤ _; exact Nat.le_of_eq rfl) (hb hby at_189) (fun _ _ => ⟨rfl, e36, (by decide : 13 + 0 ≤ _), (by decide : 28 + 0 ≤ _)⟩)
    dsimp only [Pt.U, Pt.locs, Pt.cells, Pt.slots] at X40 l40 y40 z40 st40 hQ40
    subst l40 y40 z40
    obtain ⟨rfl, N40q, e40⟩ := hQ40
    have N40 := Fr.app N33 N40q
    have E40 := (own_kindE HE ka).ext O42.2
    have k43 : own_To p e below T40 (mkF m 196 #[.val (.int p0), .val (.int p1), .val (.int p2), .val (.int p3), .val (.int p4), .val (.int p5), .val (.int ka), .val (.int kb), .val (.int c0), .val (.int c1), .val (.int la), .val (.int lb), .val (.int b0), .val (.int b1), .val (.int lineB), .val (.int colB), .val (.ref r31), .val (.ref r33), .unset, .unset, .unset, .unset, .unset] [(.int p3), (.int p2), (.ref r31), (.ref (own_kind en ka)), (.ref b36), (.ref b36)]) s₁ (mkF m 0 #[.val (.int p0), .val (.int p1), .val (.int p2), .val (.int p3), .val (.int p4), .val (.int p5), .unset, .unset, .unset, .unset, .unset, .unset, .unset, .unset, .unset, .unset, .unset, .unset, .unset, .unset, .unset, .unset, .unset] []) := fun t q => k32 t (by
      refine st33.trans ?_
      show Steps p.tables e below (T33.setTop (mkF m 181 #[.val (.int p0), .val (.int p1), .val (.int p2), .val (.int p3), .val (.int p4), .val (.int p5), .val (.int ka), .val (.int kb), .val (.int c0), .val (.int c1), .val (.int la), .val (.int lb), .val (.int b0), .val (.int b1), .val (.int lineB), .val (.int colB), .val (.ref r31), .unset, .unset, .unset, .unset, .unset, .unset] [(.ref r33)])) _
      refine XS.astore X33.here hx rfl (hb hby at_181) rfl rfl (l' := #[.val (.int p0), .val (.int p1), .val (.int p2), .val (.int p3), .val (.int p4), .val (.int p5), .val (.int ka), .val (.int kb), .val (.int c0), .val (.int c1), .val (.int la), .val (.int lb), .val (.int b0), .val (.int b1), .val (.int lineB), .val (.int colB), .val (.ref r31), .val (.ref r33), .unset, .unset, .unset, .unset, .unset]) rfl ?_
      show Steps p.tables e below (T33.setTop (mkF m 183 #[.val (.int p0), .val (.int p1), .val (.int p2), .val (.int p3), .val (.int p4), .val (.int p5), .val (.int ka), .val (.int kb), .val (.int c0), .val (.int c1), .val (.int la), .val (.int lb), .val (.int b0), .val (.int b1), .val (.int lineB), .val (.int colB), .val (.ref r31), .val (.ref r33), .unset, .unset, .unset, .unset, .unset] [])) _
      refine st36 _ ?_
      show Steps p.tables e below (T36.setTop (mkF m 186 #[.val (.int p0), .val (.int p1), .val (.int p2), .val (.int p3), .val (.int p4), .val (.int p5), .val (.int ka), .val (.int kb), .val (.int c0), .val (.int c1), .val (.int la), .val (.int lb), .val (.int b0), .val (.int b1), .val (.int lineB), .val (.int colB), .val (.ref r31), .val (.ref r33), .unset, .unset, .unset, .unset, .unset] [(.ref b36)])) _
      refine XS.dup X36.here hx rfl (hb hby at_186) rfl rfl ?_
      show Steps p.tables e below (T36.setTop (mkF m 187 #[.val (.int p0), .val (.int p1), .val (.int p2), .val (.int p3), .val (.int p4), .val (.int p5), .val (.int ka), .val (.int kb), .val (.int c0), .val (.int c1), .val (.int la), .val (.int lb), .val (.int b0), .val (.int b1), .val (.int lineB), .val (.int colB), .val (.ref r31), .val (.ref r33), .unset, .unset, .unset, .unset, .unset] [(.ref b36), (.ref b36)])) _
      refine XS.iload X36.here hx rfl (hb hby at_187) rfl ?_
      show Steps p.tables e below (T36.setTop (mkF m 189 #[.val (.int p0), .val (.int p1), .val (.int p2), .val (.int p3), .val (.int p4), .val (.int p5), .val (.int ka), .val (.int kb), .val (.int c0), .val (.int c1), .val (.int la), .val (.int lb), .val (.int b0), .val (.int b1), .val (.int lineB), .val (.int colB), .val (.ref r31), .val (.ref r33), .unset, .unset, .unset, .unset, .unset] [(.int ka), (.ref b36), (.ref b36)])) _
      refine st40 _ ?_
      show Steps p.tables e below (T40.setTop (mkF m 192 #[.val (.int p0), .val (.int p1), .val (.int p2), .val (.int p3), .val (.int p4), .val (.int p5), .val (.int ka), .val (.int kb), .val (.int c0), .val (.int c1), .val (.int la), .val (.int lb), .val (.int b0), .val (.int b1), .val (.int lineB), .val (.int colB), .val (.ref r31), .val (.ref r33), .unset, .unset, .unset, .unset, .unset] [(.ref (own_kind en ka)), (.ref b36), (.ref b36)])) _
      refine XS.aload X40.here hx rfl (hb hby at_192) rfl rfl ?_
      show Steps p.tables e below (T40.setTop (mkF m 194 #[.val (.int p0), .val (.int p1), .val (.int p2), .val (.int p3), .val (.int p4), .val (.int p5), .val (.int ka), .val (.int kb), .val (.int c0), .val (.int c1), .val (.int la), .val (.int lb), .val (.int b0), .val (.int b1), .val (.int lineB), .val (.int colB), .val (.ref r31), .val (.ref r33), .unset, .unset, .unset, .unset, .unset] [(.ref r31), (.ref (own_kind en ka)), (.ref b36), (.ref b36)])) _
      refine XS.iloadN X40.here hx rfl (hb hby at_194) rfl ?_
      show Steps p.tables e below (T40.setTop (mkF m 195 #[.val (.int p0), .val (.int p1), .val (.int p2), .val (.int p3), .val (.int p4), .val (.int p5), .val (.int ka), .val (.int kb), .val (.int c0), .val (.int c1), .val (.int la), .val (.int lb), .val (.int b0), .val (.int b1), .val (.int lineB), .val (.int colB), .val (.ref r31), .val (.ref r33), .unset, .unset, .unset, .unset, .unset] [(.int p2), (.ref r31), (.ref (own_kind en ka)), (.ref b36), (.ref b36)])) _
      refine XS.iloadN X40.here hx rfl (hb hby at_195) rfl ?_
      show Steps p.tables e below (T40.setTop (mkF m 196 #[.val (.int p0), .val (.int p1), .val (.int p2), .val (.int p3), .val (.int p4), .val (.int p5), .val (.int ka), .val (.int kb), .val (.int c0), .val (.int c1), .val (.int la), .val (.int lb), .val (.int b0), .val (.int b1), .val (.int lineB), .val (.int colB), .val (.ref r31), .val (.ref r33), .unset, .unset, .unset, .unset, .unset] [(.int p3), (.int p2), (.ref r31), (.ref (own_kind en ka)), (.ref b36), (.ref b36)])) _
      exact q)
    have CRc45 := CRl33.trans (CHr.ext E36 CHl33)
    have Sfc45_b36 := Safe.ext E36 CHl33 Sf36_b36
    have CHc45 := CRc45.1
    have F46 := (F38.ext E36)
    obtain ⟨_, _, ⟨T44, L44, kk44, n44⟩, -, X44, hSs44, hgr44, ⟨Lc44, hQ44, l44, y44, z44, hC44⟩, st44⟩ := X40.specialBackS hx (y := (⟨"com/example/vetted_traces/vettedtraces/language/Token", "<init>", "(Lcom/example/vetted_traces/vettedtraces/language/TokenKind;Ljava/lang/String;II)V"⟩ : MethodName)) rfl hown (mvT hZ (hw _ (List.mem_of_getElem? (i := 39) rfl))) (mvT hZ (hw _ (List.mem_of_getElem? (i := 40) rfl))) (mvT hZ (hw _ (List.mem_of_getElem? (i := 41) rfl))) (by decide) (backOfSH (s := s) (vm0 := T33.vm) (W := 1) (rm7 l Z a0 hw [] b36 (own_kind en ka) r31 p2 p3 h36 n0 (Nat.le_trans Z0 K41.1) F36_51 F36_55 F36_57 F36_59 A36 ge_b36 E40 F46 hEL) hZ (hw _ (List.mem_of_getElem? (i := 41) rfl)) (hw _ (List.mem_of_getElem? (i := 32) rfl)) (by decide) (by decide) hEL CHc45) (g := (mkF m 196 #[.val (.int p0), .val (.int p1), .val (.int p2), .val (.int p3), .val (.int p4), .val (.int p5), .val (.int ka), .val (.int kb), .val (.int c0), .val (.int c1), .val (.int la), .val (.int lb), .val (.int b0), .val (.int b1), .val (.int lineB), .val (.int colB), .val (.ref r31), .val (.ref r33), .unset, .unset, .unset, .unset, .unset] [(.int p3), (.int p2), (.ref r31), (.ref (own_kind en ka)), (.ref b36), (.ref b36)])) rfl (by rw [hml]; rfl) (Steps.refl _) (a := b36) (argsL := [(.ref (own_kind en ka)), (.ref r31), (.int p2), (.int p3)]) (rest := [(.ref b36)]) (lenOf own_pd4 rfl) rfl (by show 2 * 0 + _ ≤ _; exact Nat.le_of_eq rfl) (hb hby at_196) (fun _ _ => ⟨rfl, e40, (by decide : 13 + 4 ≤ _), (by decide : 28 + 40 ≤ _)⟩)
    dsimp only [Pt.U, Pt.locs, Pt.cells, Pt.slots] at X44 l44 y44 z44 st44 hQ44 hSs44 hgr44 hC44
    subst l44 y44 z44
    have X44 := own_again X44
    have hSn44 := foldS hSn33 (by rw [e40]; exact (Nat.le_trans (Nat.le_refl _) E36.1)) hSs44 hgr44
    have hZn44 : Z.Warmed39 (s.setVm T44.vm).vm := State.Warmed39.trans (t := s.setVm T33.vm) hZ hSs44.1
    have hon44 : (s.setVm T44.vm).vm.findClass "com/example/vetted_traces/vettedtraces/language/TokenEqualsPinLaw" = some m.cls := by rw [show (s.setVm T44.vm).vm = T44.vm from rfl, hSs44.1.alike.findClass]; exact hown
    have hZ := hZn44
    have hown := hon44
    have CRl44 := CRc45.trans hC44
    have CHl44 := CRl44.1
    have Sf44_b36 := hC44.safe (A36.lt) Sfc45_b36
    obtain ⟨rfl, N44q, K44, E44, F44_0, F44_1, F44_2, F44_3⟩ := hQ44
    have N44 := Fr.app N40 N44q
    obtain ⟨T47, h47, X47, e47, E47, A47, D47, -, st47⟩ := newO X44 hx hZ hown (hw _ (List.mem_of_getElem? (i := 30) rfl)) (hw _ (List.mem_of_getElem? (i := 31) rfl)) (hw _ (List.mem_of_getElem? (i := 32) rfl)) rfl (g := (mkF m 201 #[.val (.int p0), .val (.int p1), .val (.int p2), .val (.int p3), .val (.int p4), .val (.int p5), .val (.int ka), .val (.int kb), .val (.int c0), .val (.int c1), .val (.int la), .val (.int lb), .val (.int b0), .val (.int b1), .val (.int lineB), .val (.int colB), .val (.ref r31), .val (.ref r33), .val (.ref b36), .unset, .unset, .unset, .unset] [])) rfl (hb hby at_201) (by decide) (by decide)
    obtain ⟨b47, g47⟩ : ∃ z, z = T44.heap.size := ⟨_, rfl⟩
    rw [← g47] at A47 D47 st47
    have Sf47_b47 : Safe Z own_EL T44.vm T44.heap b47 := Safe.new (Nat.le_of_eq g47.symm)
    have K48 : Keep h0 T44.heap [] := (K41.trans K44 (allS (P := fun x => x ∈ ([] : List Addr) ∨ h0.size ≤ x) (Or.inr sz_b36) all0))
    have ge_b47 : n0 ≤ b47 := Nat.le_trans (Nat.le_trans Z0 K48.1) (Nat.le_of_eq g47.symm)
    have sz_b47 : h0.size ≤ b47 := Nat.le_trans K48.1 (Nat.le_of_eq g47.symm)
    have F49 := (F46.keep K44)
    have ne_r31_b47 : r31 ≠ b47 := Nat.ne_of_lt (Nat.lt_of_lt_of_le F49.lt (Nat.le_of_eq g47.symm))
    have F50 := ((F39.ext E36).keep K44 (ninS ne_rb31_b36 nin0))
    have ne_rb31_b47 : rb31 ≠ b47 := Nat.ne_of_lt (Nat.lt_of_lt_of_le F50.lt (Nat.le_of_eq g47.symm))
    have F51 := ((Ex33.ext E36).keep K44)
    have ne_r33_b47 : r33 ≠ b47 := Nat.ne_of_lt (Nat.lt_of_lt_of_le F51.lt (Nat.le_of_eq g47.symm))
    have F52 := ((V33.ext E36).keep K44 (ninS ne_rb33_b36 nin0))
    have ne_rb33_b47 : rb33 ≠ b47 := Nat.ne_of_lt (Nat.lt_of_lt_of_le F52.lt (Nat.le_of_eq g47.symm))
    have F53 := (E40.keep K44)
    have ne__own_kind_en_ka__b47 : (own_kind en ka) ≠ b47 := Nat.ne_of_lt (Nat.lt_of_lt_of_le F53.lt (Nat.le_of_eq g47.symm))
    have ne_b36_b47 : b36 ≠ b47 := Nat.ne_of_lt (Nat.lt_of_lt_of_le E44.lt (Nat.le_of_eq g47.symm))
    have F47_51 : Fld Z h47 b47 "com/example/vetted_traces/vettedtraces/language/Token" "kind" "Lcom/example/vetted_traces/vettedtraces/language/TokenKind;" .null := D47 (Or.inr (hw _ (List.mem_of_getElem? (i := 51) rfl))) (ty := (.object "com/example/vetted_traces/vettedtraces/language/TokenKind")) (by decide)
    have F47_55 : Fld Z h47 b47 "com/example/vetted_traces/vettedtraces/language/Token" "text" "Ljava/lang/String;" .null := D47 (Or.inr (hw _ (List.mem_of_getElem? (i := 55) rfl))) (ty := (.object "java/lang/String")) (by decide)
    have F47_57 : Fld Z h47 b47 "com/example/vetted_traces/vettedtraces/language/Token" "line" "I" (.int (0 : Int32)) := D47 (Or.inr (hw _ (List.mem_of_getElem? (i := 57) rfl))) (ty := .int) (by decide)
    have F47_59 : Fld Z h47 b47 "com/example/vetted_traces/vettedtraces/language/Token" "column" "I" (.int (0 : Int32)) := D47 (Or.inr (hw _ (List.mem_of_getElem? (i := 59) rfl))) (ty := .int) (by decide)
    have K55 : Keep h0 h47 [] := (K48.ext E47)
    have O56 : Old Z n0 h47 := ((O42.keep K44 (allS ge_b36 all0)).ext E47)
    obtain ⟨_, _, ⟨T54, L54, kk54, n54⟩, -, X54, ⟨Lc54, hQ54, l54, y54, z54⟩, st54⟩ := Jvm.LawKit.callS X47 hx (y := (⟨"com/example/vetted_traces/vettedtraces/language/TokenEqualsPinLaw", "kind", "(I)Lcom/example/vetted_traces/vettedtraces/language/TokenKind;"⟩ : MethodName)) hown (mvT hZ (hw _ (List.mem_of_getElem? (i := 33) rfl))) (mvT hZ (hw _ (List.mem_of_getElem? (i := 34) rfl))) (mvT hZ (hw _ (List.mem_of_getElem? (i := 6) rfl))) (mvT hZ (hw _ (List.mem_of_getElem? (i := 35) rfl))) (by decide) (backOf (W := 2) (rm6 l Z a0 hw [] kb en h47 n0 (Nat.le_trans Z0 K55.1) HE O56) hZ (hw _ (List.mem_of_getElem? (i := 35) rfl)) (hw _ (List.mem_of_getElem? (i := 6) rfl)) (by decide) (by decide)) (g := (mkF m 207 #[.val (.int p0), .val (.int p1), .val (.int p2), .val (.int p3), .val (.int p4), .val (.int p5), .val (.int ka), .val (.int kb), .val (.int c0), .val (.int c1), .val (.int la), .val (.int lb), .val (.int b0), .val (.int b1), .val (.int lineB), .val (.int colB), .val (.ref r31), .val (.ref r33), .val (.ref b36), .unset, .unset, .unset, .unset] [(.int kb), (.ref b47), (.ref b47)])) rfl (by rw [hml]; rfl) (argsL := [(.int kb)]) (rest := [(.ref b47), (.ref b47)]) (lenOf own_pd1 rfl) rfl (by show 2 * 0 + _ ≤ _; exact Nat.le_of_eq rfl) (hb hby at_207) (fun _ _ => ⟨rfl, e47, (by decide : 18 + 0 ≤ _), (by decide : 72 + 0 ≤ _)⟩)
    dsimp only [Pt.U, Pt.locs, Pt.cells, Pt.slots] at X54 l54 y54 z54 st54 hQ54
    subst l54 y54 z54
    obtain ⟨rfl, N54q, e54⟩ := hQ54
    have N54 := Fr.app N44 N54q
    have E54 := (own_kindE HE kb).ext O56.2
    have k57 : own_To p e below T54 (mkF m 216 #[.val (.int p0), .val (.int p1), .val (.int p2), .val (.int p3), .val (.int p4), .val (.int p5), .val (.int ka), .val (.int kb), .val (.int c0), .val (.int c1), .val (.int la), .val (.int lb), .val (.int b0), .val (.int b1), .val (.int lineB), .val (.int colB), .val (.ref r31), .val (.ref r33), .val (.ref b36), .unset, .unset, .unset, .unset] [(.int colB), (.int lineB), (.ref r33), (.ref (own_kind en kb)), (.ref b47), (.ref b47)]) s₁ (mkF m 0 #[.val (.int p0), .val (.int p1), .val (.int p2), .val (.int p3), .val (.int p4), .val (.int p5), .unset, .unset, .unset, .unset, .unset, .unset, .unset, .unset, .unset, .unset, .unset, .unset, .unset, .unset, .unset, .unset, .unset] []) := fun t q => k43 t (by
      refine st44.trans ?_
      show Steps p.tables e below (T44.setTop (mkF m 199 #[.val (.int p0), .val (.int p1), .val (.int p2), .val (.int p3), .val (.int p4), .val (.int p5), .val (.int ka), .val (.int kb), .val (.int c0), .val (.int c1), .val (.int la), .val (.int lb), .val (.int b0), .val (.int b1), .val (.int lineB), .val (.int colB), .val (.ref r31), .val (.ref r33), .unset, .unset, .unset, .unset, .unset] [(.ref b36)])) _
      refine XS.astore X44.here hx rfl (hb hby at_199) rfl rfl (l' := #[.val (.int p0), .val (.int p1), .val (.int p2), .val (.int p3), .val (.int p4), .val (.int p5), .val (.int ka), .val (.int kb), .val (.int c0), .val (.int c1), .val (.int la), .val (.int lb), .val (.int b0), .val (.int b1), .val (.int lineB), .val (.int colB), .val (.ref r31), .val (.ref r33), .val (.ref b36), .unset, .unset, .unset, .unset]) rfl ?_
      show Steps p.tables e below (T44.setTop (mkF m 201 #[.val (.int p0), .val (.int p1), .val (.int p2), .val (.int p3), .val (.int p4), .val (.int p5), .val (.int ka), .val (.int kb), .val (.int c0), .val (.int c1), .val (.int la), .val (.int lb), .val (.int b0), .val (.int b1), .val (.int lineB), .val (.int colB), .val (.ref r31), .val (.ref r33), .val (.ref b36), .unset, .unset, .unset, .unset] [])) _
      refine st47 _ ?_
      show Steps p.tables e below (T47.setTop (mkF m 204 #[.val (.int p0), .val (.int p1), .val (.int p2), .val (.int p3), .val (.int p4), .val (.int p5), .val (.int ka), .val (.int kb), .val (.int c0), .val (.int c1), .val (.int la), .val (.int lb), .val (.int b0), .val (.int b1), .val (.int lineB), .val (.int colB), .val (.ref r31), .val (.ref r33), .val (.ref b36), .unset, .unset, .unset, .unset] [(.ref b47)])) _
      refine XS.dup X47.here hx rfl (hb hby at_204) rfl rfl ?_
      show Steps p.tables e below (T47.setTop (mkF m 205 #[.val (.int p0), .val (.int p1), .val (.int p2), .val (.int p3), .val (.int p4), .val (.int p5), .val (.int ka), .val (.int kb), .val (.int c0), .val (.int c1), .val (.int la), .val (.int lb), .val (.int b0), .val (.int b1), .val (.int lineB), .val (.int colB), .val (.ref r31), .val (.ref r33), .val (.ref b36), .unset, .unset, .unset, .unset] [(.ref b47), (.ref b47)])) _
      refine XS.iload X47.here hx rfl (hb hby at_205) rfl ?_
      show Steps p.tables e below (T47.setTop (mkF m 207 #[.val (.int p0), .val (.int p1), .val (.int p2), .val (.int p3), .val (.int p4), .val (.int p5), .val (.int ka), .val (.int kb), .val (.int c0), .val (.int c1), .val (.int la), .val (.int lb), .val (.int b0), .val (.int b1), .val (.int lineB), .val (.int colB), .val (.ref r31), .val (.ref r33), .val (.ref b36), .unset, .unset, .unset, .unset] [(.int kb), (.ref b47), (.ref b47)])) _
      refine st54 _ ?_
      show Steps p.tables e below (T54.setTop (mkF m 210 #[.val (.int p0), .val (.int p1), .val (.int p2), .val (.int p3), .val (.int p4), .val (.int p5), .val (.int ka), .val (.int kb), .val (.int c0), .val (.int c1), .val (.int la), .val (.int lb), .val (.int b0), .val (.int b1), .val (.int lineB), .val (.int colB), .val (.ref r31), .val (.ref r33), .val (.ref b36), .unset, .unset, .unset, .unset] [(.ref (own_kind en kb)), (.ref b47), (.ref b47)])) _
      refine XS.aload X54.here hx rfl (hb hby at_210) rfl rfl ?_
      show Steps p.tables e below (T54.setTop (mkF m 212 #[.val (.int p0), .val (.int p1), .val (.int p2), .val (.int p3), .val (.int p4), .val (.int p5), .val (.int ka), .val (.int kb), .val (.int c0), .val (.int c1), .val (.int la), .val (.int lb), .val (.int b0), .val (.int b1), .val (.int lineB), .val (.int colB), .val (.ref r31), .val (.ref r33), .val (.ref b36), .unset, .unset, .unset, .unset] [(.ref r33), (.ref (own_kind en kb)), (.ref b47), (.ref b47)])) _
      refine XS.iload X54.here hx rfl (hb hby at_212) rfl ?_
      show Steps p.tables e below (T54.setTop (mkF m 214 #[.val (.int p0), .val (.int p1), .val (.int p2), .val (.int p3), .val (.int p4), .val (.int p5), .val (.int ka), .val (.int kb), .val (.int c0), .val (.int c1), .val (.int la), .val (.int lb), .val (.int b0), .val (.int b1), .val (.int lineB), .val (.int colB), .val (.ref r31), .val (.ref r33), .val (.ref b36), .unset, .unset, .unset, .unset] [(.int lineB), (.ref r33), (.ref (own_kind en kb)), (.ref b47), (.ref b47)])) _
      refine XS.iload X54.here hx rfl (hb hby at_214) rfl ?_
      show Steps p.tables e below (T54.setTop (mkF m 216 #[.val (.int p0), .val (.int p1), .val (.int p2), .val (.int p3), .val (.int p4), .val (.int p5), .val (.int ka), .val (.int kb), .val (.int c0), .val (.int c1), .val (.int la), .val (.int lb), .val (.int b0), .val (.int b1), .val (.int lineB), .val (.int colB), .val (.ref r31), .val (.ref r33), .val (.ref b36), .unset, .unset, .unset, .unset] [(.int colB), (.int lineB), (.ref r33), (.ref (own_kind en kb)), (.ref b47), (.ref b47)])) _
      exact q)
    have CRc59 := CRl44.trans (CHr.ext E47 CHl44)
    have Sfc59_b36 := Safe.ext E47 CHl44 Sf44_b36
    have Sfc59_b47 := Safe.ext E47 CHl44 Sf47_b47
    have CHc59 := CRc59.1
    have F60 := (F51.ext E47)
    obtain ⟨_, _, ⟨T58, L58, kk58, n58⟩, -, X58, hSs58, hgr58, ⟨Lc58, hQ58, l58, y58, z58, hC58⟩, st58⟩ := X54.specialBackS hx (y := (⟨"com/example/vetted_traces/vettedtraces/language/Token", "<init>", "(Lcom/example/vetted_traces/vettedtraces/language/TokenKind;Ljava/lang/String;II)V"⟩ : MethodName)) rfl hown (mvT hZ (hw _ (List.mem_of_getElem? (i := 39) rfl))) (mvT hZ (hw _ (List.mem_of_getElem? (i := 40) rfl))) (mvT hZ (hw _ (List.mem_of_getElem? (i := 41) rfl))) (by decide) (backOfSH (s := s) (vm0 := T44.vm) (W := 1) (rm7 l Z a0 hw [] b47 (own_kind en kb) r33 lineB colB h47 n0 (Nat.le_trans Z0 K55.1) F47_51 F47_55 F47_57 F47_59 A47 ge_b47 E54 F60 hEL) hZ (hw _ (List.mem_of_getElem? (i := 41) rfl)) (hw _ (List.mem_of_getElem? (i := 32) rfl)) (by decide) (by decide) hEL CHc59) (g := (mkF m 216 #[.val (.int p0), .val (.int p1), .val (.int p2), .val (.int p3), .val (.int p4), .val (.int p5), .val (.int ka), .val (.int kb), .val (.int c0), .val (.int c1), .val (.int la), .val (.int lb), .val (.int b0), .val (.int b1), .val (.int lineB), .val (.int colB), .val (.ref r31), .val (.ref r33), .val (.ref b36), .unset, .unset, .unset, .unset] [(.int colB), (.int lineB), (.ref r33), (.ref (own_kind en kb)), (.ref b47), (.ref b47)])) rfl (by rw [hml]; rfl) (Steps.refl _) (a := b47) (argsL := [(.ref (own_kind en kb)), (.ref r33), (.int lineB), (.int colB)]) (rest := [(.ref b47)]) (lenOf own_pd4 rfl) rfl (by show 2 * 0 + _ ≤ _; exact Nat.le_of_eq rfl) (hb hby at_216) (fun _ _ => ⟨rfl, e54, (by decide : 18 + 4 ≤ _), (by decide : 72 + 40 ≤ _)⟩)
    dsimp only [Pt.U, Pt.locs, Pt.cells, Pt.slots] at X58 l58 y58 z58 st58 hQ58 hSs58 hgr58 hC58
    subst l58 y58 z58
    have X58 := own_again X58
    have hSn58 := foldS hSn44 (by rw [e54]; exact (Nat.le_trans (Nat.le_refl _) E47.1)) hSs58 hgr58
    have hZn58 : Z.Warmed39 (s.setVm T58.vm).vm := State.Warmed39.trans (t := s.setVm T44.vm) hZ hSs58.1
    have hon58 : (s.setVm T58.vm).vm.findClass "com/example/vetted_traces/vettedtraces/language/TokenEqualsPinLaw" = some m.cls := by rw [show (s.setVm T58.vm).vm = T58.vm from rfl, hSs58.1.alike.findClass]; exact hown
    have hZ := hZn58
    have hown := hon58
    have CRl58 := CRc59.trans hC58
    have CHl58 := CRl58.1
    have Sf58_b36 := hC58.safe ((E44.ext E47).lt) Sfc59_b36
    have Sf58_b47 := hC58.safe (A47.lt) Sfc59_b47
    obtain ⟨rfl, N58q, K58, E58, F58_0, F58_1, F58_2, F58_3⟩ := hQ58
    have N58 := Fr.app N54 N58q
    have k61 : own_To p e below T58 (mkF m 232 #[.val (.int p0), .val (.int p1), .val (.int p2), .val (.int p3), .val (.int p4), .val (.int p5), .val (.int ka), .val (.int kb), .val (.int c0), .val (.int c1), .val (.int la), .val (.int lb), .val (.int b0), .val (.int b1), .val (.int lineB), .val (.int colB), .val (.ref r31), .val (.ref r33), .val (.ref b36), .val (.ref b47), .val (.int (((p0.toUInt32 >>> ((14 : Int32) &&& 31).toUInt32).toInt32) &&& (3 : Int32))), .unset, .unset] [(.int (1 : Int32)), (.int (((p0.toUInt32 >>> ((14 : Int32) &&& 31).toUInt32).toInt32) &&& (3 : Int32)))]) s₁ (mkF m 0 #[.val (.int p0), .val (.int p1), .val (.int p2), .val (.int p3), .val (.int p4), .val (.int p5), .unset, .unset, .unset, .unset, .unset, .unset, .unset, .unset, .unset, .unset, .unset, .unset, .unset, .unset, .unset, .unset, .unset] []) := fun t q => k57 t (by
      refine st58.trans ?_
      show Steps p.tables e below (T58.setTop (mkF m 219 #[.val (.int p0), .val (.int p1), .val (.int p2), .val (.int p3), .val (.int p4), .val (.int p5), .val (.int ka), .val (.int kb), .val (.int c0), .val (.int c1), .val (.int la), .val (.int lb), .val (.int b0), .val (.int b1), .val (.int lineB), .val (.int colB), .val (.ref r31), .val (.ref r33), .val (.ref b36), .unset, .unset, .unset, .unset] [(.ref b47)])) _
      refine XS.astore X58.here hx rfl (hb hby at_219) rfl rfl (l' := #[.val (.int p0), .val (.int p1), .val (.int p2), .val (.int p3), .val (.int p4), .val (.int p5), .val (.int ka), .val (.int kb), .val (.int c0), .val (.int c1), .val (.int la), .val (.int lb), .val (.int b0), .val (.int b1), .val (.int lineB), .val (.int colB), .val (.ref r31), .val (.ref r33), .val (.ref b36), .val (.ref b47), .unset, .unset, .unset]) rfl ?_
      show Steps p.tables e below (T58.setTop (mkF m 221 #[.val (.int p0), .val (.int p1), .val (.int p2), .val (.int p3), .val (.int p4), .val (.int p5), .val (.int ka), .val (.int kb), .val (.int c0), .val (.int c1), .val (.int la), .val (.int lb), .val (.int b0), .val (.int b1), .val (.int lineB), .val (.int colB), .val (.ref r31), .val (.ref r33), .val (.ref b36), .val (.ref b47), .unset, .unset, .unset] [])) _
      refine XS.iloadN X58.here hx rfl (hb hby at_221) rfl ?_
      show Steps p.tables e below (T58.setTop (mkF m 222 #[.val (.int p0), .val (.int p1), .val (.int p2), .val (.int p3), .val (.int p4), .val (.int p5), .val (.int ka), .val (.int kb), .val (.int c0), .val (.int c1), .val (.int la), .val (.int lb), .val (.int b0), .val (.int b1), .val (.int lineB), .val (.int colB), .val (.ref r31), .val (.ref r33), .val (.ref b36), .val (.ref b47), .unset, .unset, .unset] [(.int p0)])) _
      refine XS.bipush X58.here hx rfl (hb hby at_222) ?_
      show Steps p.tables e below (T58.setTop (mkF m 224 #[.val (.int p0), .val (.int p1), .val (.int p2), .val (.int p3), .val (.int p4), .val (.int p5), .val (.int ka), .val (.int kb), .val (.int c0), .val (.int c1), .val (.int la), .val (.int lb), .val (.int b0), .val (.int b1), .val (.int lineB), .val (.int colB), .val (.ref r31), .val (.ref r33), .val (.ref b36), .val (.ref b47), .unset, .unset, .unset] [(.int (14 : Int32)), (.int p0)])) _
      refine XS.iushr X58.here hx rfl (hb hby at_224) rfl ?_
      show Steps p.tables e below (T58.setTop (mkF m 225 #[.val (.int p0), .val (.int p1), .val (.int p2), .val (.int p3), .val (.int p4), .val (.int p5), .val (.int ka), .val (.int kb), .val (.int c0), .val (.int c1), .val (.int la), .val (.int lb), .val (.int b0), .val (.int b1), .val (.int lineB), .val (.int colB), .val (.ref r31), .val (.ref r33), .val (.ref b36), .val (.ref b47), .unset, .unset, .unset] [(.int ((p0.toUInt32 >>> ((14 : Int32) &&& 31).toUInt32).toInt32))])) _
      refine XS.iconst X58.here hx rfl (hb hby at_225) ?_
      show Steps p.tables e below (T58.setTop (mkF m 226 #[.val (.int p0), .val (.int p1), .val (.int p2), .val (.int p3), .val (.int p4), .val (.int p5), .val (.int ka), .val (.int kb), .val (.int c0), .val (.int c1), .val (.int la), .val (.int lb), .val (.int b0), .val (.int b1), .val (.int lineB), .val (.int colB), .val (.ref r31), .val (.ref r33), .val (.ref b36), .val (.ref b47), .unset, .unset, .unset] [(.int (3 : Int32)), (.int ((p0.toUInt32 >>> ((14 : Int32) &&& 31).toUInt32).toInt32))])) _
      refine XS.iand X58.here hx rfl (hb hby at_226) rfl ?_
      show Steps p.tables e below (T58.setTop (mkF m 227 #[.val (.int p0), .val (.int p1), .val (.int p2), .val (.int p3), .val (.int p4), .val (.int p5), .val (.int ka), .val (.int kb), .val (.int c0), .val (.int c1), .val (.int la), .val (.int lb), .val (.int b0), .val (.int b1), .val (.int lineB), .val (.int colB), .val (.ref r31), .val (.ref r33), .val (.ref b36), .val (.ref b47), .unset, .unset, .unset] [(.int (((p0.toUInt32 >>> ((14 : Int32) &&& 31).toUInt32).toInt32) &&& (3 : Int32)))])) _
      refine XS.istore X58.here hx rfl (hb hby at_227) rfl (l' := #[.val (.int p0), .val (.int p1), .val (.int p2), .val (.int p3), .val (.int p4), .val (.int p5), .val (.int ka), .val (.int kb), .val (.int c0), .val (.int c1), .val (.int la), .val (.int lb), .val (.int b0), .val (.int b1), .val (.int lineB), .val (.int colB), .val (.ref r31), .val (.ref r33), .val (.ref b36), .val (.ref b47), .val (.int (((p0.toUInt32 >>> ((14 : Int32) &&& 31).toUInt32).toInt32) &&& (3 : Int32))), .unset, .unset]) rfl ?_
      show Steps p.tables e below (T58.setTop (mkF m 229 #[.val (.int p0), .val (.int p1), .val (.int p2), .val (.int p3), .val (.int p4), .val (.int p5), .val (.int ka), .val (.int kb), .val (.int c0), .val (.int c1), .val (.int la), .val (.int lb), .val (.int b0), .val (.int b1), .val (.int lineB), .val (.int colB), .val (.ref r31), .val (.ref r33), .val (.ref b36), .val (.ref b47), .val (.int (((p0.toUInt32 >>> ((14 : Int32) &&& 31).toUInt32).toInt32) &&& (3 : Int32))), .unset, .unset] [])) _
      refine XS.iload X58.here hx rfl (hb hby at_229) rfl ?_
      show Steps p.tables e below (T58.setTop (mkF m 231 #[.val (.int p0), .val (.int p1), .val (.int p2), .val (.int p3), .val (.int p4), .val (.int p5), .val (.int ka), .val (.int kb), .val (.int c0), .val (.int c1), .val (.int la), .val (.int lb), .val (.int b0), .val (.int b1), .val (.int lineB), .val (.int colB), .val (.ref r31), .val (.ref r33), .val (.ref b36), .val (.ref b47), .val (.int (((p0.toUInt32 >>> ((14 : Int32) &&& 31).toUInt32).toInt32) &&& (3 : Int32))), .unset, .unset] [(.int (((p0.toUInt32 >>> ((14 : Int32) &&& 31).toUInt32).toInt32) &&& (3 : Int32)))])) _
      refine XS.iconst X58.here hx rfl (hb hby at_231) ?_
      show Steps p.tables e below (T58.setTop (mkF m 232 #[.val (.int p0), .val (.int p1), .val (.int p2), .val (.int p3), .val (.int p4), .val (.int p5), .val (.int ka), .val (.int kb), .val (.int c0), .val (.int c1), .val (.int la), .val (.int lb), .val (.int b0), .val (.int b1), .val (.int lineB), .val (.int colB), .val (.ref r31), .val (.ref r33), .val (.ref b36), .val (.ref b47), .val (.int (((p0.toUInt32 >>> ((14 : Int32) &&& 31).toUInt32).toInt32) &&& (3 : Int32))), .unset, .unset] [(.int (1 : Int32)), (.int (((p0.toUInt32 >>> ((14 : Int32) &&& 31).toUInt32).toInt32) &&& (3 : Int32)))])) _
      exact q)
    by_cases hc62 : (((p0.toUInt32 >>> ((14 : Int32) &&& 31).toUInt32).toInt32) &&& (3 : Int32)) = (1 : Int32)
    ·
      have K64 : Keep h0 T58.heap [] := (K55.trans K58 (allS (P := fun x => x ∈ ([] : List Addr) ∨ h0.size ≤ x) (Or.inr sz_b47) all0))
      have F65 := ((E44.ext E47).keep K58)
      obtain ⟨cq63, kq63, q63a, q63b, q63c⟩ := isOf hZ rfl F65
      obtain ⟨_, _, ⟨T63, L63, kk63, n63⟩, -, X63, ⟨Lc63, hQ63, l63, y63, z63⟩, st63⟩ := X58.virtualBack hx (y := (⟨"com/example/vetted_traces/vettedtraces/language/Token", "equals", "(Ljava/lang/Object;)Z"⟩ : MethodName)) (z := (⟨"com/example/vetted_traces/vettedtraces/language/Token", "equals", "(Ljava/lang/Object;)Z"⟩ : MethodName)) hown (mvT hZ (hw _ (List.mem_of_getElem? (i := 60) rfl))) (mvT hZ (hw _ (List.mem_of_getElem? (i := 61) rfl))) (notFace_of_selects (args := #[]) (mvT hZ (hw _ (List.mem_of_getElem? (i := 63) rfl)))) (mvT hZ (hw _ (List.mem_of_getElem? (i := 63) rfl))) (mvT hZ (hw _ (List.mem_of_getElem? (i := 62) rfl))) (by decide) (backOf (W := 0) (rmTN l Z a0 hw [] b36 T58.heap n0 (Nat.le_trans Z0 K64.1)) hZ (hw _ (List.mem_of_getElem? (i := 64) rfl)) (hw _ (List.mem_of_getElem? (i := 32) rfl)) (by decide) (by decide)) q63a q63c (g := (mkF m 238 #[.val (.int p0), .val (.int p1), .val (.int p2), .val (.int p3), .val (.int p4), .val (.int p5), .val (.int ka), .val (.int kb), .val (.int c0), .val (.int c1), .val (.int la), .val (.int lb), .val (.int b0), .val (.int b1), .val (.int lineB), .val (.int colB), .val (.ref r31), .val (.ref r33), .val (.ref b36), .val (.ref b47), .val (.int (((p0.toUInt32 >>> ((14 : Int32) &&& 31).toUInt32).toInt32) &&& (3 : Int32))), .unset, .unset] [.null, (.ref b36)])) rfl (by rw [hml]; rfl) (Steps.refl _) (argsL := [.null]) (rest := []) (lenOf own_pd5 rfl) rfl (by show 2 * 0 + _ ≤ _; exact Nat.le_of_eq rfl) (hb hby at_238) (fun _ _ => ⟨rfl, rfl, (by decide : 22 + 0 ≤ _), (by decide : 112 + 0 ≤ _)⟩)
      dsimp only [Pt.U, Pt.locs, Pt.cells, Pt.slots] at X63 l63 y63 z63 st63 hQ63
      subst l63 y63 z63
      obtain ⟨rfl, N63q, e63⟩ := hQ63
      have N63 := Fr.app N58 N63q
      have k66 : own_To p e below T63 (mkF m 249 #[.val (.int p0), .val (.int p1), .val (.int p2), .val (.int p3), .val (.int p4), .val (.int p5), .val (.int ka), .val (.int kb), .val (.int c0), .val (.int c1), .val (.int la), .val (.int lb), .val (.int b0), .val (.int b1), .val (.int lineB), .val (.int colB), .val (.ref r31), .val (.ref r33), .val (.ref b36), .val (.ref b47), .val (.int (((p0.toUInt32 >>> ((14 : Int32) &&& 31).toUInt32).toInt32) &&& (3 : Int32))), .unset, .unset] [(.int (1 : Int32))]) s₁ (mkF m 0 #[.val (.int p0), .val (.int p1), .val (.int p2), .val (.int p3), .val (.int p4), .val (.int p5), .unset, .unset, .unset, .unset, .unset, .unset, .unset, .unset, .unset, .unset, .unset, .unset, .unset, .unset, .unset, .unset, .unset] []) := fun t q => k61 t (by
        refine XS.icmpNo X58.here hx rfl (hb hby at_232) rfl (teq hc62).2 ?_
        show Steps p.tables e below (T58.setTop (mkF m 235 #[.val (.int p0), .val (.int p1), .val (.int p2), .val (.int p3), .val (.int p4), .val (.int p5), .val (.int ka), .val (.int kb), .val (.int c0), .val (.int c1), .val (.int la), .val (.int lb), .val (.int b0), .val (.int b1), .val (.int lineB), .val (.int colB), .val (.ref r31), .val (.ref r33), .val (.ref b36), .val (.ref b47), .val (.int (((p0.toUInt32 >>> ((14 : Int32) &&& 31).toUInt32).toInt32) &&& (3 : Int32))), .unset, .unset] [])) _
        refine XS.aload X58.here hx rfl (hb hby at_235) rfl rfl ?_
        show Steps p.tables e below (T58.setTop (mkF m 237 #[.val (.int p0), .val (.int p1), .val (.int p2), .val (.int p3), .val (.int p4), .val (.int p5), .val (.int ka), .val (.int kb), .val (.int c0), .val (.int c1), .val (.int la), .val (.int lb), .val (.int b0), .val (.int b1), .val (.int lineB), .val (.int colB), .val (.ref r31), .val (.ref r33), .val (.ref b36), .val (.ref b47), .val (.int (((p0.toUInt32 >>> ((14 : Int32) &&& 31).toUInt32).toInt32) &&& (3 : Int32))), .unset, .unset] [(.ref b36)])) _
        refine XS.aconstNull X58.here hx rfl (hb hby at_237) ?_
        show Steps p.tables e below (T58.setTop (mkF m 238 #[.val (.int p0), .val (.int p1), .val (.int p2), .val (.int p3), .val (.int p4), .val (.int p5), .val (.int ka), .val (.int kb), .val (.int c0), .val (.int c1), .val (.int la), .val (.int lb), .val (.int b0), .val (.int b1), .val (.int lineB), .val (.int colB), .val (.ref r31), .val (.ref r33), .val (.ref b36), .val (.ref b47), .val (.int (((p0.toUInt32 >>> ((14 : Int32) &&& 31).toUInt32).toInt32) &&& (3 : Int32))), .unset, .unset] [.null, (.ref b36)])) _
        refine st63.trans ?_
        show Steps p.tables e below (T63.setTop (mkF m 241 #[.val (.int p0), .val (.int p1), .val (.int p2), .val (.int p3), .val (.int p4), .val (.int p5), .val (.int ka), .val (.int kb), .val (.int c0), .val (.int c1), .val (.int la), .val (.int lb), .val (.int b0), .val (.int b1), .val (.int lineB), .val (.int colB), .val (.ref r31), .val (.ref r33), .val (.ref b36), .val (.ref b47), .val (.int (((p0.toUInt32 >>> ((14 : Int32) &&& 31).toUInt32).toInt32) &&& (3 : Int32))), .unset, .unset] [(.int (0 : Int32))])) _
        refine XS.ifNo X63.here hx rfl (hb hby at_241) rfl ((if0 _ _).trans (teq rfl).2) ?_
        show Steps p.tables e below (T63.setTop (mkF m 244 #[.val (.int p0), .val (.int p1), .val (.int p2), .val (.int p3), .val (.int p4), .val (.int p5), .val (.int ka), .val (.int kb), .val (.int c0), .val (.int c1), .val (.int la), .val (.int lb), .val (.int b0), .val (.int b1), .val (.int lineB), .val (.int colB), .val (.ref r31), .val (.ref r33), .val (.ref b36), .val (.ref b47), .val (.int (((p0.toUInt32 >>> ((14 : Int32) &&& 31).toUInt32).toInt32) &&& (3 : Int32))), .unset, .unset] [])) _
        refine XS.iconst X63.here hx rfl (hb hby at_244) ?_
        show Steps p.tables e below (T63.setTop (mkF m 245 #[.val (.int p0), .val (.int p1), .val (.int p2), .val (.int p3), .val (.int p4), .val (.int p5), .val (.int ka), .val (.int kb), .val (.int c0), .val (.int c1), .val (.int la), .val (.int lb), .val (.int b0), .val (.int b1), .val (.int lineB), .val (.int colB), .val (.ref r31), .val (.ref r33), .val (.ref b36), .val (.ref b47), .val (.int (((p0.toUInt32 >>> ((14 : Int32) &&& 31).toUInt32).toInt32) &&& (3 : Int32))), .unset, .unset] [(.int (1 : Int32))])) _
        refine XS.goto X63.here hx rfl (pc0 := 245) (pc' := 249) rfl (hb hby at_245) (by decide) (by decide) ?_
        show Steps p.tables e below (T63.setTop (mkF m 249 #[.val (.int p0), .val (.int p1), .val (.int p2), .val (.int p3), .val (.int p4), .val (.int p5), .val (.int ka), .val (.int kb), .val (.int c0), .val (.int c1), .val (.int la), .val (.int lb), .val (.int b0), .val (.int b1), .val (.int lineB), .val (.int colB), .val (.ref r31), .val (.ref r33), .val (.ref b36), .val (.ref b47), .val (.int (((p0.toUInt32 >>> ((14 : Int32) &&& 31).toUInt32).toInt32) &&& (3 : Int32))), .unset, .unset] [(.int (1 : Int32))])) _
        exact q)
      have hCe := CRl58.trans (CHv.at (vm0 := T58.vm) X63 hZ hEL CHl58)
      obtain ⟨fs, hr, hrun, hended, hEnd⟩ := Stand.leaveW (s := s) (vm₁ := T58.vm) X63 hSn58 (by rw [e63]; exact (Nat.le_refl _)) (v := some (.int (1 : Int32))) (fun h => by rw [Bd.returns] at h; cases h)
      refine ⟨_, _, k0 _ (k66 _ ?_), hrun, hended, _, _, rfl, ?_, ?_, hEnd.1, hEnd.2.1, hEnd.2.2.1, hEnd.2.2.2.mono (by decide) (by decide)⟩
      · show Steps p.tables e below (T63.setTop (mkF m 249 #[.val (.int p0), .val (.int p1), .val (.int p2), .val (.int p3), .val (.int p4), .val (.int p5), .val (.int ka), .val (.int kb), .val (.int c0), .val (.int c1), .val (.int la), .val (.int lb), .val (.int b0), .val (.int b1), .val (.int lineB), .val (.int colB), .val (.ref r31), .val (.ref r33), .val (.ref b36), .val (.ref b47), .val (.int (((p0.toUInt32 >>> ((14 : Int32) &&& 31).toUInt32).toInt32) &&& (3 : Int32))), .unset, .unset] [(.int (1 : Int32))])) _
        exact retN X63 hx (t := .boolean) Bd.returns (by simp) (hb hby at_249) hr
      · show Q0 Z p0 p1 p2 p3 p4 p5 en cs h0 n0 _ T63.heap _
        rw [e63]
        exact ⟨rfl, N63⟩
      · show CHr Z own_EL s.vm s.heap T63.vm T63.heap
        rw [hh, e63]; exact hCe
    ·
      have k67 : own_To p e below T58 (mkF m 253 #[.val (.int p0), .val (.int p1), .val (.int p2), .val (.int p3), .val (.int p4), .val (.int p5), .val (.int ka), .val (.int kb), .val (.int c0), .val (.int c1), .val (.int la), .val (.int lb), .val (.int b0), .val (.int b1), .val (.int lineB), .val (.int colB), .val (.ref r31), .val (.ref r33), .val (.ref b36), .val (.ref b47), .val (.int (((p0.toUInt32 >>> ((14 : Int32) &&& 31).toUInt32).toInt32) &&& (3 : Int32))), .unset, .unset] [(.int (2 : Int32)), (.int (((p0.toUInt32 >>> ((14 : Int32) &&& 31).toUInt32).toInt32) &&& (3 : Int32)))]) s₁ (mkF m 0 #[.val (.int p0), .val (.int p1), .val (.int p2), .val (.int p3), .val (.int p4), .val (.int p5), .unset, .unset, .unset, .unset, .unset, .unset, .unset, .unset, .unset, .unset, .unset, .unset, .unset, .unset, .unset, .unset, .unset] []) := fun t q => k61 t (by
        refine XS.icmpYes X58.here hx rfl (pc0 := 232) (pc' := 250) rfl (hb hby at_232) rfl (feq hc62).2 (by decide) (by decide) ?_
        show Steps p.tables e below (T58.setTop (mkF m 250 #[.val (.int p0), .val (.int p1), .val (.int p2), .val (.int p3), .val (.int p4), .val (.int p5), .val (.int ka), .val (.int kb), .val (.int c0), .val (.int c1), .val (.int la), .val (.int lb), .val (.int b0), .val (.int b1), .val (.int lineB), .val (.int colB), .val (.ref r31), .val (.ref r33), .val (.ref b36), .val (.ref b47), .val (.int (((p0.toUInt32 >>> ((14 : Int32) &&& 31).toUInt32).toInt32) &&& (3 : Int32))), .unset, .unset] [])) _
        refine XS.iload X58.here hx rfl (hb hby at_250) rfl ?_
        show Steps p.tables e below (T58.setTop (mkF m 252 #[.val (.int p0), .val (.int p1), .val (.int p2), .val (.int p3), .val (.int p4), .val (.int p5), .val (.int ka), .val (.int kb), .val (.int c0), .val (.int c1), .val (.int la), .val (.int lb), .val (.int b0), .val (.int b1), .val (.int lineB), .val (.int colB), .val (.ref r31), .val (.ref r33), .val (.ref b36), .val (.ref b47), .val (.int (((p0.toUInt32 >>> ((14 : Int32) &&& 31).toUInt32).toInt32) &&& (3 : Int32))), .unset, .unset] [(.int (((p0.toUInt32 >>> ((14 : Int32) &&& 31).toUInt32).toInt32) &&& (3 : Int32)))])) _
        refine XS.iconst X58.here hx rfl (hb hby at_252) ?_
        show Steps p.tables e below (T58.setTop (mkF m 253 #[.val (.int p0), .val (.int p1), .val (.int p2), .val (.int p3), .val (.int p4), .val (.int p5), .val (.int ka), .val (.int kb), .val (.int c0), .val (.int c1), .val (.int la), .val (.int lb), .val (.int b0), .val (.int b1), .val (.int lineB), .val (.int colB), .val (.ref r31), .val (.ref r33), .val (.ref b36), .val (.ref b47), .val (.int (((p0.toUInt32 >>> ((14 : Int32) &&& 31).toUInt32).toInt32) &&& (3 : Int32))), .unset, .unset] [(.int (2 : Int32)), (.int (((p0.toUInt32 >>> ((14 : Int32) &&& 31).toUInt32).toInt32) &&& (3 : Int32)))])) _
        exact q)
      by_cases hc68 : (((p0.toUInt32 >>> ((14 : Int32) &&& 31).toUInt32).toInt32) &&& (3 : Int32)) = (2 : Int32)
      ·
        have K70 : Keep h0 T58.heap [] := (K55.trans K58 (allS (P := fun x => x ∈ ([] : List Addr) ∨ h0.size ≤ x) (Or.inr sz_b47) all0))
        have F71 := (F60.keep K58)
        have F72 := ((E44.ext E47).keep K58)
        obtain ⟨cq69, kq69, q69a, q69b, q69c⟩ := isOf hZ rfl F72
        obtain ⟨_, _, ⟨T69, L69, kk69, n69⟩, -, X69, ⟨Lc69, hQ69, l69, y69, z69⟩, st69⟩ := X58.virtualBack hx (y := (⟨"com/example/vetted_traces/vettedtraces/language/Token", "equals", "(Ljava/lang/Object;)Z"⟩ : MethodName)) (z := (⟨"com/example/vetted_traces/vettedtraces/language/Token", "equals", "(Ljava/lang/Object;)Z"⟩ : MethodName)) hown (mvT hZ (hw _ (List.mem_of_getElem? (i := 60) rfl))) (mvT hZ (hw _ (List.mem_of_getElem? (i := 61) rfl))) (notFace_of_selects (args := #[]) (mvT hZ (hw _ (List.mem_of_getElem? (i := 63) rfl)))) (mvT hZ (hw _ (List.mem_of_getElem? (i := 63) rfl))) (mvT hZ (hw _ (List.mem_of_getElem? (i := 62) rfl))) (by decide) (backOf (W := 0) (rmTS l Z a0 hw [] b36 r33 T58.heap n0 (Nat.le_trans Z0 K70.1) F71) hZ (hw _ (List.mem_of_getElem? (i := 64) rfl)) (hw _ (List.mem_of_getElem? (i := 32) rfl)) (by decide) (by decide)) q69a q69c (g := (mkF m 264 #[.val (.int p0), .val (.int p1), .val (.int p2), .val (.int p3), .val (.int p4), .val (.int p5), .val (.int ka), .val (.int kb), .val (.int c0), .val (.int c1), .val (.int la), .val (.int lb), .val (.int b0), .val (.int b1), .val (.int lineB), .val (.int colB), .val (.ref r31), .val (.ref r33), .val (.ref b36), .val (.ref b47), .val (.int (((p0.toUInt32 >>> ((14 : Int32) &&& 31).toUInt32).toInt32) &&& (3 : Int32))), .val (.ref r33), .unset] [(.ref r33), (.ref b36)])) rfl (by rw [hml]; rfl) (Steps.refl _) (argsL := [(.ref r33)]) (rest := []) (lenOf own_pd5 rfl) rfl (by show 2 * 0 + _ ≤ _; exact Nat.le_of_eq rfl) (hb hby at_264) (fun _ _ => ⟨rfl, rfl, (by decide : 22 + 0 ≤ _), (by decide : 112 + 0 ≤ _)⟩)
        dsimp only [Pt.U, Pt.locs, Pt.cells, Pt.slots] at X69 l69 y69 z69 st69 hQ69
        subst l69 y69 z69
        obtain ⟨rfl, N69q, e69⟩ := hQ69
        have N69 := Fr.app N58 N69q
        have k73 : own_To p e below T69 (mkF m 275 #[.val (.int p0), .val (.int p1), .val (.int p2), .val (.int p3), .val (.int p4), .val (.int p5), .val (.int ka), .val (.int kb), .val (.int c0), .val (.int c1), .val (.int la), .val (.int lb), .val (.int b0), .val (.int b1), .val (.int lineB), .val (.int colB), .val (.ref r31), .val (.ref r33), .val (.ref b36), .val (.ref b47), .val (.int (((p0.toUInt32 >>> ((14 : Int32) &&& 31).toUInt32).toInt32) &&& (3 : Int32))), .val (.ref r33), .unset] [(.int (1 : Int32))]) s₁ (mkF m 0 #[.val (.int p0), .val (.int p1), .val (.int p2), .val (.int p3), .val (.int p4), .val (.int p5), .unset, .unset, .unset, .unset, .unset, .unset, .unset, .unset, .unset, .unset, .unset, .unset, .unset, .unset, .unset, .unset, .unset] []) := fun t q => k67 t (by
          refine XS.icmpNo X58.here hx rfl (hb hby at_253) rfl (teq hc68).2 ?_
          show Steps p.tables e below (T58.setTop (mkF m 256 #[.val (.int p0), .val (.int p1), .val (.int p2), .val (.int p3), .val (.int p4), .val (.int p5), .val (.int ka), .val (.int kb), .val (.int c0), .val (.int c1), .val (.int la), .val (.int lb), .val (.int b0), .val (.int b1), .val (.int lineB), .val (.int colB), .val (.ref r31), .val (.ref r33), .val (.ref b36), .val (.ref b47), .val (.int (((p0.toUInt32 >>> ((14 : Int32) &&& 31).toUInt32).toInt32) &&& (3 : Int32))), .unset, .unset] [])) _
          refine XS.aload X58.here hx rfl (hb hby at_256) rfl rfl ?_
          show Steps p.tables e below (T58.setTop (mkF m 258 #[.val (.int p0), .val (.int p1), .val (.int p2), .val (.int p3), .val (.int p4), .val (.int p5), .val (.int ka), .val (.int kb), .val (.int c0), .val (.int c1), .val (.int la), .val (.int lb), .val (.int b0), .val (.int b1), .val (.int lineB), .val (.int colB), .val (.ref r31), .val (.ref r33), .val (.ref b36), .val (.ref b47), .val (.int (((p0.toUInt32 >>> ((14 : Int32) &&& 31).toUInt32).toInt32) &&& (3 : Int32))), .unset, .unset] [(.ref r33)])) _
          refine XS.astore X58.here hx rfl (hb hby at_258) rfl rfl (l' := #[.val (.int p0), .val (.int p1), .val (.int p2), .val (.int p3), .val (.int p4), .val (.int p5), .val (.int ka), .val (.int kb), .val (.int c0), .val (.int c1), .val (.int la), .val (.int lb), .val (.int b0), .val (.int b1), .val (.int lineB), .val (.int colB), .val (.ref r31), .val (.ref r33), .val (.ref b36), .val (.ref b47), .val (.int (((p0.toUInt32 >>> ((14 : Int32) &&& 31).toUInt32).toInt32) &&& (3 : Int32))), .val (.ref r33), .unset]) rfl ?_
          show Steps p.tables e below (T58.setTop (mkF m 260 #[.val (.int p0), .val (.int p1), .val (.int p2), .val (.int p3), .val (.int p4), .val (.int p5), .val (.int ka), .val (.int kb), .val (.int c0), .val (.int c1), .val (.int la), .val (.int lb), .val (.int b0), .val (.int b1), .val (.int lineB), .val (.int colB), .val (.ref r31), .val (.ref r33), .val (.ref b36), .val (.ref b47), .val (.int (((p0.toUInt32 >>> ((14 : Int32) &&& 31).toUInt32).toInt32) &&& (3 : Int32))), .val (.ref r33), .unset] [])) _
          refine XS.aload X58.here hx rfl (hb hby at_260) rfl rfl ?_
          show Steps p.tables e below (T58.setTop (mkF m 262 #[.val (.int p0), .val (.int p1), .val (.int p2), .val (.int p3), .val (.int p4), .val (.int p5), .val (.int ka), .val (.int kb), .val (.int c0), .val (.int c1), .val (.int la), .val (.int lb), .val (.int b0), .val (.int b1), .val (.int lineB), .val (.int colB), .val (.ref r31), .val (.ref r33), .val (.ref b36), .val (.ref b47), .val (.int (((p0.toUInt32 >>> ((14 : Int32) &&& 31).toUInt32).toInt32) &&& (3 : Int32))), .val (.ref r33), .unset] [(.ref b36)])) _
          refine XS.aload X58.here hx rfl (hb hby at_262) rfl rfl ?_
          show Steps p.tables e below (T58.setTop (mkF m 264 #[.val (.int p0), .val (.int p1), .val (.int p2), .val (.int p3), .val (.int p4), .val (.int p5), .val (.int ka), .val (.int kb), .val (.int c0), .val (.int c1), .val (.int la), .val (.int lb), .val (.int b0), .val (.int b1), .val (.int lineB), .val (.int colB), .val (.ref r31), .val (.ref r33), .val (.ref b36), .val (.ref b47), .val (.int (((p0.toUInt32 >>> ((14 : Int32) &&& 31).toUInt32).toInt32) &&& (3 : Int32))), .val (.ref r33), .unset] [(.ref r33), (.ref b36)])) _
          refine st69.trans ?_
          show Steps p.tables e below (T69.setTop (mkF m 267 #[.val (.int p0), .val (.int p1), .val (.int p2), .val (.int p3), .val (.int p4), .val (.int p5), .val (.int ka), .val (.int kb), .val (.int c0), .val (.int c1), .val (.int la), .val (.int lb), .val (.int b0), .val (.int b1), .val (.int lineB), .val (.int colB), .val (.ref r31), .val (.ref r33), .val (.ref b36), .val (.ref b47), .val (.int (((p0.toUInt32 >>> ((14 : Int32) &&& 31).toUInt32).toInt32) &&& (3 : Int32))), .val (.ref r33), .unset] [(.int (0 : Int32))])) _
          refine XS.ifNo X69.here hx rfl (hb hby at_267) rfl ((if0 _ _).trans (teq rfl).2) ?_
          show Steps p.tables e below (T69.setTop (mkF m 270 #[.val (.int p0), .val (.int p1), .val (.int p2), .val (.int p3), .val (.int p4), .val (.int p5), .val (.int ka), .val (.int kb), .val (.int c0), .val (.int c1), .val (.int la), .val (.int lb), .val (.int b0), .val (.int b1), .val (.int lineB), .val (.int colB), .val (.ref r31), .val (.ref r33), .val (.ref b36), .val (.ref b47), .val (.int (((p0.toUInt32 >>> ((14 : Int32) &&& 31).toUInt32).toInt32) &&& (3 : Int32))), .val (.ref r33), .unset] [])) _
          refine XS.iconst X69.here hx rfl (hb hby at_270) ?_
          show Steps p.tables e below (T69.setTop (mkF m 271 #[.val (.int p0), .val (.int p1), .val (.int p2), .val (.int p3), .val (.int p4), .val (.int p5), .val (.int ka), .val (.int kb), .val (.int c0), .val (.int c1), .val (.int la), .val (.int lb), .val (.int b0), .val (.int b1), .val (.int lineB), .val (.int colB), .val (.ref r31), .val (.ref r33), .val (.ref b36), .val (.ref b47), .val (.int (((p0.toUInt32 >>> ((14 : Int32) &&& 31).toUInt32).toInt32) &&& (3 : Int32))), .val (.ref r33), .unset] [(.int (1 : Int32))])) _
          refine XS.goto X69.here hx rfl (pc0 := 271) (pc' := 275) rfl (hb hby at_271) (by decide) (by decide) ?_
          show Steps p.tables e below (T69.setTop (mkF m 275 #[.val (.int p0), .val (.int p1), .val (.int p2), .val (.int p3), .val (.int p4), .val (.int p5), .val (.int ka), .val (.int kb), .val (.int c0), .val (.int c1), .val (.int la), .val (.int lb), .val (.int b0), .val (.int b1), .val (.int lineB), .val (.int colB), .val (.ref r31), .val (.ref r33), .val (.ref b36), .val (.ref b47), .val (.int (((p0.toUInt32 >>> ((14 : Int32) &&& 31).toUInt32).toInt32) &&& (3 : Int32))), .val (.ref r33), .unset] [(.int (1 : Int32))])) _
          exact q)
        have hCe := CRl58.trans (CHv.at (vm0 := T58.vm) X69 hZ hEL CHl58)
        obtain ⟨fs, hr, hrun, hended, hEnd⟩ := Stand.leaveW (s := s) (vm₁ := T58.vm) X69 hSn58 (by rw [e69]; exact (Nat.le_refl _)) (v := some (.int (1 : Int32))) (fun h => by rw [Bd.returns] at h; cases h)
        refine ⟨_, _, k0 _ (k73 _ ?_), hrun, hended, _, _, rfl, ?_, ?_, hEnd.1, hEnd.2.1, hEnd.2.2.1, hEnd.2.2.2.mono (by decide) (by decide)⟩
        · show Steps p.tables e below (T69.setTop (mkF m 275 #[.val (.int p0), .val (.int p1), .val (.int p2), .val (.int p3), .val (.int p4), .val (.int p5), .val (.int ka), .val (.int kb), .val (.int c0), .val (.int c1), .val (.int la), .val (.int lb), .val (.int b0), .val (.int b1), .val (.int lineB), .val (.int colB), .val (.ref r31), .val (.ref r33), .val (.ref b36), .val (.ref b47), .val (.int (((p0.toUInt32 >>> ((14 : Int32) &&& 31).toUInt32).toInt32) &&& (3 : Int32))), .val (.ref r33), .unset] [(.int (1 : Int32))])) _
          exact retN X69 hx (t := .boolean) Bd.returns (by simp) (hb hby at_275) hr
        · show Q0 Z p0 p1 p2 p3 p4 p5 en cs h0 n0 _ T69.heap _
          rw [e69]
          exact ⟨rfl, N69⟩
        · show CHr Z own_EL s.vm s.heap T69.vm T69.heap
          rw [hh, e69]; exact hCe
      ·
        have k74 : own_To p e below T58 (mkF m 280 #[.val (.int p0), .val (.int p1), .val (.int p2), .val (.int p3), .val (.int p4), .val (.int p5), .val (.int ka), .val (.int kb), .val (.int c0), .val (.int c1), .val (.int la), .val (.int lb), .val (.int b0), .val (.int b1), .val (.int lineB), .val (.int colB), .val (.ref r31), .val (.ref r33), .val (.ref b36), .val (.ref b47), .val (.int (((p0.toUInt32 >>> ((14 : Int32) &&& 31).toUInt32).toInt32) &&& (3 : Int32))), .unset, .unset] [(.int lb), (.int la)]) s₁ (mkF m 0 #[.val (.int p0), .val (.int p1), .val (.int p2), .val (.int p3), .val (.int p4), .val (.int p5), .unset, .unset, .unset, .unset, .unset, .unset, .unset, .unset, .unset, .unset, .unset, .unset, .unset, .unset, .unset, .unset, .unset] []) := fun t q => k67 t (by
          refine XS.icmpYes X58.here hx rfl (pc0 := 253) (pc' := 276) rfl (hb hby at_253) rfl (feq hc68).2 (by decide) (by decide) ?_
          show Steps p.tables e below (T58.setTop (mkF m 276 #[.val (.int p0), .val (.int p1), .val (.int p2), .val (.int p3), .val (.int p4), .val (.int p5), .val (.int ka), .val (.int kb), .val (.int c0), .val (.int c1), .val (.int la), .val (.int lb), .val (.int b0), .val (.int b1), .val (.int lineB), .val (.int colB), .val (.ref r31), .val (.ref r33), .val (.ref b36), .val (.ref b47), .val (.int (((p0.toUInt32 >>> ((14 : Int32) &&& 31).toUInt32).toInt32) &&& (3 : Int32))), .unset, .unset] [])) _
          refine XS.iload X58.here hx rfl (hb hby at_276) rfl ?_
          show Steps p.tables e below (T58.setTop (mkF m 278 #[.val (.int p0), .val (.int p1), .val (.int p2), .val (.int p3), .val (.int p4), .val (.int p5), .val (.int ka), .val (.int kb), .val (.int c0), .val (.int c1), .val (.int la), .val (.int lb), .val (.int b0), .val (.int b1), .val (.int lineB), .val (.int colB), .val (.ref r31), .val (.ref r33), .val (.ref b36), .val (.ref b47), .val (.int (((p0.toUInt32 >>> ((14 : Int32) &&& 31).toUInt32).toInt32) &&& (3 : Int32))), .unset, .unset] [(.int la)])) _
          refine XS.iload X58.here hx rfl (hb hby at_278) rfl ?_
          show Steps p.tables e below (T58.setTop (mkF m 280 #[.val (.int p0), .val (.int p1), .val (.int p2), .val (.int p3), .val (.int p4), .val (.int p5), .val (.int ka), .val (.int kb), .val (.int c0), .val (.int c1), .val (.int la), .val (.int lb), .val (.int b0), .val (.int b1), .val (.int lineB), .val (.int colB), .val (.ref r31), .val (.ref r33), .val (.ref b36), .val (.ref b47), .val (.int (((p0.toUInt32 >>> ((14 : Int32) &&& 31).toUInt32).toInt32) &&& (3 : Int32))), .unset, .unset] [(.int lb), (.int la)])) _
          exact q)
        obtain ⟨te_, hte_, k82⟩ : ∃ (te_ : Int32), (te_ = (if la = lb then (if la < (1 : Int32) then (if la < (2 : Int32) then (1 : Int32) else (if c1 = b1 then (1 : Int32) else (0 : Int32))) else (if c0 = b0 then (if la < (2 : Int32) then (1 : Int32) else (if c1 = b1 then (1 : Int32) else (0 : Int32))) else (0 : Int32))) else (0 : Int32))) ∧ own_To p e below T58 (mkF m 314 #[.val (.int p0), .val (.int p1), .val (.int p2), .val (.int p3), .val (.int p4), .val (.int p5), .val (.int ka), .val (.int kb), .val (.int c0), .val (.int c1), .val (.int la), .val (.int lb), .val (.int b0), .val (.int b1), .val (.int lineB), .val (.int colB), .val (.ref r31), .val (.ref r33), .val (.ref b36), .val (.ref b47), .val (.int (((p0.toUInt32 >>> ((14 : Int32) &&& 31).toUInt32).toInt32) &&& (3 : Int32))), .unset, .unset] [(.int te_)]) s₁ (mkF m 0 #[.val (.int p0), .val (.int p1), .val (.int p2), .val (.int p3), .val (.int p4), .val (.int p5), .unset, .unset, .unset, .unset, .unset, .unset, .unset, .unset, .unset, .unset, .unset, .unset, .unset, .unset, .unset, .unset, .unset] []) := by
          by_cases hm75 : la = lb
          ·
            by_cases hm76 : la < (1 : Int32)
            ·
              by_cases hm77 : la < (2 : Int32)
              ·
                refine ⟨(1 : Int32), by rw [if_pos hm75, if_pos hm76, if_pos hm77], fun t q => k74 t (?_)⟩
                refine XS.icmpNo X58.here hx rfl (hb hby at_280) rfl (teq hm75).2 ?_
                show Steps p.tables e below (T58.setTop (mkF m 283 #[.val (.int p0), .val (.int p1), .val (.int p2), .val (.int p3), .val (.int p4), .val (.int p5), .val (.int ka), .val (.int kb), .val (.int c0), .val (.int c1), .val (.int la), .val (.int lb), .val (.int b0), .val (.int b1), .val (.int lineB), .val (.int colB), .val (.ref r31), .val (.ref r33), .val (.ref b36), .val (.ref b47), .val (.int (((p0.toUInt32 >>> ((14 : Int32) &&& 31).toUInt32).toInt32) &&& (3 : Int32))), .unset, .unset] [])) _
                refine XS.iload X58.here hx rfl (hb hby at_283) rfl ?_
                show Steps p.tables e below (T58.setTop (mkF m 285 #[.val (.int p0), .val (.int p1), .val (.int p2), .val (.int p3), .val (.int p4), .val (.int p5), .val (.int ka), .val (.int kb), .val (.int c0), .val (.int c1), .val (.int la), .val (.int lb), .val (.int b0), .val (.int b1), .val (.int lineB), .val (.int colB), .val (.ref r31), .val (.ref r33), .val (.ref b36), .val (.ref b47), .val (.int (((p0.toUInt32 >>> ((14 : Int32) &&& 31).toUInt32).toInt32) &&& (3 : Int32))), .unset, .unset] [(.int la)])) _
                refine XS.iconst X58.here hx rfl (hb hby at_285) ?_
                show Steps p.tables e below (T58.setTop (mkF m 286 #[.val (.int p0), .val (.int p1), .val (.int p2), .val (.int p3), .val (.int p4), .val (.int p5), .val (.int ka), .val (.int kb), .val (.int c0), .val (.int c1), .val (.int la), .val (.int lb), .val (.int b0), .val (.int b1), .val (.int lineB), .val (.int colB), .val (.ref r31), .val (.ref r33), .val (.ref b36), .val (.ref b47), .val (.int (((p0.toUInt32 >>> ((14 : Int32) &&& 31).toUInt32).toInt32) &&& (3 : Int32))), .unset, .unset] [(.int (1 : Int32)), (.int la)])) _
                refine XS.icmpYes X58.here hx rfl (pc0 := 286) (pc' := 296) rfl (hb hby at_286) rfl (tlt hm76).1 (by decide) (by decide) ?_
                show Steps p.tables e below (T58.setTop (mkF m 296 #[.val (.int p0), .val (.int p1), .val (.int p2), .val (.int p3), .val (.int p4), .val (.int p5), .val (.int ka), .val (.int kb), .val (.int c0), .val (.int c1), .val (.int la), .val (.int lb), .val (.int b0), .val (.int b1), .val (.int lineB), .val (.int colB), .val (.ref r31), .val (.ref r33), .val (.ref b36), .val (.ref b47), .val (.int (((p0.toUInt32 >>> ((14 : Int32) &&& 31).toUInt32).toInt32) &&& (3 : Int32))), .unset, .unset] [])) _
                refine XS.iload X58.here hx rfl (hb hby at_296) rfl ?_
                show Steps p.tables e below (T58.setTop (mkF m 298 #[.val (.int p0), .val (.int p1), .val (.int p2), .val (.int p3), .val (.int p4), .val (.int p5), .val (.int ka), .val (.int kb), .val (.int c0), .val (.int c1), .val (.int la), .val (.int lb), .val (.int b0), .val (.int b1), .val (.int lineB), .val (.int colB), .val (.ref r31), .val (.ref r33), .val (.ref b36), .val (.ref b47), .val (.int (((p0.toUInt32 >>> ((14 : Int32) &&& 31).toUInt32).toInt32) &&& (3 : Int32))), .unset, .unset] [(.int la)])) _
                refine XS.iconst X58.here hx rfl (hb hby at_298) ?_
                show Steps p.tables e below (T58.setTop (mkF m 299 #[.val (.int p0), .val (.int p1), .val (.int p2), .val (.int p3), .val (.int p4), .val (.int p5), .val (.int ka), .val (.int kb), .val (.int c0), .val (.int c1), .val (.int la), .val (.int lb), .val (.int b0), .val (.int b1), .val (.int lineB), .val (.int colB), .val (.ref r31), .val (.ref r33), .val (.ref b36), .val (.ref b47), .val (.int (((p0.toUInt32 >>> ((14 : Int32) &&& 31).toUInt32).toInt32) &&& (3 : Int32))), .unset, .unset] [(.int (2 : Int32)), (.int la)])) _
                refine XS.icmpYes X58.here hx rfl (pc0 := 299) (pc' := 309) rfl (hb hby at_299) rfl (tlt hm77).1 (by decide) (by decide) ?_
                show Steps p.tables e below (T58.setTop (mkF m 309 #[.val (.int p0), .val (.int p1), .val (.int p2), .val (.int p3), .val (.int p4), .val (.int p5), .val (.int ka), .val (.int kb), .val (.int c0), .val (.int c1), .val (.int la), .val (.int lb), .val (.int b0), .val (.int b1), .val (.int lineB), .val (.int colB), .val (.ref r31), .val (.ref r33), .val (.ref b36), .val (.ref b47), .val (.int (((p0.toUInt32 >>> ((14 : Int32) &&& 31).toUInt32).toInt32) &&& (3 : Int32))), .unset, .unset] [])) _
                refine XS.iconst X58.here hx rfl (hb hby at_309) ?_
                show Steps p.tables e below (T58.setTop (mkF m 310 #[.val (.int p0), .val (.int p1), .val (.int p2), .val (.int p3), .val (.int p4), .val (.int p5), .val (.int ka), .val (.int kb), .val (.int c0), .val (.int c1), .val (.int la), .val (.int lb), .val (.int b0), .val (.int b1), .val (.int lineB), .val (.int colB), .val (.ref r31), .val (.ref r33), .val (.ref b36), .val (.ref b47), .val (.int (((p0.toUInt32 >>> ((14 : Int32) &&& 31).toUInt32).toInt32) &&& (3 : Int32))), .unset, .unset] [(.int (1 : Int32))])) _
                refine XS.goto X58.here hx rfl (pc0 := 310) (pc' := 314) rfl (hb hby at_310) (by decide) (by decide) ?_
                show Steps p.tables e below (T58.setTop (mkF m 314 #[.val (.int p0), .val (.int p1), .val (.int p2), .val (.int p3), .val (.int p4), .val (.int p5), .val (.int ka), .val (.int kb), .val (.int c0), .val (.int c1), .val (.int la), .val (.int lb), .val (.int b0), .val (.int b1), .val (.int lineB), .val (.int colB), .val (.ref r31), .val (.ref r33), .val (.ref b36), .val (.ref b47), .val (.int (((p0.toUInt32 >>> ((14 : Int32) &&& 31).toUInt32).toInt32) &&& (3 : Int32))), .unset, .unset] [(.int (1 : Int32))])) _
                exact q
              ·
                by_cases hm78 : c1 = b1
                ·
                  refine ⟨(1 : Int32), by rw [if_pos hm75, if_pos hm76, if_neg hm77, if_pos hm78], fun t q => k74 t (?_)⟩
                  refine XS.icmpNo X58.here hx rfl (hb hby at_280) rfl (teq hm75).2 ?_
                  show Steps p.tables e below (T58.setTop (mkF m 283 #[.val (.int p0), .val (.int p1), .val (.int p2), .val (.int p3), .val (.int p4), .val (.int p5), .val (.int ka), .val (.int kb), .val (.int c0), .val (.int c1), .val (.int la), .val (.int lb), .val (.int b0), .val (.int b1), .val (.int lineB), .val (.int colB), .val (.ref r31), .val (.ref r33), .val (.ref b36), .val (.ref b47), .val (.int (((p0.toUInt32 >>> ((14 : Int32) &&& 31).toUInt32).toInt32) &&& (3 : Int32))), .unset, .unset] [])) _
                  refine XS.iload X58.here hx rfl (hb hby at_283) rfl ?_
                  show Steps p.tables e below (T58.setTop (mkF m 285 #[.val (.int p0), .val (.int p1), .val (.int p2), .val (.int p3), .val (.int p4), .val (.int p5), .val (.int ka), .val (.int kb), .val (.int c0), .val (.int c1), .val (.int la), .val (.int lb), .val (.int b0), .val (.int b1), .val (.int lineB), .val (.int colB), .val (.ref r31), .val (.ref r33), .val (.ref b36), .val (.ref b47), .val (.int (((p0.toUInt32 >>> ((14 : Int32) &&& 31).toUInt32).toInt32) &&& (3 : Int32))), .unset, .unset] [(.int la)])) _
                  refine XS.iconst X58.here hx rfl (hb hby at_285) ?_
                  show Steps p.tables e below (T58.setTop (mkF m 286 #[.val (.int p0), .val (.int p1), .val (.int p2), .val (.int p3), .val (.int p4), .val (.int p5), .val (.int ka), .val (.int kb), .val (.int c0), .val (.int c1), .val (.int la), .val (.int lb), .val (.int b0), .val (.int b1), .val (.int lineB), .val (.int colB), .val (.ref r31), .val (.ref r33), .val (.ref b36), .val (.ref b47), .val (.int (((p0.toUInt32 >>> ((14 : Int32) &&& 31).toUInt32).toInt32) &&& (3 : Int32))), .unset, .unset] [(.int (1 : Int32)), (.int la)])) _
                  refine XS.icmpYes X58.here hx rfl (pc0 := 286) (pc' := 296) rfl (hb hby at_286) rfl (tlt hm76).1 (by decide) (by decide) ?_
                  show Steps p.tables e below (T58.setTop (mkF m 296 #[.val (.int p0), .val (.int p1), .val (.int p2), .val (.int p3), .val (.int p4), .val (.int p5), .val (.int ka), .val (.int kb), .val (.int c0), .val (.int c1), .val (.int la), .val (.int lb), .val (.int b0), .val (.int b1), .val (.int lineB), .val (.int colB), .val (.ref r31), .val (.ref r33), .val (.ref b36), .val (.ref b47), .val (.int (((p0.toUInt32 >>> ((14 : Int32) &&& 31).toUInt32).toInt32) &&& (3 : Int32))), .unset, .unset] [])) _
                  refine XS.iload X58.here hx rfl (hb hby at_296) rfl ?_
                  show Steps p.tables e below (T58.setTop (mkF m 298 #[.val (.int p0), .val (.int p1), .val (.int p2), .val (.int p3), .val (.int p4), .val (.int p5), .val (.int ka), .val (.int kb), .val (.int c0), .val (.int c1), .val (.int la), .val (.int lb), .val (.int b0), .val (.int b1), .val (.int lineB), .val (.int colB), .val (.ref r31), .val (.ref r33), .val (.ref b36), .val (.ref b47), .val (.int (((p0.toUInt32 >>> ((14 : Int32) &&& 31).toUInt32).toInt32) &&& (3 : Int32))), .unset, .unset] [(.int la)])) _
                  refine XS.iconst X58.here hx rfl (hb hby at_298) ?_
                  show Steps p.tables e below (T58.setTop (mkF m 299 #[.val (.int p0), .val (.int p1), .val (.int p2), .val (.int p3), .val (.int p4), .val (.int p5), .val (.int ka), .val (.int kb), .val (.int c0), .val (.int c1), .val (.int la), .val (.int lb), .val (.int b0), .val (.int b1), .val (.int lineB), .val (.int colB), .val (.ref r31), .val (.ref r33), .val (.ref b36), .val (.ref b47), .val (.int (((p0.toUInt32 >>> ((14 : Int32) &&& 31).toUInt32).toInt32) &&& (3 : Int32))), .unset, .unset] [(.int (2 : Int32)), (.int la)])) _
                  refine XS.icmpNo X58.here hx rfl (hb hby at_299) rfl (flt hm77).1 ?_
                  show Steps p.tables e below (T58.setTop (mkF m 302 #[.val (.int p0), .val (.int p1), .val (.int p2), .val (.int p3), .val (.int p4), .val (.int p5), .val (.int ka), .val (.int kb), .val (.int c0), .val (.int c1), .val (.int la), .val (.int lb), .val (.int b0), .val (.int b1), .val (.int lineB), .val (.int colB), .val (.ref r31), .val (.ref r33), .val (.ref b36), .val (.ref b47), .val (.int (((p0.toUInt32 >>> ((14 : Int32) &&& 31).toUInt32).toInt32) &&& (3 : Int32))), .unset, .unset] [])) _
                  refine XS.iload X58.here hx rfl (hb hby at_302) rfl ?_
                  show Steps p.tables e below (T58.setTop (mkF m 304 #[.val (.int p0), .val (.int p1), .val (.int p2), .val (.int p3), .val (.int p4), .val (.int p5), .val (.int ka), .val (.int kb), .val (.int c0), .val (.int c1), .val (.int la), .val (.int lb), .val (.int b0), .val (.int b1), .val (.int lineB), .val (.int colB), .val (.ref r31), .val (.ref r33), .val (.ref b36), .val (.ref b47), .val (.int (((p0.toUInt32 >>> ((14 : Int32) &&& 31).toUInt32).toInt32) &&& (3 : Int32))), .unset, .unset] [(.int c1)])) _
                  refine XS.iload X58.here hx rfl (hb hby at_304) rfl ?_
                  show Steps p.tables e below (T58.setTop (mkF m 306 #[.val (.int p0), .val (.int p1), .val (.int p2), .val (.int p3), .val (.int p4), .val (.int p5), .val (.int ka), .val (.int kb), .val (.int c0), .val (.int c1), .val (.int la), .val (.int lb), .val (.int b0), .val (.int b1), .val (.int lineB), .val (.int colB), .val (.ref r31), .val (.ref r33), .val (.ref b36), .val (.ref b47), .val (.int (((p0.toUInt32 >>> ((14 : Int32) &&& 31).toUInt32).toInt32) &&& (3 : Int32))), .unset, .unset] [(.int b1), (.int c1)])) _
                  refine XS.icmpNo X58.here hx rfl (hb hby at_306) rfl (teq hm78).2 ?_
                  show Steps p.tables e below (T58.setTop (mkF m 309 #[.val (.int p0), .val (.int p1), .val (.int p2), .val (.int p3), .val (.int p4), .val (.int p5), .val (.int ka), .val (.int kb), .val (.int c0), .val (.int c1), .val (.int la), .val (.int lb), .val (.int b0), .val (.int b1), .val (.int lineB), .val (.int colB), .val (.ref r31), .val (.ref r33), .val (.ref b36), .val (.ref b47), .val (.int (((p0.toUInt32 >>> ((14 : Int32) &&& 31).toUInt32).toInt32) &&& (3 : Int32))), .unset, .unset] [])) _
                  refine XS.iconst X58.here hx rfl (hb hby at_309) ?_
                  show Steps p.tables e below (T58.setTop (mkF m 310 #[.val (.int p0), .val (.int p1), .val (.int p2), .val (.int p3), .val (.int p4), .val (.int p5), .val (.int ka), .val (.int kb), .val (.int c0), .val (.int c1), .val (.int la), .val (.int lb), .val (.int b0), .val (.int b1), .val (.int lineB), .val (.int colB), .val (.ref r31), .val (.ref r33), .val (.ref b36), .val (.ref b47), .val (.int (((p0.toUInt32 >>> ((14 : Int32) &&& 31).toUInt32).toInt32) &&& (3 : Int32))), .unset, .unset] [(.int (1 : Int32))])) _
                  refine XS.goto X58.here hx rfl (pc0 := 310) (pc' := 314) rfl (hb hby at_310) (by decide) (by decide) ?_
                  show Steps p.tables e below (T58.setTop (mkF m 314 #[.val (.int p0), .val (.int p1), .val (.int p2), .val (.int p3), .val (.int p4), .val (.int p5), .val (.int ka), .val (.int kb), .val (.int c0), .val (.int c1), .val (.int la), .val (.int lb), .val (.int b0), .val (.int b1), .val (.int lineB), .val (.int colB), .val (.ref r31), .val (.ref r33), .val (.ref b36), .val (.ref b47), .val (.int (((p0.toUInt32 >>> ((14 : Int32) &&& 31).toUInt32).toInt32) &&& (3 : Int32))), .unset, .unset] [(.int (1 : Int32))])) _
                  exact q
                ·
                  refine ⟨(0 : Int32), by rw [if_pos hm75, if_pos hm76, if_neg hm77, if_neg hm78], fun t q => k74 t (?_)⟩
                  refine XS.icmpNo X58.here hx rfl (hb hby at_280) rfl (teq hm75).2 ?_
                  show Steps p.tables e below (T58.setTop (mkF m 283 #[.val (.int p0), .val (.int p1), .val (.int p2), .val (.int p3), .val (.int p4), .val (.int p5), .val (.int ka), .val (.int kb), .val (.int c0), .val (.int c1), .val (.int la), .val (.int lb), .val (.int b0), .val (.int b1), .val (.int lineB), .val (.int colB), .val (.ref r31), .val (.ref r33), .val (.ref b36), .val (.ref b47), .val (.int (((p0.toUInt32 >>> ((14 : Int32) &&& 31).toUInt32).toInt32) &&& (3 : Int32))), .unset, .unset] [])) _
                  refine XS.iload X58.here hx rfl (hb hby at_283) rfl ?_
                  show Steps p.tables e below (T58.setTop (mkF m 285 #[.val (.int p0), .val (.int p1), .val (.int p2), .val (.int p3), .val (.int p4), .val (.int p5), .val (.int ka), .val (.int kb), .val (.int c0), .val (.int c1), .val (.int la), .val (.int lb), .val (.int b0), .val (.int b1), .val (.int lineB), .val (.int colB), .val (.ref r31), .val (.ref r33), .val (.ref b36), .val (.ref b47), .val (.int (((p0.toUInt32 >>> ((14 : Int32) &&& 31).toUInt32).toInt32) &&& (3 : Int32))), .unset, .unset] [(.int la)])) _
                  refine XS.iconst X58.here hx rfl (hb hby at_285) ?_
                  show Steps p.tables e below (T58.setTop (mkF m 286 #[.val (.int p0), .val (.int p1), .val (.int p2), .val (.int p3), .val (.int p4), .val (.int p5), .val (.int ka), .val (.int kb), .val (.int c0), .val (.int c1), .val (.int la), .val (.int lb), .val (.int b0), .val (.int b1), .val (.int lineB), .val (.int colB), .val (.ref r31), .val (.ref r33), .val (.ref b36), .val (.ref b47), .val (.int (((p0.toUInt32 >>> ((14 : Int32) &&& 31).toUInt32).toInt32) &&& (3 : Int32))), .unset, .unset] [(.int (1 : Int32)), (.int la)])) _
                  refine XS.icmpYes X58.here hx rfl (pc0 := 286) (pc' := 296) rfl (hb hby at_286) rfl (tlt hm76).1 (by decide) (by decide) ?_
                  show Steps p.tables e below (T58.setTop (mkF m 296 #[.val (.int p0), .val (.int p1), .val (.int p2), .val (.int p3), .val (.int p4), .val (.int p5), .val (.int ka), .val (.int kb), .val (.int c0), .val (.int c1), .val (.int la), .val (.int lb), .val (.int b0), .val (.int b1), .val (.int lineB), .val (.int colB), .val (.ref r31), .val (.ref r33), .val (.ref b36), .val (.ref b47), .val (.int (((p0.toUInt32 >>> ((14 : Int32) &&& 31).toUInt32).toInt32) &&& (3 : Int32))), .unset, .unset] [])) _
                  refine XS.iload X58.here hx rfl (hb hby at_296) rfl ?_
                  show Steps p.tables e below (T58.setTop (mkF m 298 #[.val (.int p0), .val (.int p1), .val (.int p2), .val (.int p3), .val (.int p4), .val (.int p5), .val (.int ka), .val (.int kb), .val (.int c0), .val (.int c1), .val (.int la), .val (.int lb), .val (.int b0), .val (.int b1), .val (.int lineB), .val (.int colB), .val (.ref r31), .val (.ref r33), .val (.ref b36), .val (.ref b47), .val (.int (((p0.toUInt32 >>> ((14 : Int32) &&& 31).toUInt32).toInt32) &&& (3 : Int32))), .unset, .unset] [(.int la)])) _
                  refine XS.iconst X58.here hx rfl (hb hby at_298) ?_
                  show Steps p.tables e below (T58.setTop (mkF m 299 #[.val (.int p0), .val (.int p1), .val (.int p2), .val (.int p3), .val (.int p4), .val (.int p5), .val (.int ka), .val (.int kb), .val (.int c0), .val (.int c1), .val (.int la), .val (.int lb), .val (.int b0), .val (.int b1), .val (.int lineB), .val (.int colB), .val (.ref r31), .val (.ref r33), .val (.ref b36), .val (.ref b47), .val (.int (((p0.toUInt32 >>> ((14 : Int32) &&& 31).toUInt32).toInt32) &&& (3 : Int32))), .unset, .unset] [(.int (2 : Int32)), (.int la)])) _
                  refine XS.icmpNo X58.here hx rfl (hb hby at_299) rfl (flt hm77).1 ?_
                  show Steps p.tables e below (T58.setTop (mkF m 302 #[.val (.int p0), .val (.int p1), .val (.int p2), .val (.int p3), .val (.int p4), .val (.int p5), .val (.int ka), .val (.int kb), .val (.int c0), .val (.int c1), .val (.int la), .val (.int lb), .val (.int b0), .val (.int b1), .val (.int lineB), .val (.int colB), .val (.ref r31), .val (.ref r33), .val (.ref b36), .val (.ref b47), .val (.int (((p0.toUInt32 >>> ((14 : Int32) &&& 31).toUInt32).toInt32) &&& (3 : Int32))), .unset, .unset] [])) _
                  refine XS.iload X58.here hx rfl (hb hby at_302) rfl ?_
                  show Steps p.tables e below (T58.setTop (mkF m 304 #[.val (.int p0), .val (.int p1), .val (.int p2), .val (.int p3), .val (.int p4), .val (.int p5), .val (.int ka), .val (.int kb), .val (.int c0), .val (.int c1), .val (.int la), .val (.int lb), .val (.int b0), .val (.int b1), .val (.int lineB), .val (.int colB), .val (.ref r31), .val (.ref r33), .val (.ref b36), .val (.ref b47), .val (.int (((p0.toUInt32 >>> ((14 : Int32) &&& 31).toUInt32).toInt32) &&& (3 : Int32))), .unset, .unset] [(.int c1)])) _
                  refine XS.iload X58.here hx rfl (hb hby at_304) rfl ?_
                  show Steps p.tables e below (T58.setTop (mkF m 306 #[.val (.int p0), .val (.int p1), .val (.int p2), .val (.int p3), .val (.int p4), .val (.int p5), .val (.int ka), .val (.int kb), .val (.int c0), .val (.int c1), .val (.int la), .val (.int lb), .val (.int b0), .val (.int b1), .val (.int lineB), .val (.int colB), .val (.ref r31), .val (.ref r33), .val (.ref b36), .val (.ref b47), .val (.int (((p0.toUInt32 >>> ((14 : Int32) &&& 31).toUInt32).toInt32) &&& (3 : Int32))), .unset, .unset] [(.int b1), (.int c1)])) _
                  refine XS.icmpYes X58.here hx rfl (pc0 := 306) (pc' := 313) rfl (hb hby at_306) rfl (feq hm78).2 (by decide) (by decide) ?_
                  show Steps p.tables e below (T58.setTop (mkF m 313 #[.val (.int p0), .val (.int p1), .val (.int p2), .val (.int p3), .val (.int p4), .val (.int p5), .val (.int ka), .val (.int kb), .val (.int c0), .val (.int c1), .val (.int la), .val (.int lb), .val (.int b0), .val (.int b1), .val (.int lineB), .val (.int colB), .val (.ref r31), .val (.ref r33), .val (.ref b36), .val (.ref b47), .val (.int (((p0.toUInt32 >>> ((14 : Int32) &&& 31).toUInt32).toInt32) &&& (3 : Int32))), .unset, .unset] [])) _
                  refine XS.iconst X58.here hx rfl (hb hby at_313) ?_
                  show Steps p.tables e below (T58.setTop (mkF m 314 #[.val (.int p0), .val (.int p1), .val (.int p2), .val (.int p3), .val (.int p4), .val (.int p5), .val (.int ka), .val (.int kb), .val (.int c0), .val (.int c1), .val (.int la), .val (.int lb), .val (.int b0), .val (.int b1), .val (.int lineB), .val (.int colB), .val (.ref r31), .val (.ref r33), .val (.ref b36), .val (.ref b47), .val (.int (((p0.toUInt32 >>> ((14 : Int32) &&& 31).toUInt32).toInt32) &&& (3 : Int32))), .unset, .unset] [(.int (0 : Int32))])) _
                  exact q
            ·
              by_cases hm79 : c0 = b0
              ·
                by_cases hm80 : la < (2 : Int32)
                ·
                  refine ⟨(1 : Int32), by rw [if_pos hm75, if_neg hm76, if_pos hm79, if_pos hm80], fun t q => k74 t (?_)⟩
                  refine XS.icmpNo X58.here hx rfl (hb hby at_280) rfl (teq hm75).2 ?_
                  show Steps p.tables e below (T58.setTop (mkF m 283 #[.val (.int p0), .val (.int p1), .val (.int p2), .val (.int p3), .val (.int p4), .val (.int p5), .val (.int ka), .val (.int kb), .val (.int c0), .val (.int c1), .val (.int la), .val (.int lb), .val (.int b0), .val (.int b1), .val (.int lineB), .val (.int colB), .val (.ref r31), .val (.ref r33), .val (.ref b36), .val (.ref b47), .val (.int (((p0.toUInt32 >>> ((14 : Int32) &&& 31).toUInt32).toInt32) &&& (3 : Int32))), .unset, .unset] [])) _
                  refine XS.iload X58.here hx rfl (hb hby at_283) rfl ?_
                  show Steps p.tables e below (T58.setTop (mkF m 285 #[.val (.int p0), .val (.int p1), .val (.int p2), .val (.int p3), .val (.int p4), .val (.int p5), .val (.int ka), .val (.int kb), .val (.int c0), .val (.int c1), .val (.int la), .val (.int lb), .val (.int b0), .val (.int b1), .val (.int lineB), .val (.int colB), .val (.ref r31), .val (.ref r33), .val (.ref b36), .val (.ref b47), .val (.int (((p0.toUInt32 >>> ((14 : Int32) &&& 31).toUInt32).toInt32) &&& (3 : Int32))), .unset, .unset] [(.int la)])) _
                  refine XS.iconst X58.here hx rfl (hb hby at_285) ?_
                  show Steps p.tables e below (T58.setTop (mkF m 286 #[.val (.int p0), .val (.int p1), .val (.int p2), .val (.int p3), .val (.int p4), .val (.int p5), .val (.int ka), .val (.int kb), .val (.int c0), .val (.int c1), .val (.int la), .val (.int lb), .val (.int b0), .val (.int b1), .val (.int lineB), .val (.int colB), .val (.ref r31), .val (.ref r33), .val (.ref b36), .val (.ref b47), .val (.int (((p0.toUInt32 >>> ((14 : Int32) &&& 31).toUInt32).toInt32) &&& (3 : Int32))), .unset, .unset] [(.int (1 : Int32)), (.int la)])) _
                  refine XS.icmpNo X58.here hx rfl (hb hby at_286) rfl (flt hm76).1 ?_
                  show Steps p.tables e below (T58.setTop (mkF m 289 #[.val (.int p0), .val (.int p1), .val (.int p2), .val (.int p3), .val (.int p4), .val (.int p5), .val (.int ka), .val (.int kb), .val (.int c0), .val (.int c1), .val (.int la), .val (.int lb), .val (.int b0), .val (.int b1), .val (.int lineB), .val (.int colB), .val (.ref r31), .val (.ref r33), .val (.ref b36), .val (.ref b47), .val (.int (((p0.toUInt32 >>> ((14 : Int32) &&& 31).toUInt32).toInt32) &&& (3 : Int32))), .unset, .unset] [])) _
                  refine XS.iload X58.here hx rfl (hb hby at_289) rfl ?_
                  show Steps p.tables e below (T58.setTop (mkF m 291 #[.val (.int p0), .val (.int p1), .val (.int p2), .val (.int p3), .val (.int p4), .val (.int p5), .val (.int ka), .val (.int kb), .val (.int c0), .val (.int c1), .val (.int la), .val (.int lb), .val (.int b0), .val (.int b1), .val (.int lineB), .val (.int colB), .val (.ref r31), .val (.ref r33), .val (.ref b36), .val (.ref b47), .val (.int (((p0.toUInt32 >>> ((14 : Int32) &&& 31).toUInt32).toInt32) &&& (3 : Int32))), .unset, .unset] [(.int c0)])) _
                  refine XS.iload X58.here hx rfl (hb hby at_291) rfl ?_
                  show Steps p.tables e below (T58.setTop (mkF m 293 #[.val (.int p0), .val (.int p1), .val (.int p2), .val (.int p3), .val (.int p4), .val (.int p5), .val (.int ka), .val (.int kb), .val (.int c0), .val (.int c1), .val (.int la), .val (.int lb), .val (.int b0), .val (.int b1), .val (.int lineB), .val (.int colB), .val (.ref r31), .val (.ref r33), .val (.ref b36), .val (.ref b47), .val (.int (((p0.toUInt32 >>> ((14 : Int32) &&& 31).toUInt32).toInt32) &&& (3 : Int32))), .unset, .unset] [(.int b0), (.int c0)])) _
                  refine XS.icmpNo X58.here hx rfl (hb hby at_293) rfl (teq hm79).2 ?_
                  show Steps p.tables e below (T58.setTop (mkF m 296 #[.val (.int p0), .val (.int p1), .val (.int p2), .val (.int p3), .val (.int p4), .val (.int p5), .val (.int ka), .val (.int kb), .val (.int c0), .val (.int c1), .val (.int la), .val (.int lb), .val (.int b0), .val (.int b1), .val (.int lineB), .val (.int colB), .val (.ref r31), .val (.ref r33), .val (.ref b36), .val (.ref b47), .val (.int (((p0.toUInt32 >>> ((14 : Int32) &&& 31).toUInt32).toInt32) &&& (3 : Int32))), .unset, .unset] [])) _
                  refine XS.iload X58.here hx rfl (hb hby at_296) rfl ?_
                  show Steps p.tables e below (T58.setTop (mkF m 298 #[.val (.int p0), .val (.int p1), .val (.int p2), .val (.int p3), .val (.int p4), .val (.int p5), .val (.int ka), .val (.int kb), .val (.int c0), .val (.int c1), .val (.int la), .val (.int lb), .val (.int b0), .val (.int b1), .val (.int lineB), .val (.int colB), .val (.ref r31), .val (.ref r33), .val (.ref b36), .val (.ref b47), .val (.int (((p0.toUInt32 >>> ((14 : Int32) &&& 31).toUInt32).toInt32) &&& (3 : Int32))), .unset, .unset] [(.int la)])) _
                  refine XS.iconst X58.here hx rfl (hb hby at_298) ?_
                  show Steps p.tables e below (T58.setTop (mkF m 299 #[.val (.int p0), .val (.int p1), .val (.int p2), .val (.int p3), .val (.int p4), .val (.int p5), .val (.int ka), .val (.int kb), .val (.int c0), .val (.int c1), .val (.int la), .val (.int lb), .val (.int b0), .val (.int b1), .val (.int lineB), .val (.int colB), .val (.ref r31), .val (.ref r33), .val (.ref b36), .val (.ref b47), .val (.int (((p0.toUInt32 >>> ((14 : Int32) &&& 31).toUInt32).toInt32) &&& (3 : Int32))), .unset, .unset] [(.int (2 : Int32)), (.int la)])) _
                  refine XS.icmpYes X58.here hx rfl (pc0 := 299) (pc' := 309) rfl (hb hby at_299) rfl (tlt hm80).1 (by decide) (by decide) ?_
                  show Steps p.tables e below (T58.setTop (mkF m 309 #[.val (.int p0), .val (.int p1), .val (.int p2), .val (.int p3), .val (.int p4), .val (.int p5), .val (.int ka), .val (.int kb), .val (.int c0), .val (.int c1), .val (.int la), .val (.int lb), .val (.int b0), .val (.int b1), .val (.int lineB), .val (.int colB), .val (.ref r31), .val (.ref r33), .val (.ref b36), .val (.ref b47), .val (.int (((p0.toUInt32 >>> ((14 : Int32) &&& 31).toUInt32).toInt32) &&& (3 : Int32))), .unset, .unset] [])) _
                  refine XS.iconst X58.here hx rfl (hb hby at_309) ?_
                  show Steps p.tables e below (T58.setTop (mkF m 310 #[.val (.int p0), .val (.int p1), .val (.int p2), .val (.int p3), .val (.int p4), .val (.int p5), .val (.int ka), .val (.int kb), .val (.int c0), .val (.int c1), .val (.int la), .val (.int lb), .val (.int b0), .val (.int b1), .val (.int lineB), .val (.int colB), .val (.ref r31), .val (.ref r33), .val (.ref b36), .val (.ref b47), .val (.int (((p0.toUInt32 >>> ((14 : Int32) &&& 31).toUInt32).toInt32) &&& (3 : Int32))), .unset, .unset] [(.int (1 : Int32))])) _
                  refine XS.goto X58.here hx rfl (pc0 := 310) (pc' := 314) rfl (hb hby at_310) (by decide) (by decide) ?_
                  show Steps p.tables e below (T58.setTop (mkF m 314 #[.val (.int p0), .val (.int p1), .val (.int p2), .val (.int p3), .val (.int p4), .val (.int p5), .val (.int ka), .val (.int kb), .val (.int c0), .val (.int c1), .val (.int la), .val (.int lb), .val (.int b0), .val (.int b1), .val (.int lineB), .val (.int colB), .val (.ref r31), .val (.ref r33), .val (.ref b36), .val (.ref b47), .val (.int (((p0.toUInt32 >>> ((14 : Int32) &&& 31).toUInt32).toInt32) &&& (3 : Int32))), .unset, .unset] [(.int (1 : Int32))])) _
                  exact q
                ·
                  by_cases hm81 : c1 = b1
                  ·
                    refine ⟨(1 : Int32), by rw [if_pos hm75, if_neg hm76, if_pos hm79, if_neg hm80, if_pos hm81], fun t q => k74 t (?_)⟩
                    refine XS.icmpNo X58.here hx rfl (hb hby at_280) rfl (teq hm75).2 ?_
                    show Steps p.tables e below (T58.setTop (mkF m 283 #[.val (.int p0), .val (.int p1), .val (.int p2), .val (.int p3), .val (.int p4), .val (.int p5), .val (.int ka), .val (.int kb), .val (.int c0), .val (.int c1), .val (.int la), .val (.int lb), .val (.int b0), .val (.int b1), .val (.int lineB), .val (.int colB), .val (.ref r31), .val (.ref r33), .val (.ref b36), .val (.ref b47), .val (.int (((p0.toUInt32 >>> ((14 : Int32) &&& 31).toUInt32).toInt32) &&& (3 : Int32))), .unset, .unset] [])) _
                    refine XS.iload X58.here hx rfl (hb hby at_283) rfl ?_
                    show Steps p.tables e below (T58.setTop (mkF m 285 #[.val (.int p0), .val (.int p1), .val (.int p2), .val (.int p3), .val (.int p4), .val (.int p5), .val (.int ka), .val (.int kb), .val (.int c0), .val (.int c1), .val (.int la), .val (.int lb), .val (.int b0), .val (.int b1), .val (.int lineB), .val (.int colB), .val (.ref r31), .val (.ref r33), .val (.ref b36), .val (.ref b47), .val (.int (((p0.toUInt32 >>> ((14 : Int32) &&& 31).toUInt32).toInt32) &&& (3 : Int32))), .unset, .unset] [(.int la)])) _
                    refine XS.iconst X58.here hx rfl (hb hby at_285) ?_
                    show Steps p.tables e below (T58.setTop (mkF m 286 #[.val (.int p0), .val (.int p1), .val (.int p2), .val (.int p3), .val (.int p4), .val (.int p5), .val (.int ka), .val (.int kb), .val (.int c0), .val (.int c1), .val (.int la), .val (.int lb), .val (.int b0), .val (.int b1), .val (.int lineB), .val (.int colB), .val (.ref r31), .val (.ref r33), .val (.ref b36), .val (.ref b47), .val (.int (((p0.toUInt32 >>> ((14 : Int32) &&& 31).toUInt32).toInt32) &&& (3 : Int32))), .unset, .unset] [(.int (1 : Int32)), (.int la)])) _
                    refine XS.icmpNo X58.here hx rfl (hb hby at_286) rfl (flt hm76).1 ?_
                    show Steps p.tables e below (T58.setTop (mkF m 289 #[.val (.int p0), .val (.int p1), .val (.int p2), .val (.int p3), .val (.int p4), .val (.int p5), .val (.int ka), .val (.int kb), .val (.int c0), .val (.int c1), .val (.int la), .val (.int lb), .val (.int b0), .val (.int b1), .val (.int lineB), .val (.int colB), .val (.ref r31), .val (.ref r33), .val (.ref b36), .val (.ref b47), .val (.int (((p0.toUInt32 >>> ((14 : Int32) &&& 31).toUInt32).toInt32) &&& (3 : Int32))), .unset, .unset] [])) _
                    refine XS.iload X58.here hx rfl (hb hby at_289) rfl ?_
                    show Steps p.tables e below (T58.setTop (mkF m 291 #[.val (.int p0), .val (.int p1), .val (.int p2), .val (.int p3), .val (.int p4), .val (.int p5), .val (.int ka), .val (.int kb), .val (.int c0), .val (.int c1), .val (.int la), .val (.int lb), .val (.int b0), .val (.int b1), .val (.int lineB), .val (.int colB), .val (.ref r31), .val (.ref r33), .val (.ref b36), .val (.ref b47), .val (.int (((p0.toUInt32 >>> ((14 : Int32) &&& 31).toUInt32).toInt32) &&& (3 : Int32))), .unset, .unset] [(.int c0)])) _
                    refine XS.iload X58.here hx rfl (hb hby at_291) rfl ?_
                    show Steps p.tables e below (T58.setTop (mkF m 293 #[.val (.int p0), .val (.int p1), .val (.int p2), .val (.int p3), .val (.int p4), .val (.int p5), .val (.int ka), .val (.int kb), .val (.int c0), .val (.int c1), .val (.int la), .val (.int lb), .val (.int b0), .val (.int b1), .val (.int lineB), .val (.int colB), .val (.ref r31), .val (.ref r33), .val (.ref b36), .val (.ref b47), .val (.int (((p0.toUInt32 >>> ((14 : Int32) &&& 31).toUInt32).toInt32) &&& (3 : Int32))), .unset, .unset] [(.int b0), (.int c0)])) _
                    refine XS.icmpNo X58.here hx rfl (hb hby at_293) rfl (teq hm79).2 ?_
                    show Steps p.tables e below (T58.setTop (mkF m 296 #[.val (.int p0), .val (.int p1), .val (.int p2), .val (.int p3), .val (.int p4), .val (.int p5), .val (.int ka), .val (.int kb), .val (.int c0), .val (.int c1), .val (.int la), .val (.int lb), .val (.int b0), .val (.int b1), .val (.int lineB), .val (.int colB), .val (.ref r31), .val (.ref r33), .val (.ref b36), .val (.ref b47), .val (.int (((p0.toUInt32 >>> ((14 : Int32) &&& 31).toUInt32).toInt32) &&& (3 : Int32))), .unset, .unset] [])) _
                    refine XS.iload X58.here hx rfl (hb hby at_296) rfl ?_
                    show Steps p.tables e below (T58.setTop (mkF m 298 #[.val (.int p0), .val (.int p1), .val (.int p2), .val (.int p3), .val (.int p4), .val (.int p5), .val (.int ka), .val (.int kb), .val (.int c0), .val (.int c1), .val (.int la), .val (.int lb), .val (.int b0), .val (.int b1), .val (.int lineB), .val (.int colB), .val (.ref r31), .val (.ref r33), .val (.ref b36), .val (.ref b47), .val (.int (((p0.toUInt32 >>> ((14 : Int32) &&& 31).toUInt32).toInt32) &&& (3 : Int32))), .unset, .unset] [(.int la)])) _
                    refine XS.iconst X58.here hx rfl (hb hby at_298) ?_
                    show Steps p.tables e below (T58.setTop (mkF m 299 #[.val (.int p0), .val (.int p1), .val (.int p2), .val (.int p3), .val (.int p4), .val (.int p5), .val (.int ka), .val (.int kb), .val (.int c0), .val (.int c1), .val (.int la), .val (.int lb), .val (.int b0), .val (.int b1), .val (.int lineB), .val (.int colB), .val (.ref r31), .val (.ref r33), .val (.ref b36), .val (.ref b47), .val (.int (((p0.toUInt32 >>> ((14 : Int32) &&& 31).toUInt32).toInt32) &&& (3 : Int32))), .unset, .unset] [(.int (2 : Int32)), (.int la)])) _
                    refine XS.icmpNo X58.here hx rfl (hb hby at_299) rfl (flt hm80).1 ?_
                    show Steps p.tables e below (T58.setTop (mkF m 302 #[.val (.int p0), .val (.int p1), .val (.int p2), .val (.int p3), .val (.int p4), .val (.int p5), .val (.int ka), .val (.int kb), .val (.int c0), .val (.int c1), .val (.int la), .val (.int lb), .val (.int b0), .val (.int b1), .val (.int lineB), .val (.int colB), .val (.ref r31), .val (.ref r33), .val (.ref b36), .val (.ref b47), .val (.int (((p0.toUInt32 >>> ((14 : Int32) &&& 31).toUInt32).toInt32) &&& (3 : Int32))), .unset, .unset] [])) _
                    refine XS.iload X58.here hx rfl (hb hby at_302) rfl ?_
                    show Steps p.tables e below (T58.setTop (mkF m 304 #[.val (.int p0), .val (.int p1), .val (.int p2), .val (.int p3), .val (.int p4), .val (.int p5), .val (.int ka), .val (.int kb), .val (.int c0), .val (.int c1), .val (.int la), .val (.int lb), .val (.int b0), .val (.int b1), .val (.int lineB), .val (.int colB), .val (.ref r31), .val (.ref r33), .val (.ref b36), .val (.ref b47), .val (.int (((p0.toUInt32 >>> ((14 : Int32) &&& 31).toUInt32).toInt32) &&& (3 : Int32))), .unset, .unset] [(.int c1)])) _
                    refine XS.iload X58.here hx rfl (hb hby at_304) rfl ?_
                    show Steps p.tables e below (T58.setTop (mkF m 306 #[.val (.int p0), .val (.int p1), .val (.int p2), .val (.int p3), .val (.int p4), .val (.int p5), .val (.int ka), .val (.int kb), .val (.int c0), .val (.int c1), .val (.int la), .val (.int lb), .val (.int b0), .val (.int b1), .val (.int lineB), .val (.int colB), .val (.ref r31), .val (.ref r33), .val (.ref b36), .val (.ref b47), .val (.int (((p0.toUInt32 >>> ((14 : Int32) &&& 31).toUInt32).toInt32) &&& (3 : Int32))), .unset, .unset] [(.int b1), (.int c1)])) _
                    refine XS.icmpNo X58.here hx rfl (hb hby at_306) rfl (teq hm81).2 ?_
                    show Steps p.tables e below (T58.setTop (mkF m 309 #[.val (.int p0), .val (.int p1), .val (.int p2), .val (.int p3), .val (.int p4), .val (.int p5), .val (.int ka), .val (.int kb), .val (.int c0), .val (.int c1), .val (.int la), .val (.int lb), .val (.int b0), .val (.int b1), .val (.int lineB), .val (.int colB), .val (.ref r31), .val (.ref r33), .val (.ref b36), .val (.ref b47), .val (.int (((p0.toUInt32 >>> ((14 : Int32) &&& 31).toUInt32).toInt32) &&& (3 : Int32))), .unset, .unset] [])) _
                    refine XS.iconst X58.here hx rfl (hb hby at_309) ?_
                    show Steps p.tables e below (T58.setTop (mkF m 310 #[.val (.int p0), .val (.int p1), .val (.int p2), .val (.int p3), .val (.int p4), .val (.int p5), .val (.int ka), .val (.int kb), .val (.int c0), .val (.int c1), .val (.int la), .val (.int lb), .val (.int b0), .val (.int b1), .val (.int lineB), .val (.int colB), .val (.ref r31), .val (.ref r33), .val (.ref b36), .val (.ref b47), .val (.int (((p0.toUInt32 >>> ((14 : Int32) &&& 31).toUInt32).toInt32) &&& (3 : Int32))), .unset, .unset] [(.int (1 : Int32))])) _
                    refine XS.goto X58.here hx rfl (pc0 := 310) (pc' := 314) rfl (hb hby at_310) (by decide) (by decide) ?_
                    show Steps p.tables e below (T58.setTop (mkF m 314 #[.val (.int p0), .val (.int p1), .val (.int p2), .val (.int p3), .val (.int p4), .val (.int p5), .val (.int ka), .val (.int kb), .val (.int c0), .val (.int c1), .val (.int la), .val (.int lb), .val (.int b0), .val (.int b1), .val (.int lineB), .val (.int colB), .val (.ref r31), .val (.ref r33), .val (.ref b36), .val (.ref b47), .val (.int (((p0.toUInt32 >>> ((14 : Int32) &&& 31).toUInt32).toInt32) &&& (3 : Int32))), .unset, .unset] [(.int (1 : Int32))])) _
                    exact q
                  ·
                    refine ⟨(0 : Int32), by rw [if_pos hm75, if_neg hm76, if_pos hm79, if_neg hm80, if_neg hm81], fun t q => k74 t (?_)⟩
                    refine XS.icmpNo X58.here hx rfl (hb hby at_280) rfl (teq hm75).2 ?_
                    show Steps p.tables e below (T58.setTop (mkF m 283 #[.val (.int p0), .val (.int p1), .val (.int p2), .val (.int p3), .val (.int p4), .val (.int p5), .val (.int ka), .val (.int kb), .val (.int c0), .val (.int c1), .val (.int la), .val (.int lb), .val (.int b0), .val (.int b1), .val (.int lineB), .val (.int colB), .val (.ref r31), .val (.ref r33), .val (.ref b36), .val (.ref b47), .val (.int (((p0.toUInt32 >>> ((14 : Int32) &&& 31).toUInt32).toInt32) &&& (3 : Int32))), .unset, .unset] [])) _
                    refine XS.iload X58.here hx rfl (hb hby at_283) rfl ?_
                    show Steps p.tables e below (T58.setTop (mkF m 285 #[.val (.int p0), .val (.int p1), .val (.int p2), .val (.int p3), .val (.int p4), .val (.int p5), .val (.int ka), .val (.int kb), .val (.int c0), .val (.int c1), .val (.int la), .val (.int lb), .val (.int b0), .val (.int b1), .val (.int lineB), .val (.int colB), .val (.ref r31), .val (.ref r33), .val (.ref b36), .val (.ref b47), .val (.int (((p0.toUInt32 >>> ((14 : Int32) &&& 31).toUInt32).toInt32) &&& (3 : Int32))), .unset, .unset] [(.int la)])) _
                    refine XS.iconst X58.here hx rfl (hb hby at_285) ?_
                    show Steps p.tables e below (T58.setTop (mkF m 286 #[.val (.int p0), .val (.int p1), .val (.int p2), .val (.int p3), .val (.int p4), .val (.int p5), .val (.int ka), .val (.int kb), .val (.int c0), .val (.int c1), .val (.int la), .val (.int lb), .val (.int b0), .val (.int b1), .val (.int lineB), .val (.int colB), .val (.ref r31), .val (.ref r33), .val (.ref b36), .val (.ref b47), .val (.int (((p0.toUInt32 >>> ((14 : Int32) &&& 31).toUInt32).toInt32) &&& (3 : Int32))), .unset, .unset] [(.int (1 : Int32)), (.int la)])) _
                    refine XS.icmpNo X58.here hx rfl (hb hby at_286) rfl (flt hm76).1 ?_
                    show Steps p.tables e below (T58.setTop (mkF m 289 #[.val (.int p0), .val (.int p1), .val (.int p2), .val (.int p3), .val (.int p4), .val (.int p5), .val (.int ka), .val (.int kb), .val (.int c0), .val (.int c1), .val (.int la), .val (.int lb), .val (.int b0), .val (.int b1), .val (.int lineB), .val (.int colB), .val (.ref r31), .val (.ref r33), .val (.ref b36), .val (.ref b47), .val (.int (((p0.toUInt32 >>> ((14 : Int32) &&& 31).toUInt32).toInt32) &&& (3 : Int32))), .unset, .unset] [])) _
                    refine XS.iload X58.here hx rfl (hb hby at_289) rfl ?_
                    show Steps p.tables e below (T58.setTop (mkF m 291 #[.val (.int p0), .val (.int p1), .val (.int p2), .val (.int p3), .val (.int p4), .val (.int p5), .val (.int ka), .val (.int kb), .val (.int c0), .val (.int c1), .val (.int la), .val (.int lb), .val (.int b0), .val (.int b1), .val (.int lineB), .val (.int colB), .val (.ref r31), .val (.ref r33), .val (.ref b36), .val (.ref b47), .val (.int (((p0.toUInt32 >>> ((14 : Int32) &&& 31).toUInt32).toInt32) &&& (3 : Int32))), .unset, .unset] [(.int c0)])) _
                    refine XS.iload X58.here hx rfl (hb hby at_291) rfl ?_
                    show Steps p.tables e below (T58.setTop (mkF m 293 #[.val (.int p0), .val (.int p1), .val (.int p2), .val (.int p3), .val (.int p4), .val (.int p5), .val (.int ka), .val (.int kb), .val (.int c0), .val (.int c1), .val (.int la), .val (.int lb), .val (.int b0), .val (.int b1), .val (.int lineB), .val (.int colB), .val (.ref r31), .val (.ref r33), .val (.ref b36), .val (.ref b47), .val (.int (((p0.toUInt32 >>> ((14 : Int32) &&& 31).toUInt32).toInt32) &&& (3 : Int32))), .unset, .unset] [(.int b0), (.int c0)])) _
                    refine XS.icmpNo X58.here hx rfl (hb hby at_293) rfl (teq hm79).2 ?_
                    show Steps p.tables e below (T58.setTop (mkF m 296 #[.val (.int p0), .val (.int p1), .val (.int p2), .val (.int p3), .val (.int p4), .val (.int p5), .val (.int ka), .val (.int kb), .val (.int c0), .val (.int c1), .val (.int la), .val (.int lb), .val (.int b0), .val (.int b1), .val (.int lineB), .val (.int colB), .val (.ref r31), .val (.ref r33), .val (.ref b36), .val (.ref b47), .val (.int (((p0.toUInt32 >>> ((14 : Int32) &&& 31).toUInt32).toInt32) &&& (3 : Int32))), .unset, .unset] [])) _
                    refine XS.iload X58.here hx rfl (hb hby at_296) rfl ?_
                    show Steps p.tables e below (T58.setTop (mkF m 298 #[.val (.int p0), .val (.int p1), .val (.int p2), .val (.int p3), .val (.int p4), .val (.int p5), .val (.int ka), .val (.int kb), .val (.int c0), .val (.int c1), .val (.int la), .val (.int lb), .val (.int b0), .val (.int b1), .val (.int lineB), .val (.int colB), .val (.ref r31), .val (.ref r33), .val (.ref b36), .val (.ref b47), .val (.int (((p0.toUInt32 >>> ((14 : Int32) &&& 31).toUInt32).toInt32) &&& (3 : Int32))), .unset, .unset] [(.int la)])) _
                    refine XS.iconst X58.here hx rfl (hb hby at_298) ?_
                    show Steps p.tables e below (T58.setTop (mkF m 299 #[.val (.int p0), .val (.int p1), .val (.int p2), .val (.int p3), .val (.int p4), .val (.int p5), .val (.int ka), .val (.int kb), .val (.int c0), .val (.int c1), .val (.int la), .val (.int lb), .val (.int b0), .val (.int b1), .val (.int lineB), .val (.int colB), .val (.ref r31), .val (.ref r33), .val (.ref b36), .val (.ref b47), .val (.int (((p0.toUInt32 >>> ((14 : Int32) &&& 31).toUInt32).toInt32) &&& (3 : Int32))), .unset, .unset] [(.int (2 : Int32)), (.int la)])) _
                    refine XS.icmpNo X58.here hx rfl (hb hby at_299) rfl (flt hm80).1 ?_
                    show Steps p.tables e below (T58.setTop (mkF m 302 #[.val (.int p0), .val (.int p1), .val (.int p2), .val (.int p3), .val (.int p4), .val (.int p5), .val (.int ka), .val (.int kb), .val (.int c0), .val (.int c1), .val (.int la), .val (.int lb), .val (.int b0), .val (.int b1), .val (.int lineB), .val (.int colB), .val (.ref r31), .val (.ref r33), .val (.ref b36), .val (.ref b47), .val (.int (((p0.toUInt32 >>> ((14 : Int32) &&& 31).toUInt32).toInt32) &&& (3 : Int32))), .unset, .unset] [])) _
                    refine XS.iload X58.here hx rfl (hb hby at_302) rfl ?_
                    show Steps p.tables e below (T58.setTop (mkF m 304 #[.val (.int p0), .val (.int p1), .val (.int p2), .val (.int p3), .val (.int p4), .val (.int p5), .val (.int ka), .val (.int kb), .val (.int c0), .val (.int c1), .val (.int la), .val (.int lb), .val (.int b0), .val (.int b1), .val (.int lineB), .val (.int colB), .val (.ref r31), .val (.ref r33), .val (.ref b36), .val (.ref b47), .val (.int (((p0.toUInt32 >>> ((14 : Int32) &&& 31).toUInt32).toInt32) &&& (3 : Int32))), .unset, .unset] [(.int c1)])) _
                    refine XS.iload X58.here hx rfl (hb hby at_304) rfl ?_
                    show Steps p.tables e below (T58.setTop (mkF m 306 #[.val (.int p0), .val (.int p1), .val (.int p2), .val (.int p3), .val (.int p4), .val (.int p5), .val (.int ka), .val (.int kb), .val (.int c0), .val (.int c1), .val (.int la), .val (.int lb), .val (.int b0), .val (.int b1), .val (.int lineB), .val (.int colB), .val (.ref r31), .val (.ref r33), .val (.ref b36), .val (.ref b47), .val (.int (((p0.toUInt32 >>> ((14 : Int32) &&& 31).toUInt32).toInt32) &&& (3 : Int32))), .unset, .unset] [(.int b1), (.int c1)])) _
                    refine XS.icmpYes X58.here hx rfl (pc0 := 306) (pc' := 313) rfl (hb hby at_306) rfl (feq hm81).2 (by decide) (by decide) ?_
                    show Steps p.tables e below (T58.setTop (mkF m 313 #[.val (.int p0), .val (.int p1), .val (.int p2), .val (.int p3), .val (.int p4), .val (.int p5), .val (.int ka), .val (.int kb), .val (.int c0), .val (.int c1), .val (.int la), .val (.int lb), .val (.int b0), .val (.int b1), .val (.int lineB), .val (.int colB), .val (.ref r31), .val (.ref r33), .val (.ref b36), .val (.ref b47), .val (.int (((p0.toUInt32 >>> ((14 : Int32) &&& 31).toUInt32).toInt32) &&& (3 : Int32))), .unset, .unset] [])) _
                    refine XS.iconst X58.here hx rfl (hb hby at_313) ?_
                    show Steps p.tables e below (T58.setTop (mkF m 314 #[.val (.int p0), .val (.int p1), .val (.int p2), .val (.int p3), .val (.int p4), .val (.int p5), .val (.int ka), .val (.int kb), .val (.int c0), .val (.int c1), .val (.int la), .val (.int lb), .val (.int b0), .val (.int b1), .val (.int lineB), .val (.int colB), .val (.ref r31), .val (.ref r33), .val (.ref b36), .val (.ref b47), .val (.int (((p0.toUInt32 >>> ((14 : Int32) &&& 31).toUInt32).toInt32) &&& (3 : Int32))), .unset, .unset] [(.int (0 : Int32))])) _
                    exact q
              ·
                refine ⟨(0 : Int32), by rw [if_pos hm75, if_neg hm76, if_neg hm79], fun t q => k74 t (?_)⟩
                refine XS.icmpNo X58.here hx rfl (hb hby at_280) rfl (teq hm75).2 ?_
                show Steps p.tables e below (T58.setTop (mkF m 283 #[.val (.int p0), .val (.int p1), .val (.int p2), .val (.int p3), .val (.int p4), .val (.int p5), .val (.int ka), .val (.int kb), .val (.int c0), .val (.int c1), .val (.int la), .val (.int lb), .val (.int b0), .val (.int b1), .val (.int lineB), .val (.int colB), .val (.ref r31), .val (.ref r33), .val (.ref b36), .val (.ref b47), .val (.int (((p0.toUInt32 >>> ((14 : Int32) &&& 31).toUInt32).toInt32) &&& (3 : Int32))), .unset, .unset] [])) _
                refine XS.iload X58.here hx rfl (hb hby at_283) rfl ?_
                show Steps p.tables e below (T58.setTop (mkF m 285 #[.val (.int p0), .val (.int p1), .val (.int p2), .val (.int p3), .val (.int p4), .val (.int p5), .val (.int ka), .val (.int kb), .val (.int c0), .val (.int c1), .val (.int la), .val (.int lb), .val (.int b0), .val (.int b1), .val (.int lineB), .val (.int colB), .val (.ref r31), .val (.ref r33), .val (.ref b36), .val (.ref b47), .val (.int (((p0.toUInt32 >>> ((14 : Int32) &&& 31).toUInt32).toInt32) &&& (3 : Int32))), .unset, .unset] [(.int la)])) _
                refine XS.iconst X58.here hx rfl (hb hby at_285) ?_
                show Steps p.tables e below (T58.setTop (mkF m 286 #[.val (.int p0), .val (.int p1), .val (.int p2), .val (.int p3), .val (.int p4), .val (.int p5), .val (.int ka), .val (.int kb), .val (.int c0), .val (.int c1), .val (.int la), .val (.int lb), .val (.int b0), .val (.int b1), .val (.int lineB), .val (.int colB), .val (.ref r31), .val (.ref r33), .val (.ref b36), .val (.ref b47), .val (.int (((p0.toUInt32 >>> ((14 : Int32) &&& 31).toUInt32).toInt32) &&& (3 : Int32))), .unset, .unset] [(.int (1 : Int32)), (.int la)])) _
                refine XS.icmpNo X58.here hx rfl (hb hby at_286) rfl (flt hm76).1 ?_
                show Steps p.tables e below (T58.setTop (mkF m 289 #[.val (.int p0), .val (.int p1), .val (.int p2), .val (.int p3), .val (.int p4), .val (.int p5), .val (.int ka), .val (.int kb), .val (.int c0), .val (.int c1), .val (.int la), .val (.int lb), .val (.int b0), .val (.int b1), .val (.int lineB), .val (.int colB), .val (.ref r31), .val (.ref r33), .val (.ref b36), .val (.ref b47), .val (.int (((p0.toUInt32 >>> ((14 : Int32) &&& 31).toUInt32).toInt32) &&& (3 : Int32))), .unset, .unset] [])) _
                refine XS.iload X58.here hx rfl (hb hby at_289) rfl ?_
                show Steps p.tables e below (T58.setTop (mkF m 291 #[.val (.int p0), .val (.int p1), .val (.int p2), .val (.int p3), .val (.int p4), .val (.int p5), .val (.int ka), .val (.int kb), .val (.int c0), .val (.int c1), .val (.int la), .val (.int lb), .val (.int b0), .val (.int b1), .val (.int lineB), .val (.int colB), .val (.ref r31), .val (.ref r33), .val (.ref b36), .val (.ref b47), .val (.int (((p0.toUInt32 >>> ((14 : Int32) &&& 31).toUInt32).toInt32) &&& (3 : Int32))), .unset, .unset] [(.int c0)])) _
                refine XS.iload X58.here hx rfl (hb hby at_291) rfl ?_
                show Steps p.tables e below (T58.setTop (mkF m 293 #[.val (.int p0), .val (.int p1), .val (.int p2), .val (.int p3), .val (.int p4), .val (.int p5), .val (.int ka), .val (.int kb), .val (.int c0), .val (.int c1), .val (.int la), .val (.int lb), .val (.int b0), .val (.int b1), .val (.int lineB), .val (.int colB), .val (.ref r31), .val (.ref r33), .val (.ref b36), .val (.ref b47), .val (.int (((p0.toUInt32 >>> ((14 : Int32) &&& 31).toUInt32).toInt32) &&& (3 : Int32))), .unset, .unset] [(.int b0), (.int c0)])) _
                refine XS.icmpYes X58.here hx rfl (pc0 := 293) (pc' := 313) rfl (hb hby at_293) rfl (feq hm79).2 (by decide) (by decide) ?_
                show Steps p.tables e below (T58.setTop (mkF m 313 #[.val (.int p0), .val (.int p1), .val (.int p2), .val (.int p3), .val (.int p4), .val (.int p5), .val (.int ka), .val (.int kb), .val (.int c0), .val (.int c1), .val (.int la), .val (.int lb), .val (.int b0), .val (.int b1), .val (.int lineB), .val (.int colB), .val (.ref r31), .val (.ref r33), .val (.ref b36), .val (.ref b47), .val (.int (((p0.toUInt32 >>> ((14 : Int32) &&& 31).toUInt32).toInt32) &&& (3 : Int32))), .unset, .unset] [])) _
                refine XS.iconst X58.here hx rfl (hb hby at_313) ?_
                show Steps p.tables e below (T58.setTop (mkF m 314 #[.val (.int p0), .val (.int p1), .val (.int p2), .val (.int p3), .val (.int p4), .val (.int p5), .val (.int ka), .val (.int kb), .val (.int c0), .val (.int c1), .val (.int la), .val (.int lb), .val (.int b0), .val (.int b1), .val (.int lineB), .val (.int colB), .val (.ref r31), .val (.ref r33), .val (.ref b36), .val (.ref b47), .val (.int (((p0.toUInt32 >>> ((14 : Int32) &&& 31).toUInt32).toInt32) &&& (3 : Int32))), .unset, .unset] [(.int (0 : Int32))])) _
                exact q
          ·
            refine ⟨(0 : Int32), by rw [if_neg hm75], fun t q => k74 t (?_)⟩
            refine XS.icmpYes X58.here hx rfl (pc0 := 280) (pc' := 313) rfl (hb hby at_280) rfl (feq hm75).2 (by decide) (by decide) ?_
            show Steps p.tables e below (T58.setTop (mkF m 313 #[.val (.int p0), .val (.int p1), .val (.int p2), .val (.int p3), .val (.int p4), .val (.int p5), .val (.int ka), .val (.int kb), .val (.int c0), .val (.int c1), .val (.int la), .val (.int lb), .val (.int b0), .val (.int b1), .val (.int lineB), .val (.int colB), .val (.ref r31), .val (.ref r33), .val (.ref b36), .val (.ref b47), .val (.int (((p0.toUInt32 >>> ((14 : Int32) &&& 31).toUInt32).toInt32) &&& (3 : Int32))), .unset, .unset] [])) _
            refine XS.iconst X58.here hx rfl (hb hby at_313) ?_
            show Steps p.tables e below (T58.setTop (mkF m 314 #[.val (.int p0), .val (.int p1), .val (.int p2), .val (.int p3), .val (.int p4), .val (.int p5), .val (.int ka), .val (.int kb), .val (.int c0), .val (.int c1), .val (.int la), .val (.int lb), .val (.int b0), .val (.int b1), .val (.int lineB), .val (.int colB), .val (.ref r31), .val (.ref r33), .val (.ref b36), .val (.ref b47), .val (.int (((p0.toUInt32 >>> ((14 : Int32) &&& 31).toUInt32).toInt32) &&& (3 : Int32))), .unset, .unset] [(.int (0 : Int32))])) _
            exact q
        have k83 : own_To p e below T58 (mkF m 320 #[.val (.int p0), .val (.int p1), .val (.int p2), .val (.int p3), .val (.int p4), .val (.int p5), .val (.int ka), .val (.int kb), .val (.int c0), .val (.int c1), .val (.int la), .val (.int lb), .val (.int b0), .val (.int b1), .val (.int lineB), .val (.int colB), .val (.ref r31), .val (.ref r33), .val (.ref b36), .val (.ref b47), .val (.int (((p0.toUInt32 >>> ((14 : Int32) &&& 31).toUInt32).toInt32) &&& (3 : Int32))), .val (.int te_), .unset] [(.int kb), (.int ka)]) s₁ (mkF m 0 #[.val (.int p0), .val (.int p1), .val (.int p2), .val (.int p3), .val (.int p4), .val (.int p5), .unset, .unset, .unset, .unset, .unset, .unset, .unset, .unset, .unset, .unset, .unset, .unset, .unset, .unset, .unset, .unset, .unset] []) := fun t q => k82 t (by
          refine XS.istore X58.here hx rfl (hb hby at_314) rfl (l' := #[.val (.int p0), .val (.int p1), .val (.int p2), .val (.int p3), .val (.int p4), .val (.int p5), .val (.int ka), .val (.int kb), .val (.int c0), .val (.int c1), .val (.int la), .val (.int lb), .val (.int b0), .val (.int b1), .val (.int lineB), .val (.int colB), .val (.ref r31), .val (.ref r33), .val (.ref b36), .val (.ref b47), .val (.int (((p0.toUInt32 >>> ((14 : Int32) &&& 31).toUInt32).toInt32) &&& (3 : Int32))), .val (.int te_), .unset]) rfl ?_
          show Steps p.tables e below (T58.setTop (mkF m 316 #[.val (.int p0), .val (.int p1), .val (.int p2), .val (.int p3), .val (.int p4), .val (.int p5), .val (.int ka), .val (.int kb), .val (.int c0), .val (.int c1), .val (.int la), .val (.int lb), .val (.int b0), .val (.int b1), .val (.int lineB), .val (.int colB), .val (.ref r31), .val (.ref r33), .val (.ref b36), .val (.ref b47), .val (.int (((p0.toUInt32 >>> ((14 : Int32) &&& 31).toUInt32).toInt32) &&& (3 : Int32))), .val (.int te_), .unset] [])) _
          refine XS.iload X58.here hx rfl (hb hby at_316) rfl ?_
          show Steps p.tables e below (T58.setTop (mkF m 318 #[.val (.int p0), .val (.int p1), .val (.int p2), .val (.int p3), .val (.int p4), .val (.int p5), .val (.int ka), .val (.int kb), .val (.int c0), .val (.int c1), .val (.int la), .val (.int lb), .val (.int b0), .val (.int b1), .val (.int lineB), .val (.int colB), .val (.ref r31), .val (.ref r33), .val (.ref b36), .val (.ref b47), .val (.int (((p0.toUInt32 >>> ((14 : Int32) &&& 31).toUInt32).toInt32) &&& (3 : Int32))), .val (.int te_), .unset] [(.int ka)])) _
          refine XS.iload X58.here hx rfl (hb hby at_318) rfl ?_
          show Steps p.tables e below (T58.setTop (mkF m 320 #[.val (.int p0), .val (.int p1), .val (.int p2), .val (.int p3), .val (.int p4), .val (.int p5), .val (.int ka), .val (.int kb), .val (.int c0), .val (.int c1), .val (.int la), .val (.int lb), .val (.int b0), .val (.int b1), .val (.int lineB), .val (.int colB), .val (.ref r31), .val (.ref r33), .val (.ref b36), .val (.ref b47), .val (.int (((p0.toUInt32 >>> ((14 : Int32) &&& 31).toUInt32).toInt32) &&& (3 : Int32))), .val (.int te_), .unset] [(.int kb), (.int ka)])) _
          exact q)
        obtain ⟨ex_, hex_, k88⟩ : ∃ (ex_ : Int32), (ex_ = (if ka = kb then (if te_ = (0 : Int32) then (0 : Int32) else (if p2 = lineB then (if p3 = colB then (1 : Int32) else (0 : Int32)) else (0 : Int32))) else (0 : Int32))) ∧ own_To p e below T58 (mkF m 345 #[.val (.int p0), .val (.int p1), .val (.int p2), .val (.int p3), .val (.int p4), .val (.int p5), .val (.int ka), .val (.int kb), .val (.int c0), .val (.int c1), .val (.int la), .val (.int lb), .val (.int b0), .val (.int b1), .val (.int lineB), .val (.int colB), .val (.ref r31), .val (.ref r33), .val (.ref b36), .val (.ref b47), .val (.int (((p0.toUInt32 >>> ((14 : Int32) &&& 31).toUInt32).toInt32) &&& (3 : Int32))), .val (.int te_), .unset] [(.int ex_)]) s₁ (mkF m 0 #[.val (.int p0), .val (.int p1), .val (.int p2), .val (.int p3), .val (.int p4), .val (.int p5), .unset, .unset, .unset, .unset, .unset, .unset, .unset, .unset, .unset, .unset, .unset, .unset, .unset, .unset, .unset, .unset, .unset] []) := by
          by_cases hm84 : ka = kb
          ·
            by_cases hm85 : te_ = (0 : Int32)
            ·
              refine ⟨(0 : Int32), by rw [if_pos hm84, if_pos hm85], fun t q => k83 t (?_)⟩
              refine XS.icmpNo X58.here hx rfl (hb hby at_320) rfl (teq hm84).2 ?_
              show Steps p.tables e below (T58.setTop (mkF m 323 #[.val (.int p0), .val (.int p1), .val (.int p2), .val (.int p3), .val (.int p4), .val (.int p5), .val (.int ka), .val (.int kb), .val (.int c0), .val (.int c1), .val (.int la), .val (.int lb), .val (.int b0), .val (.int b1), .val (.int lineB), .val (.int colB), .val (.ref r31), .val (.ref r33), .val (.ref b36), .val (.ref b47), .val (.int (((p0.toUInt32 >>> ((14 : Int32) &&& 31).toUInt32).toInt32) &&& (3 : Int32))), .val (.int te_), .unset] [])) _
              refine XS.iload X58.here hx rfl (hb hby at_323) rfl ?_
              show Steps p.tables e below (T58.setTop (mkF m 325 #[.val (.int p0), .val (.int p1), .val (.int p2), .val (.int p3), .val (.int p4), .val (.int p5), .val (.int ka), .val (.int kb), .val (.int c0), .val (.int c1), .val (.int la), .val (.int lb), .val (.int b0), .val (.int b1), .val (.int lineB), .val (.int colB), .val (.ref r31), .val (.ref r33), .val (.ref b36), .val (.ref b47), .val (.int (((p0.toUInt32 >>> ((14 : Int32) &&& 31).toUInt32).toInt32) &&& (3 : Int32))), .val (.int te_), .unset] [(.int te_)])) _
              refine XS.ifYes X58.here hx rfl (pc0 := 325) (pc' := 344) rfl (hb hby at_325) rfl ((if0 _ _).trans (teq hm85).1) (by decide) (by decide) ?_
              show Steps p.tables e below (T58.setTop (mkF m 344 #[.val (.int p0), .val (.int p1), .val (.int p2), .val (.int p3), .val (.int p4), .val (.int p5), .val (.int ka), .val (.int kb), .val (.int c0), .val (.int c1), .val (.int la), .val (.int lb), .val (.int b0), .val (.int b1), .val (.int lineB), .val (.int colB), .val (.ref r31), .val (.ref r33), .val (.ref b36), .val (.ref b47), .val (.int (((p0.toUInt32 >>> ((14 : Int32) &&& 31).toUInt32).toInt32) &&& (3 : Int32))), .val (.int te_), .unset] [])) _
              refine XS.iconst X58.here hx rfl (hb hby at_344) ?_
              show Steps p.tables e below (T58.setTop (mkF m 345 #[.val (.int p0), .val (.int p1), .val (.int p2), .val (.int p3), .val (.int p4), .val (.int p5), .val (.int ka), .val (.int kb), .val (.int c0), .val (.int c1), .val (.int la), .val (.int lb), .val (.int b0), .val (.int b1), .val (.int lineB), .val (.int colB), .val (.ref r31), .val (.ref r33), .val (.ref b36), .val (.ref b47), .val (.int (((p0.toUInt32 >>> ((14 : Int32) &&& 31).toUInt32).toInt32) &&& (3 : Int32))), .val (.int te_), .unset] [(.int (0 : Int32))])) _
              exact q
            ·
              by_cases hm86 : p2 = lineB
              ·
                by_cases hm87 : p3 = colB
                ·
                  refine ⟨(1 : Int32), by rw [if_pos hm84, if_neg hm85, if_pos hm86, if_pos hm87], fun t q => k83 t (?_)⟩
                  refine XS.icmpNo X58.here hx rfl (hb hby at_320) rfl (teq hm84).2 ?_
                  show Steps p.tables e below (T58.setTop (mkF m 323 #[.val (.int p0), .val (.int p1), .val (.int p2), .val (.int p3), .val (.int p4), .val (.int p5), .val (.int ka), .val (.int kb), .val (.int c0), .val (.int c1), .val (.int la), .val (.int lb), .val (.int b0), .val (.int b1), .val (.int lineB), .val (.int colB), .val (.ref r31), .val (.ref r33), .val (.ref b36), .val (.ref b47), .val (.int (((p0.toUInt32 >>> ((14 : Int32) &&& 31).toUInt32).toInt32) &&& (3 : Int32))), .val (.int te_), .unset] [])) _
                  refine XS.iload X58.here hx rfl (hb hby at_323) rfl ?_
                  show Steps p.tables e below (T58.setTop (mkF m 325 #[.val (.int p0), .val (.int p1), .val (.int p2), .val (.int p3), .val (.int p4), .val (.int p5), .val (.int ka), .val (.int kb), .val (.int c0), .val (.int c1), .val (.int la), .val (.int lb), .val (.int b0), .val (.int b1), .val (.int lineB), .val (.int colB), .val (.ref r31), .val (.ref r33), .val (.ref b36), .val (.ref b47), .val (.int (((p0.toUInt32 >>> ((14 : Int32) &&& 31).toUInt32).toInt32) &&& (3 : Int32))), .val (.int te_), .unset] [(.int te_)])) _
                  refine XS.ifNo X58.here hx rfl (hb hby at_325) rfl ((if0 _ _).trans (feq hm85).1) ?_
                  show Steps p.tables e below (T58.setTop (mkF m 328 #[.val (.int p0), .val (.int p1), .val (.int p2), .val (.int p3), .val (.int p4), .val (.int p5), .val (.int ka), .val (.int kb), .val (.int c0), .val (.int c1), .val (.int la), .val (.int lb), .val (.int b0), .val (.int b1), .val (.int lineB), .val (.int colB), .val (.ref r31), .val (.ref r33), .val (.ref b36), .val (.ref b47), .val (.int (((p0.toUInt32 >>> ((14 : Int32) &&& 31).toUInt32).toInt32) &&& (3 : Int32))), .val (.int te_), .unset] [])) _
                  refine XS.iloadN X58.here hx rfl (hb hby at_328) rfl ?_
                  show Steps p.tables e below (T58.setTop (mkF m 329 #[.val (.int p0), .val (.int p1), .val (.int p2), .val (.int p3), .val (.int p4), .val (.int p5), .val (.int ka), .val (.int kb), .val (.int c0), .val (.int c1), .val (.int la), .val (.int lb), .val (.int b0), .val (.int b1), .val (.int lineB), .val (.int colB), .val (.ref r31), .val (.ref r33), .val (.ref b36), .val (.ref b47), .val (.int (((p0.toUInt32 >>> ((14 : Int32) &&& 31).toUInt32).toInt32) &&& (3 : Int32))), .val (.int te_), .unset] [(.int p2)])) _
                  refine XS.iload X58.here hx rfl (hb hby at_329) rfl ?_
                  show Steps p.tables e below (T58.setTop (mkF m 331 #[.val (.int p0), .val (.int p1), .val (.int p2), .val (.int p3), .val (.int p4), .val (.int p5), .val (.int ka), .val (.int kb), .val (.int c0), .val (.int c1), .val (.int la), .val (.int lb), .val (.int b0), .val (.int b1), .val (.int lineB), .val (.int colB), .val (.ref r31), .val (.ref r33), .val (.ref b36), .val (.ref b47), .val (.int (((p0.toUInt32 >>> ((14 : Int32) &&& 31).toUInt32).toInt32) &&& (3 : Int32))), .val (.int te_), .unset] [(.int lineB), (.int p2)])) _
                  refine XS.icmpNo X58.here hx rfl (hb hby at_331) rfl (teq hm86).2 ?_
                  show Steps p.tables e below (T58.setTop (mkF m 334 #[.val (.int p0), .val (.int p1), .val (.int p2), .val (.int p3), .val (.int p4), .val (.int p5), .val (.int ka), .val (.int kb), .val (.int c0), .val (.int c1), .val (.int la), .val (.int lb), .val (.int b0), .val (.int b1), .val (.int lineB), .val (.int colB), .val (.ref r31), .val (.ref r33), .val (.ref b36), .val (.ref b47), .val (.int (((p0.toUInt32 >>> ((14 : Int32) &&& 31).toUInt32).toInt32) &&& (3 : Int32))), .val (.int te_), .unset] [])) _
                  refine XS.iloadN X58.here hx rfl (hb hby at_334) rfl ?_
                  show Steps p.tables e below (T58.setTop (mkF m 335 #[.val (.int p0), .val (.int p1), .val (.int p2), .val (.int p3), .val (.int p4), .val (.int p5), .val (.int ka), .val (.int kb), .val (.int c0), .val (.int c1), .val (.int la), .val (.int lb), .val (.int b0), .val (.int b1), .val (.int lineB), .val (.int colB), .val (.ref r31), .val (.ref r33), .val (.ref b36), .val (.ref b47), .val (.int (((p0.toUInt32 >>> ((14 : Int32) &&& 31).toUInt32).toInt32) &&& (3 : Int32))), .val (.int te_), .unset] [(.int p3)])) _
                  refine XS.iload X58.here hx rfl (hb hby at_335) rfl ?_
                  show Steps p.tables e below (T58.setTop (mkF m 337 #[.val (.int p0), .val (.int p1), .val (.int p2), .val (.int p3), .val (.int p4), .val (.int p5), .val (.int ka), .val (.int kb), .val (.int c0), .val (.int c1), .val (.int la), .val (.int lb), .val (.int b0), .val (.int b1), .val (.int lineB), .val (.int colB), .val (.ref r31), .val (.ref r33), .val (.ref b36), .val (.ref b47), .val (.int (((p0.toUInt32 >>> ((14 : Int32) &&& 31).toUInt32).toInt32) &&& (3 : Int32))), .val (.int te_), .unset] [(.int colB), (.int p3)])) _
                  refine XS.icmpNo X58.here hx rfl (hb hby at_337) rfl (teq hm87).2 ?_
                  show Steps p.tables e below (T58.setTop (mkF m 340 #[.val (.int p0), .val (.int p1), .val (.int p2), .val (.int p3), .val (.int p4), .val (.int p5), .val (.int ka), .val (.int kb), .val (.int c0), .val (.int c1), .val (.int la), .val (.int lb), .val (.int b0), .val (.int b1), .val (.int lineB), .val (.int colB), .val (.ref r31), .val (.ref r33), .val (.ref b36), .val (.ref b47), .val (.int (((p0.toUInt32 >>> ((14 : Int32) &&& 31).toUInt32).toInt32) &&& (3 : Int32))), .val (.int te_), .unset] [])) _
                  refine XS.iconst X58.here hx rfl (hb hby at_340) ?_
                  show Steps p.tables e below (T58.setTop (mkF m 341 #[.val (.int p0), .val (.int p1), .val (.int p2), .val (.int p3), .val (.int p4), .val (.int p5), .val (.int ka), .val (.int kb), .val (.int c0), .val (.int c1), .val (.int la), .val (.int lb), .val (.int b0), .val (.int b1), .val (.int lineB), .val (.int colB), .val (.ref r31), .val (.ref r33), .val (.ref b36), .val (.ref b47), .val (.int (((p0.toUInt32 >>> ((14 : Int32) &&& 31).toUInt32).toInt32) &&& (3 : Int32))), .val (.int te_), .unset] [(.int (1 : Int32))])) _
                  refine XS.goto X58.here hx rfl (pc0 := 341) (pc' := 345) rfl (hb hby at_341) (by decide) (by decide) ?_
                  show Steps p.tables e below (T58.setTop (mkF m 345 #[.val (.int p0), .val (.int p1), .val (.int p2), .val (.int p3), .val (.int p4), .val (.int p5), .val (.int ka), .val (.int kb), .val (.int c0), .val (.int c1), .val (.int la), .val (.int lb), .val (.int b0), .val (.int b1), .val (.int lineB), .val (.int colB), .val (.ref r31), .val (.ref r33), .val (.ref b36), .val (.ref b47), .val (.int (((p0.toUInt32 >>> ((14 : Int32) &&& 31).toUInt32).toInt32) &&& (3 : Int32))), .val (.int te_), .unset] [(.int (1 : Int32))])) _
                  exact q
                ·
                  refine ⟨(0 : Int32), by rw [if_pos hm84, if_neg hm85, if_pos hm86, if_neg hm87], fun t q => k83 t (?_)⟩
                  refine XS.icmpNo X58.here hx rfl (hb hby at_320) rfl (teq hm84).2 ?_
                  show Steps p.tables e below (T58.setTop (mkF m 323 #[.val (.int p0), .val (.int p1), .val (.int p2), .val (.int p3), .val (.int p4), .val (.int p5), .val (.int ka), .val (.int kb), .val (.int c0), .val (.int c1), .val (.int la), .val (.int lb), .val (.int b0), .val (.int b1), .val (.int lineB), .val (.int colB), .val (.ref r31), .val (.ref r33), .val (.ref b36), .val (.ref b47), .val (.int (((p0.toUInt32 >>> ((14 : Int32) &&& 31).toUInt32).toInt32) &&& (3 : Int32))), .val (.int te_), .unset] [])) _
                  refine XS.iload X58.here hx rfl (hb hby at_323) rfl ?_
                  show Steps p.tables e below (T58.setTop (mkF m 325 #[.val (.int p0), .val (.int p1), .val (.int p2), .val (.int p3), .val (.int p4), .val (.int p5), .val (.int ka), .val (.int kb), .val (.int c0), .val (.int c1), .val (.int la), .val (.int lb), .val (.int b0), .val (.int b1), .val (.int lineB), .val (.int colB), .val (.ref r31), .val (.ref r33), .val (.ref b36), .val (.ref b47), .val (.int (((p0.toUInt32 >>> ((14 : Int32) &&& 31).toUInt32).toInt32) &&& (3 : Int32))), .val (.int te_), .unset] [(.int te_)])) _
                  refine XS.ifNo X58.here hx rfl (hb hby at_325) rfl ((if0 _ _).trans (feq hm85).1) ?_
                  show Steps p.tables e below (T58.setTop (mkF m 328 #[.val (.int p0), .val (.int p1), .val (.int p2), .val (.int p3), .val (.int p4), .val (.int p5), .val (.int ka), .val (.int kb), .val (.int c0), .val (.int c1), .val (.int la), .val (.int lb), .val (.int b0), .val (.int b1), .val (.int lineB), .val (.int colB), .val (.ref r31), .val (.ref r33), .val (.ref b36), .val (.ref b47), .val (.int (((p0.toUInt32 >>> ((14 : Int32) &&& 31).toUInt32).toInt32) &&& (3 : Int32))), .val (.int te_), .unset] [])) _
                  refine XS.iloadN X58.here hx rfl (hb hby at_328) rfl ?_
                  show Steps p.tables e below (T58.setTop (mkF m 329 #[.val (.int p0), .val (.int p1), .val (.int p2), .val (.int p3), .val (.int p4), .val (.int p5), .val (.int ka), .val (.int kb), .val (.int c0), .val (.int c1), .val (.int la), .val (.int lb), .val (.int b0), .val (.int b1), .val (.int lineB), .val (.int colB), .val (.ref r31), .val (.ref r33), .val (.ref b36), .val (.ref b47), .val (.int (((p0.toUInt32 >>> ((14 : Int32) &&& 31).toUInt32).toInt32) &&& (3 : Int32))), .val (.int te_), .unset] [(.int p2)])) _
                  refine XS.iload X58.here hx rfl (hb hby at_329) rfl ?_
                  show Steps p.tables e below (T58.setTop (mkF m 331 #[.val (.int p0), .val (.int p1), .val (.int p2), .val (.int p3), .val (.int p4), .val (.int p5), .val (.int ka), .val (.int kb), .val (.int c0), .val (.int c1), .val (.int la), .val (.int lb), .val (.int b0), .val (.int b1), .val (.int lineB), .val (.int colB), .val (.ref r31), .val (.ref r33), .val (.ref b36), .val (.ref b47), .val (.int (((p0.toUInt32 >>> ((14 : Int32) &&& 31).toUInt32).toInt32) &&& (3 : Int32))), .val (.int te_), .unset] [(.int lineB), (.int p2)])) _
                  refine XS.icmpNo X58.here hx rfl (hb hby at_331) rfl (teq hm86).2 ?_
                  show Steps p.tables e below (T58.setTop (mkF m 334 #[.val (.int p0), .val (.int p1), .val (.int p2), .val (.int p3), .val (.int p4), .val (.int p5), .val (.int ka), .val (.int kb), .val (.int c0), .val (.int c1), .val (.int la), .val (.int lb), .val (.int b0), .val (.int b1), .val (.int lineB), .val (.int colB), .val (.ref r31), .val (.ref r33), .val (.ref b36), .val (.ref b47), .val (.int (((p0.toUInt32 >>> ((14 : Int32) &&& 31).toUInt32).toInt32) &&& (3 : Int32))), .val (.int te_), .unset] [])) _
                  refine XS.iloadN X58.here hx rfl (hb hby at_334) rfl ?_
                  show Steps p.tables e below (T58.setTop (mkF m 335 #[.val (.int p0), .val (.int p1), .val (.int p2), .val (.int p3), .val (.int p4), .val (.int p5), .val (.int ka), .val (.int kb), .val (.int c0), .val (.int c1), .val (.int la), .val (.int lb), .val (.int b0), .val (.int b1), .val (.int lineB), .val (.int colB), .val (.ref r31), .val (.ref r33), .val (.ref b36), .val (.ref b47), .val (.int (((p0.toUInt32 >>> ((14 : Int32) &&& 31).toUInt32).toInt32) &&& (3 : Int32))), .val (.int te_), .unset] [(.int p3)])) _
                  refine XS.iload X58.here hx rfl (hb hby at_335) rfl ?_
                  show Steps p.tables e below (T58.setTop (mkF m 337 #[.val (.int p0), .val (.int p1), .val (.int p2), .val (.int p3), .val (.int p4), .val (.int p5), .val (.int ka), .val (.int kb), .val (.int c0), .val (.int c1), .val (.int la), .val (.int lb), .val (.int b0), .val (.int b1), .val (.int lineB), .val (.int colB), .val (.ref r31), .val (.ref r33), .val (.ref b36), .val (.ref b47), .val (.int (((p0.toUInt32 >>> ((14 : Int32) &&& 31).toUInt32).toInt32) &&& (3 : Int32))), .val (.int te_), .unset] [(.int colB), (.int p3)])) _
                  refine XS.icmpYes X58.here hx rfl (pc0 := 337) (pc' := 344) rfl (hb hby at_337) rfl (feq hm87).2 (by decide) (by decide) ?_
                  show Steps p.tables e below (T58.setTop (mkF m 344 #[.val (.int p0), .val (.int p1), .val (.int p2), .val (.int p3), .val (.int p4), .val (.int p5), .val (.int ka), .val (.int kb), .val (.int c0), .val (.int c1), .val (.int la), .val (.int lb), .val (.int b0), .val (.int b1), .val (.int lineB), .val (.int colB), .val (.ref r31), .val (.ref r33), .val (.ref b36), .val (.ref b47), .val (.int (((p0.toUInt32 >>> ((14 : Int32) &&& 31).toUInt32).toInt32) &&& (3 : Int32))), .val (.int te_), .unset] [])) _
                  refine XS.iconst X58.here hx rfl (hb hby at_344) ?_
                  show Steps p.tables e below (T58.setTop (mkF m 345 #[.val (.int p0), .val (.int p1), .val (.int p2), .val (.int p3), .val (.int p4), .val (.int p5), .val (.int ka), .val (.int kb), .val (.int c0), .val (.int c1), .val (.int la), .val (.int lb), .val (.int b0), .val (.int b1), .val (.int lineB), .val (.int colB), .val (.ref r31), .val (.ref r33), .val (.ref b36), .val (.ref b47), .val (.int (((p0.toUInt32 >>> ((14 : Int32) &&& 31).toUInt32).toInt32) &&& (3 : Int32))), .val (.int te_), .unset] [(.int (0 : Int32))])) _
                  exact q
              ·
                refine ⟨(0 : Int32), by rw [if_pos hm84, if_neg hm85, if_neg hm86], fun t q => k83 t (?_)⟩
                refine XS.icmpNo X58.here hx rfl (hb hby at_320) rfl (teq hm84).2 ?_
                show Steps p.tables e below (T58.setTop (mkF m 323 #[.val (.int p0), .val (.int p1), .val (.int p2), .val (.int p3), .val (.int p4), .val (.int p5), .val (.int ka), .val (.int kb), .val (.int c0), .val (.int c1), .val (.int la), .val (.int lb), .val (.int b0), .val (.int b1), .val (.int lineB), .val (.int colB), .val (.ref r31), .val (.ref r33), .val (.ref b36), .val (.ref b47), .val (.int (((p0.toUInt32 >>> ((14 : Int32) &&& 31).toUInt32).toInt32) &&& (3 : Int32))), .val (.int te_), .unset] [])) _
                refine XS.iload X58.here hx rfl (hb hby at_323) rfl ?_
                show Steps p.tables e below (T58.setTop (mkF m 325 #[.val (.int p0), .val (.int p1), .val (.int p2), .val (.int p3), .val (.int p4), .val (.int p5), .val (.int ka), .val (.int kb), .val (.int c0), .val (.int c1), .val (.int la), .val (.int lb), .val (.int b0), .val (.int b1), .val (.int lineB), .val (.int colB), .val (.ref r31), .val (.ref r33), .val (.ref b36), .val (.ref b47), .val (.int (((p0.toUInt32 >>> ((14 : Int32) &&& 31).toUInt32).toInt32) &&& (3 : Int32))), .val (.int te_), .unset] [(.int te_)])) _
                refine XS.ifNo X58.here hx rfl (hb hby at_325) rfl ((if0 _ _).trans (feq hm85).1) ?_
                show Steps p.tables e below (T58.setTop (mkF m 328 #[.val (.int p0), .val (.int p1), .val (.int p2), .val (.int p3), .val (.int p4), .val (.int p5), .val (.int ka), .val (.int kb), .val (.int c0), .val (.int c1), .val (.int la), .val (.int lb), .val (.int b0), .val (.int b1), .val (.int lineB), .val (.int colB), .val (.ref r31), .val (.ref r33), .val (.ref b36), .val (.ref b47), .val (.int (((p0.toUInt32 >>> ((14 : Int32) &&& 31).toUInt32).toInt32) &&& (3 : Int32))), .val (.int te_), .unset] [])) _
                refine XS.iloadN X58.here hx rfl (hb hby at_328) rfl ?_
                show Steps p.tables e below (T58.setTop (mkF m 329 #[.val (.int p0), .val (.int p1), .val (.int p2), .val (.int p3), .val (.int p4), .val (.int p5), .val (.int ka), .val (.int kb), .val (.int c0), .val (.int c1), .val (.int la), .val (.int lb), .val (.int b0), .val (.int b1), .val (.int lineB), .val (.int colB), .val (.ref r31), .val (.ref r33), .val (.ref b36), .val (.ref b47), .val (.int (((p0.toUInt32 >>> ((14 : Int32) &&& 31).toUInt32).toInt32) &&& (3 : Int32))), .val (.int te_), .unset] [(.int p2)])) _
                refine XS.iload X58.here hx rfl (hb hby at_329) rfl ?_
                show Steps p.tables e below (T58.setTop (mkF m 331 #[.val (.int p0), .val (.int p1), .val (.int p2), .val (.int p3), .val (.int p4), .val (.int p5), .val (.int ka), .val (.int kb), .val (.int c0), .val (.int c1), .val (.int la), .val (.int lb), .val (.int b0), .val (.int b1), .val (.int lineB), .val (.int colB), .val (.ref r31), .val (.ref r33), .val (.ref b36), .val (.ref b47), .val (.int (((p0.toUInt32 >>> ((14 : Int32) &&& 31).toUInt32).toInt32) &&& (3 : Int32))), .val (.int te_), .unset] [(.int lineB), (.int p2)])) _
                refine XS.icmpYes X58.here hx rfl (pc0 := 331) (pc' := 344) rfl (hb hby at_331) rfl (feq hm86).2 (by decide) (by decide) ?_
                show Steps p.tables e below (T58.setTop (mkF m 344 #[.val (.int p0), .val (.int p1), .val (.int p2), .val (.int p3), .val (.int p4), .val (.int p5), .val (.int ka), .val (.int kb), .val (.int c0), .val (.int c1), .val (.int la), .val (.int lb), .val (.int b0), .val (.int b1), .val (.int lineB), .val (.int colB), .val (.ref r31), .val (.ref r33), .val (.ref b36), .val (.ref b47), .val (.int (((p0.toUInt32 >>> ((14 : Int32) &&& 31).toUInt32).toInt32) &&& (3 : Int32))), .val (.int te_), .unset] [])) _
                refine XS.iconst X58.here hx rfl (hb hby at_344) ?_
                show Steps p.tables e below (T58.setTop (mkF m 345 #[.val (.int p0), .val (.int p1), .val (.int p2), .val (.int p3), .val (.int p4), .val (.int p5), .val (.int ka), .val (.int kb), .val (.int c0), .val (.int c1), .val (.int la), .val (.int lb), .val (.int b0), .val (.int b1), .val (.int lineB), .val (.int colB), .val (.ref r31), .val (.ref r33), .val (.ref b36), .val (.ref b47), .val (.int (((p0.toUInt32 >>> ((14 : Int32) &&& 31).toUInt32).toInt32) &&& (3 : Int32))), .val (.int te_), .unset] [(.int (0 : Int32))])) _
                exact q
          ·
            refine ⟨(0 : Int32), by rw [if_neg hm84], fun t q => k83 t (?_)⟩
            refine XS.icmpYes X58.here hx rfl (pc0 := 320) (pc' := 344) rfl (hb hby at_320) rfl (feq hm84).2 (by decide) (by decide) ?_
            show Steps p.tables e below (T58.setTop (mkF m 344 #[.val (.int p0), .val (.int p1), .val (.int p2), .val (.int p3), .val (.int p4), .val (.int p5), .val (.int ka), .val (.int kb), .val (.int c0), .val (.int c1), .val (.int la), .val (.int lb), .val (.int b0), .val (.int b1), .val (.int lineB), .val (.int colB), .val (.ref r31), .val (.ref r33), .val (.ref b36), .val (.ref b47), .val (.int (((p0.toUInt32 >>> ((14 : Int32) &&& 31).toUInt32).toInt32) &&& (3 : Int32))), .val (.int te_), .unset] [])) _
            refine XS.iconst X58.here hx rfl (hb hby at_344) ?_
            show Steps p.tables e below (T58.setTop (mkF m 345 #[.val (.int p0), .val (.int p1), .val (.int p2), .val (.int p3), .val (.int p4), .val (.int p5), .val (.int ka), .val (.int kb), .val (.int c0), .val (.int c1), .val (.int la), .val (.int lb), .val (.int b0), .val (.int b1), .val (.int lineB), .val (.int colB), .val (.ref r31), .val (.ref r33), .val (.ref b36), .val (.ref b47), .val (.int (((p0.toUInt32 >>> ((14 : Int32) &&& 31).toUInt32).toInt32) &&& (3 : Int32))), .val (.int te_), .unset] [(.int (0 : Int32))])) _
            exact q
        have hT := own_txt la lb c0 c1 b0 b1 r_la r_lb r_c0 r_c1 r_b0 r_b1
        have hK := own_kinj HE ka kb r_ka r_kb
        have hE1 : own_te (own_kind en ka) (own_kind en kb) (own_len la) (own_len lb) (own_xs la c0 c1) (own_xs lb b0 b1) p2 lineB p3 colB = ex_ := own_fin hK hT hte_ hex_
        have hE2 : own_te (own_kind en kb) (own_kind en ka) (own_len lb) (own_len la) (own_xs lb b0 b1) (own_xs la c0 c1) lineB p2 colB p3 = ex_ := by rw [own_tesym]; exact hE1
        have hE3 : ¬ own_te (own_kind en ka) (own_kind en ka) (own_len la) (own_len la) (own_xs la c0 c1) (own_xs la c0 c1) p2 p2 p3 p3 = 0 := by rw [own_teE, if_pos ⟨rfl, ⟨rfl, rfl⟩, rfl, rfl⟩]; decide
        have F90 := ((E44.ext E47).keep K58)
        have F91 := ((F44_0.ext E47).keep K58 (ninS ne_b36_b47 nin0))
        have F92 := ((F44_1.ext E47).keep K58 (ninS ne_b36_b47 nin0))
        have F93 := ((F44_2.ext E47).keep K58 (ninS ne_b36_b47 nin0))
        have F94 := ((F44_3.ext E47).keep K58 (ninS ne_b36_b47 nin0))
        have F95 := ((F49.ext E47).keep K58)
        have F96 := (((Fc31.keep K33 nin0).ext E36).keep K44 (ninS ne_r31_b36 nin0))
        have F97 := ((F96.ext E47).keep K58 (ninS ne_r31_b47 nin0))
        have F98 := (((Fv31.keep K33 nin0).ext E36).keep K44 (ninS ne_r31_b36 nin0))
        have F99 := ((F98.ext E47).keep K58 (ninS ne_r31_b47 nin0))
        have F100 := ((F50.ext E47).keep K58 (ninS ne_rb31_b47 nin0))
        have P101 : own_tok Z T58.heap b36 (own_kind en ka) r31 rb31 kb31 (own_len la) (own_xs la c0 c1) p2 p3 := ⟨F90, F91, F92, F93, F94, F95, F97, F99, F100, (own_lenx la c0 c1)⟩
        have F102 := (F60.keep K58)
        have F103 := (((Fc33.ext E36).keep K44 (ninS ne_r33_b36 nin0)).ext E47)
        have F104 := (F103.keep K58 (ninS ne_r33_b47 nin0))
        have F105 := (((Fv33.ext E36).keep K44 (ninS ne_r33_b36 nin0)).ext E47)
        have F106 := (F105.keep K58 (ninS ne_r33_b47 nin0))
        have F107 := ((F52.ext E47).keep K58 (ninS ne_rb33_b47 nin0))
        have P108 : own_tok Z T58.heap b47 (own_kind en kb) r33 rb33 kb33 (own_len lb) (own_xs lb b0 b1) lineB colB := ⟨E58, F58_0, F58_1, F58_2, F58_3, F102, F104, F106, F107, (own_lenx lb b0 b1)⟩
        have K109 : Keep h0 T58.heap [] := (K55.trans K58 (allS (P := fun x => x ∈ ([] : List Addr) ∨ h0.size ≤ x) (Or.inr sz_b47) all0))
        have O110 : Old Z n0 T58.heap := (O56.keep K58 (allS ge_b47 all0))
        obtain ⟨cq89, kq89, q89a, q89b, q89c⟩ := isOf hZ rfl F90
        obtain ⟨_, _, ⟨T89, L89, kk89, n89⟩, -, X89, ⟨Lc89, hQ89, l89, y89, z89⟩, st89⟩ := X58.virtualBack hx (y := (⟨"com/example/vetted_traces/vettedtraces/language/Token", "equals", "(Ljava/lang/Object;)Z"⟩ : MethodName)) (z := (⟨"com/example/vetted_traces/vettedtraces/language/Token", "equals", "(Ljava/lang/Object;)Z"⟩ : MethodName)) hown (mvT hZ (hw _ (List.mem_of_getElem? (i := 60) rfl))) (mvT hZ (hw _ (List.mem_of_getElem? (i := 61) rfl))) (notFace_of_selects (args := #[]) (mvT hZ (hw _ (List.mem_of_getElem? (i := 63) rfl)))) (mvT hZ (hw _ (List.mem_of_getElem? (i := 63) rfl))) (mvT hZ (hw _ (List.mem_of_getElem? (i := 62) rfl))) (by decide) (backOf (W := 0) (rmT1 l Z a0 hw [] b36 b47 (own_kind en ka) r31 rb31 kb31 (own_len la) (own_xs la c0 c1) p2 p3 (own_kind en kb) r33 rb33 kb33 (own_len lb) (own_xs lb b0 b1) lineB colB cs T58.heap n0 (Nat.le_trans Z0 K109.1) P101 P108 SC hcs O110) hZ (hw _ (List.mem_of_getElem? (i := 64) rfl)) (hw _ (List.mem_of_getElem? (i := 32) rfl)) (by decide) (by decide)) q89a q89c (g := (mkF m 351 #[.val (.int p0), .val (.int p1), .val (.int p2), .val (.int p3), .val (.int p4), .val (.int p5), .val (.int ka), .val (.int kb), .val (.int c0), .val (.int c1), .val (.int la), .val (.int lb), .val (.int b0), .val (.int b1), .val (.int lineB), .val (.int colB), .val (.ref r31), .val (.ref r33), .val (.ref b36), .val (.ref b47), .val (.int (((p0.toUInt32 >>> ((14 : Int32) &&& 31).toUInt32).toInt32) &&& (3 : Int32))), .val (.int te_), .val (.int ex_)] [(.ref b47), (.ref b36)])) rfl (by rw [hml]; rfl) (Steps.refl _) (argsL := [(.ref b47)]) (rest := []) (lenOf own_pd5 rfl) rfl (by show 2 * 0 + _ ≤ _; exact Nat.le_of_eq rfl) (hb hby at_351) (fun _ _ => ⟨rfl, rfl, (by decide : 22 + 0 ≤ _), (by decide : 112 + 0 ≤ _)⟩)
        dsimp only [Pt.U, Pt.locs, Pt.cells, Pt.slots] at X89 l89 y89 z89 st89 hQ89
        subst l89 y89 z89
        obtain ⟨rfl, N89q, e89⟩ := hQ89
        have N89 := Fr.app N58 N89q
        have P112 : own_tok Z T58.heap b47 (own_kind en kb) r33 rb33 kb33 (own_len lb) (own_xs lb b0 b1) lineB colB := ⟨E58, F58_0, F58_1, F58_2, F58_3, F102, F104, F106, F107, (own_lenx lb b0 b1)⟩
        have P113 : own_tok Z T58.heap b36 (own_kind en ka) r31 rb31 kb31 (own_len la) (own_xs la c0 c1) p2 p3 := ⟨F90, F91, F92, F93, F94, F95, F97, F99, F100, (own_lenx la c0 c1)⟩
        obtain ⟨cq111, kq111, q111a, q111b, q111c⟩ := isOf hZ e89 E58
        obtain ⟨_, _, ⟨T111, L111, kk111, n111⟩, -, X111, ⟨Lc111, hQ111, l111, y111, z111⟩, st111⟩ := X89.virtualBack hx (y := (⟨"com/example/vetted_traces/vettedtraces/language/Token", "equals", "(Ljava/lang/Object;)Z"⟩ : MethodName)) (z := (⟨"com/example/vetted_traces/vettedtraces/language/Token", "equals", "(Ljava/lang/Object;)Z"⟩ : MethodName)) hown (mvT hZ (hw _ (List.mem_of_getElem? (i := 60) rfl))) (mvT hZ (hw _ (List.mem_of_getElem? (i := 61) rfl))) (notFace_of_selects (args := #[]) (mvT hZ (hw _ (List.mem_of_getElem? (i := 63) rfl)))) (mvT hZ (hw _ (List.mem_of_getElem? (i := 63) rfl))) (mvT hZ (hw _ (List.mem_of_getElem? (i := 62) rfl))) (by decide) (backOf (W := 0) (rmT1 l Z a0 hw [] b47 b36 (own_kind en kb) r33 rb33 kb33 (own_len lb) (own_xs lb b0 b1) lineB colB (own_kind en ka) r31 rb31 kb31 (own_len la) (own_xs la c0 c1) p2 p3 cs T58.heap n0 (Nat.le_trans Z0 K109.1) P112 P113 SC hcs O110) hZ (hw _ (List.mem_of_getElem? (i := 64) rfl)) (hw _ (List.mem_of_getElem? (i := 32) rfl)) (by decide) (by decide)) q111a q111c (g := (mkF m 363 #[.val (.int p0), .val (.int p1), .val (.int p2), .val (.int p3), .val (.int p4), .val (.int p5), .val (.int ka), .val (.int kb), .val (.int c0), .val (.int c1), .val (.int la), .val (.int lb), .val (.int b0), .val (.int b1), .val (.int lineB), .val (.int colB), .val (.ref r31), .val (.ref r33), .val (.ref b36), .val (.ref b47), .val (.int (((p0.toUInt32 >>> ((14 : Int32) &&& 31).toUInt32).toInt32) &&& (3 : Int32))), .val (.int te_), .val (.int ex_)] [(.ref b36), (.ref b47)])) rfl (by rw [hml]; rfl) (Steps.refl _) (argsL := [(.ref b36)]) (rest := []) (lenOf own_pd5 rfl) rfl (by show 2 * 0 + _ ≤ _; exact Nat.le_of_eq rfl) (hb hby at_363) (fun _ _ => ⟨rfl, e89, (by decide : 22 + 0 ≤ _), (by decide : 112 + 0 ≤ _)⟩)
        dsimp only [Pt.U, Pt.locs, Pt.cells, Pt.slots] at X111 l111 y111 z111 st111 hQ111
        subst l111 y111 z111
        obtain ⟨rfl, N111q, e111⟩ := hQ111
        have N111 := Fr.app N89 N111q
        have k114 : own_To p e below T111 (mkF m 373 #[.val (.int p0), .val (.int p1), .val (.int p2), .val (.int p3), .val (.int p4), .val (.int p5), .val (.int ka), .val (.int kb), .val (.int c0), .val (.int c1), .val (.int la), .val (.int lb), .val (.int b0), .val (.int b1), .val (.int lineB), .val (.int colB), .val (.ref r31), .val (.ref r33), .val (.ref b36), .val (.ref b47), .val (.int (((p0.toUInt32 >>> ((14 : Int32) &&& 31).toUInt32).toInt32) &&& (3 : Int32))), .val (.int te_), .val (.int ex_)] [(.ref b36)]) s₁ (mkF m 0 #[.val (.int p0), .val (.int p1), .val (.int p2), .val (.int p3), .val (.int p4), .val (.int p5), .unset, .unset, .unset, .unset, .unset, .unset, .unset, .unset, .unset, .unset, .unset, .unset, .unset, .unset, .unset, .unset, .unset] []) := fun t q => k88 t (by
          refine XS.istore X58.here hx rfl (hb hby at_345) rfl (l' := #[.val (.int p0), .val (.int p1), .val (.int p2), .val (.int p3), .val (.int p4), .val (.int p5), .val (.int ka), .val (.int kb), .val (.int c0), .val (.int c1), .val (.int la), .val (.int lb), .val (.int b0), .val (.int b1), .val (.int lineB), .val (.int colB), .val (.ref r31), .val (.ref r33), .val (.ref b36), .val (.ref b47), .val (.int (((p0.toUInt32 >>> ((14 : Int32) &&& 31).toUInt32).toInt32) &&& (3 : Int32))), .val (.int te_), .val (.int ex_)]) rfl ?_
          show Steps p.tables e below (T58.setTop (mkF m 347 #[.val (.int p0), .val (.int p1), .val (.int p2), .val (.int p3), .val (.int p4), .val (.int p5), .val (.int ka), .val (.int kb), .val (.int c0), .val (.int c1), .val (.int la), .val (.int lb), .val (.int b0), .val (.int b1), .val (.int lineB), .val (.int colB), .val (.ref r31), .val (.ref r33), .val (.ref b36), .val (.ref b47), .val (.int (((p0.toUInt32 >>> ((14 : Int32) &&& 31).toUInt32).toInt32) &&& (3 : Int32))), .val (.int te_), .val (.int ex_)] [])) _
          refine XS.aload X58.here hx rfl (hb hby at_347) rfl rfl ?_
          show Steps p.tables e below (T58.setTop (mkF m 349 #[.val (.int p0), .val (.int p1), .val (.int p2), .val (.int p3), .val (.int p4), .val (.int p5), .val (.int ka), .val (.int kb), .val (.int c0), .val (.int c1), .val (.int la), .val (.int lb), .val (.int b0), .val (.int b1), .val (.int lineB), .val (.int colB), .val (.ref r31), .val (.ref r33), .val (.ref b36), .val (.ref b47), .val (.int (((p0.toUInt32 >>> ((14 : Int32) &&& 31).toUInt32).toInt32) &&& (3 : Int32))), .val (.int te_), .val (.int ex_)] [(.ref b36)])) _
          refine XS.aload X58.here hx rfl (hb hby at_349) rfl rfl ?_
          show Steps p.tables e below (T58.setTop (mkF m 351 #[.val (.int p0), .val (.int p1), .val (.int p2), .val (.int p3), .val (.int p4), .val (.int p5), .val (.int ka), .val (.int kb), .val (.int c0), .val (.int c1), .val (.int la), .val (.int lb), .val (.int b0), .val (.int b1), .val (.int lineB), .val (.int colB), .val (.ref r31), .val (.ref r33), .val (.ref b36), .val (.ref b47), .val (.int (((p0.toUInt32 >>> ((14 : Int32) &&& 31).toUInt32).toInt32) &&& (3 : Int32))), .val (.int te_), .val (.int ex_)] [(.ref b47), (.ref b36)])) _
          refine st89.trans ?_
          show Steps p.tables e below (T89.setTop (mkF m 354 #[.val (.int p0), .val (.int p1), .val (.int p2), .val (.int p3), .val (.int p4), .val (.int p5), .val (.int ka), .val (.int kb), .val (.int c0), .val (.int c1), .val (.int la), .val (.int lb), .val (.int b0), .val (.int b1), .val (.int lineB), .val (.int colB), .val (.ref r31), .val (.ref r33), .val (.ref b36), .val (.ref b47), .val (.int (((p0.toUInt32 >>> ((14 : Int32) &&& 31).toUInt32).toInt32) &&& (3 : Int32))), .val (.int te_), .val (.int ex_)] [(.int (own_te (own_kind en ka) (own_kind en kb) (own_len la) (own_len lb) (own_xs la c0 c1) (own_xs lb b0 b1) p2 lineB p3 colB))])) _
          refine XS.iload X89.here hx rfl (hb hby at_354) rfl ?_
          show Steps p.tables e below (T89.setTop (mkF m 356 #[.val (.int p0), .val (.int p1), .val (.int p2), .val (.int p3), .val (.int p4), .val (.int p5), .val (.int ka), .val (.int kb), .val (.int c0), .val (.int c1), .val (.int la), .val (.int lb), .val (.int b0), .val (.int b1), .val (.int lineB), .val (.int colB), .val (.ref r31), .val (.ref r33), .val (.ref b36), .val (.ref b47), .val (.int (((p0.toUInt32 >>> ((14 : Int32) &&& 31).toUInt32).toInt32) &&& (3 : Int32))), .val (.int te_), .val (.int ex_)] [(.int ex_), (.int (own_te (own_kind en ka) (own_kind en kb) (own_len la) (own_len lb) (own_xs la c0 c1) (own_xs lb b0 b1) p2 lineB p3 colB))])) _
          refine XS.icmpNo X89.here hx rfl (hb hby at_356) rfl (teq hE1).2 ?_
          show Steps p.tables e below (T89.setTop (mkF m 359 #[.val (.int p0), .val (.int p1), .val (.int p2), .val (.int p3), .val (.int p4), .val (.int p5), .val (.int ka), .val (.int kb), .val (.int c0), .val (.int c1), .val (.int la), .val (.int lb), .val (.int b0), .val (.int b1), .val (.int lineB), .val (.int colB), .val (.ref r31), .val (.ref r33), .val (.ref b36), .val (.ref b47), .val (.int (((p0.toUInt32 >>> ((14 : Int32) &&& 31).toUInt32).toInt32) &&& (3 : Int32))), .val (.int te_), .val (.int ex_)] [])) _
          refine XS.aload X89.here hx rfl (hb hby at_359) rfl rfl ?_
          show Steps p.tables e below (T89.setTop (mkF m 361 #[.val (.int p0), .val (.int p1), .val (.int p2), .val (.int p3), .val (.int p4), .val (.int p5), .val (.int ka), .val (.int kb), .val (.int c0), .val (.int c1), .val (.int la), .val (.int lb), .val (.int b0), .val (.int b1), .val (.int lineB), .val (.int colB), .val (.ref r31), .val (.ref r33), .val (.ref b36), .val (.ref b47), .val (.int (((p0.toUInt32 >>> ((14 : Int32) &&& 31).toUInt32).toInt32) &&& (3 : Int32))), .val (.int te_), .val (.int ex_)] [(.ref b47)])) _
          refine XS.aload X89.here hx rfl (hb hby at_361) rfl rfl ?_
          show Steps p.tables e below (T89.setTop (mkF m 363 #[.val (.int p0), .val (.int p1), .val (.int p2), .val (.int p3), .val (.int p4), .val (.int p5), .val (.int ka), .val (.int kb), .val (.int c0), .val (.int c1), .val (.int la), .val (.int lb), .val (.int b0), .val (.int b1), .val (.int lineB), .val (.int colB), .val (.ref r31), .val (.ref r33), .val (.ref b36), .val (.ref b47), .val (.int (((p0.toUInt32 >>> ((14 : Int32) &&& 31).toUInt32).toInt32) &&& (3 : Int32))), .val (.int te_), .val (.int ex_)] [(.ref b36), (.ref b47)])) _
          refine st111.trans ?_
          show Steps p.tables e below (T111.setTop (mkF m 366 #[.val (.int p0), .val (.int p1), .val (.int p2), .val (.int p3), .val (.int p4), .val (.int p5), .val (.int ka), .val (.int kb), .val (.int c0), .val (.int c1), .val (.int la), .val (.int lb), .val (.int b0), .val (.int b1), .val (.int lineB), .val (.int colB), .val (.ref r31), .val (.ref r33), .val (.ref b36), .val (.ref b47), .val (.int (((p0.toUInt32 >>> ((14 : Int32) &&& 31).toUInt32).toInt32) &&& (3 : Int32))), .val (.int te_), .val (.int ex_)] [(.int (own_te (own_kind en kb) (own_kind en ka) (own_len lb) (own_len la) (own_xs lb b0 b1) (own_xs la c0 c1) lineB p2 colB p3))])) _
          refine XS.iload X111.here hx rfl (hb hby at_366) rfl ?_
          show Steps p.tables e below (T111.setTop (mkF m 368 #[.val (.int p0), .val (.int p1), .val (.int p2), .val (.int p3), .val (.int p4), .val (.int p5), .val (.int ka), .val (.int kb), .val (.int c0), .val (.int c1), .val (.int la), .val (.int lb), .val (.int b0), .val (.int b1), .val (.int lineB), .val (.int colB), .val (.ref r31), .val (.ref r33), .val (.ref b36), .val (.ref b47), .val (.int (((p0.toUInt32 >>> ((14 : Int32) &&& 31).toUInt32).toInt32) &&& (3 : Int32))), .val (.int te_), .val (.int ex_)] [(.int ex_), (.int (own_te (own_kind en kb) (own_kind en ka) (own_len lb) (own_len la) (own_xs lb b0 b1) (own_xs la c0 c1) lineB p2 colB p3))])) _
          refine XS.icmpNo X111.here hx rfl (hb hby at_368) rfl (teq hE2).2 ?_
          show Steps p.tables e below (T111.setTop (mkF m 371 #[.val (.int p0), .val (.int p1), .val (.int p2), .val (.int p3), .val (.int p4), .val (.int p5), .val (.int ka), .val (.int kb), .val (.int c0), .val (.int c1), .val (.int la), .val (.int lb), .val (.int b0), .val (.int b1), .val (.int lineB), .val (.int colB), .val (.ref r31), .val (.ref r33), .val (.ref b36), .val (.ref b47), .val (.int (((p0.toUInt32 >>> ((14 : Int32) &&& 31).toUInt32).toInt32) &&& (3 : Int32))), .val (.int te_), .val (.int ex_)] [])) _
          refine XS.aload X111.here hx rfl (hb hby at_371) rfl rfl ?_
          show Steps p.tables e below (T111.setTop (mkF m 373 #[.val (.int p0), .val (.int p1), .val (.int p2), .val (.int p3), .val (.int p4), .val (.int p5), .val (.int ka), .val (.int kb), .val (.int c0), .val (.int c1), .val (.int la), .val (.int lb), .val (.int b0), .val (.int b1), .val (.int lineB), .val (.int colB), .val (.ref r31), .val (.ref r33), .val (.ref b36), .val (.ref b47), .val (.int (((p0.toUInt32 >>> ((14 : Int32) &&& 31).toUInt32).toInt32) &&& (3 : Int32))), .val (.int te_), .val (.int ex_)] [(.ref b36)])) _
          exact q)
        have P116 : own_tok Z T58.heap b36 (own_kind en ka) r31 rb31 kb31 (own_len la) (own_xs la c0 c1) p2 p3 := ⟨F90, F91, F92, F93, F94, F95, F97, F99, F100, (own_lenx la c0 c1)⟩
        obtain ⟨cq115, kq115, q115a, q115b, q115c⟩ := isOf hZ e111 F90
        obtain ⟨_, _, ⟨T115, L115, kk115, n115⟩, -, X115, ⟨Lc115, hQ115, l115, y115, z115⟩, st115⟩ := X111.virtualBack hx (y := (⟨"com/example/vetted_traces/vettedtraces/language/Token", "equals", "(Ljava/lang/Object;)Z"⟩ : MethodName)) (z := (⟨"com/example/vetted_traces/vettedtraces/language/Token", "equals", "(Ljava/lang/Object;)Z"⟩ : MethodName)) hown (mvT hZ (hw _ (List.mem_of_getElem? (i := 60) rfl))) (mvT hZ (hw _ (List.mem_of_getElem? (i := 61) rfl))) (notFace_of_selects (args := #[]) (mvT hZ (hw _ (List.mem_of_getElem? (i := 63) rfl)))) (mvT hZ (hw _ (List.mem_of_getElem? (i := 63) rfl))) (mvT hZ (hw _ (List.mem_of_getElem? (i := 62) rfl))) (by decide) (backOf (W := 0) (rmT1 l Z a0 hw [] b36 b36 (own_kind en ka) r31 rb31 kb31 (own_len la) (own_xs la c0 c1) p2 p3 (own_kind en ka) r31 rb31 kb31 (own_len la) (own_xs la c0 c1) p2 p3 cs T58.heap n0 (Nat.le_trans Z0 K109.1) P116 P116 SC hcs O110) hZ (hw _ (List.mem_of_getElem? (i := 64) rfl)) (hw _ (List.mem_of_getElem? (i := 32) rfl)) (by decide) (by decide)) q115a q115c (g := (mkF m 375 #[.val (.int p0), .val (.int p1), .val (.int p2), .val (.int p3), .val (.int p4), .val (.int p5), .val (.int ka), .val (.int kb), .val (.int c0), .val (.int c1), .val (.int la), .val (.int lb), .val (.int b0), .val (.int b1), .val (.int lineB), .val (.int colB), .val (.ref r31), .val (.ref r33), .val (.ref b36), .val (.ref b47), .val (.int (((p0.toUInt32 >>> ((14 : Int32) &&& 31).toUInt32).toInt32) &&& (3 : Int32))), .val (.int te_), .val (.int ex_)] [(.ref b36), (.ref b36)])) rfl (by rw [hml]; rfl) (Steps.refl _) (argsL := [(.ref b36)]) (rest := []) (lenOf own_pd5 rfl) rfl (by show 2 * 0 + _ ≤ _; exact Nat.le_of_eq rfl) (hb hby at_375) (fun _ _ => ⟨rfl, e111, (by decide : 22 + 0 ≤ _), (by decide : 112 + 0 ≤ _)⟩)
        dsimp only [Pt.U, Pt.locs, Pt.cells, Pt.slots] at X115 l115 y115 z115 st115 hQ115
        subst l115 y115 z115
        obtain ⟨rfl, N115q, e115⟩ := hQ115
        have N115 := Fr.app N111 N115q
        have k117 : own_To p e below T115 (mkF m 386 #[.val (.int p0), .val (.int p1), .val (.int p2), .val (.int p3), .val (.int p4), .val (.int p5), .val (.int ka), .val (.int kb), .val (.int c0), .val (.int c1), .val (.int la), .val (.int lb), .val (.int b0), .val (.int b1), .val (.int lineB), .val (.int colB), .val (.ref r31), .val (.ref r33), .val (.ref b36), .val (.ref b47), .val (.int (((p0.toUInt32 >>> ((14 : Int32) &&& 31).toUInt32).toInt32) &&& (3 : Int32))), .val (.int te_), .val (.int ex_)] [(.int (1 : Int32))]) s₁ (mkF m 0 #[.val (.int p0), .val (.int p1), .val (.int p2), .val (.int p3), .val (.int p4), .val (.int p5), .unset, .unset, .unset, .unset, .unset, .unset, .unset, .unset, .unset, .unset, .unset, .unset, .unset, .unset, .unset, .unset, .unset] []) := fun t q => k114 t (by
          refine XS.aload X111.here hx rfl (hb hby at_373) rfl rfl ?_
          show Steps p.tables e below (T111.setTop (mkF m 375 #[.val (.int p0), .val (.int p1), .val (.int p2), .val (.int p3), .val (.int p4), .val (.int p5), .val (.int ka), .val (.int kb), .val (.int c0), .val (.int c1), .val (.int la), .val (.int lb), .val (.int b0), .val (.int b1), .val (.int lineB), .val (.int colB), .val (.ref r31), .val (.ref r33), .val (.ref b36), .val (.ref b47), .val (.int (((p0.toUInt32 >>> ((14 : Int32) &&& 31).toUInt32).toInt32) &&& (3 : Int32))), .val (.int te_), .val (.int ex_)] [(.ref b36), (.ref b36)])) _
          refine st115.trans ?_
          show Steps p.tables e below (T115.setTop (mkF m 378 #[.val (.int p0), .val (.int p1), .val (.int p2), .val (.int p3), .val (.int p4), .val (.int p5), .val (.int ka), .val (.int kb), .val (.int c0), .val (.int c1), .val (.int la), .val (.int lb), .val (.int b0), .val (.int b1), .val (.int lineB), .val (.int colB), .val (.ref r31), .val (.ref r33), .val (.ref b36), .val (.ref b47), .val (.int (((p0.toUInt32 >>> ((14 : Int32) &&& 31).toUInt32).toInt32) &&& (3 : Int32))), .val (.int te_), .val (.int ex_)] [(.int (own_te (own_kind en ka) (own_kind en ka) (own_len la) (own_len la) (own_xs la c0 c1) (own_xs la c0 c1) p2 p2 p3 p3))])) _
          refine XS.ifNo X115.here hx rfl (hb hby at_378) rfl ((if0 _ _).trans (feq hE3).1) ?_
          show Steps p.tables e below (T115.setTop (mkF m 381 #[.val (.int p0), .val (.int p1), .val (.int p2), .val (.int p3), .val (.int p4), .val (.int p5), .val (.int ka), .val (.int kb), .val (.int c0), .val (.int c1), .val (.int la), .val (.int lb), .val (.int b0), .val (.int b1), .val (.int lineB), .val (.int colB), .val (.ref r31), .val (.ref r33), .val (.ref b36), .val (.ref b47), .val (.int (((p0.toUInt32 >>> ((14 : Int32) &&& 31).toUInt32).toInt32) &&& (3 : Int32))), .val (.int te_), .val (.int ex_)] [])) _
          refine XS.iconst X115.here hx rfl (hb hby at_381) ?_
          show Steps p.tables e below (T115.setTop (mkF m 382 #[.val (.int p0), .val (.int p1), .val (.int p2), .val (.int p3), .val (.int p4), .val (.int p5), .val (.int ka), .val (.int kb), .val (.int c0), .val (.int c1), .val (.int la), .val (.int lb), .val (.int b0), .val (.int b1), .val (.int lineB), .val (.int colB), .val (.ref r31), .val (.ref r33), .val (.ref b36), .val (.ref b47), .val (.int (((p0.toUInt32 >>> ((14 : Int32) &&& 31).toUInt32).toInt32) &&& (3 : Int32))), .val (.int te_), .val (.int ex_)] [(.int (1 : Int32))])) _
          refine XS.goto X115.here hx rfl (pc0 := 382) (pc' := 386) rfl (hb hby at_382) (by decide) (by decide) ?_
          show Steps p.tables e below (T115.setTop (mkF m 386 #[.val (.int p0), .val (.int p1), .val (.int p2), .val (.int p3), .val (.int p4), .val (.int p5), .val (.int ka), .val (.int kb), .val (.int c0), .val (.int c1), .val (.int la), .val (.int lb), .val (.int b0), .val (.int b1), .val (.int lineB), .val (.int colB), .val (.ref r31), .val (.ref r33), .val (.ref b36), .val (.ref b47), .val (.int (((p0.toUInt32 >>> ((14 : Int32) &&& 31).toUInt32).toInt32) &&& (3 : Int32))), .val (.int te_), .val (.int ex_)] [(.int (1 : Int32))])) _
          exact q)
        have hCe := CRl58.trans (CHv.at (vm0 := T58.vm) X115 hZ hEL CHl58)
        obtain ⟨fs, hr, hrun, hended, hEnd⟩ := Stand.leaveW (s := s) (vm₁ := T58.vm) X115 hSn58 (by rw [e115]; exact (Nat.le_refl _)) (v := some (.int (1 : Int32))) (fun h => by rw [Bd.returns] at h; cases h)
        refine ⟨_, _, k0 _ (k117 _ ?_), hrun, hended, _, _, rfl, ?_, ?_, hEnd.1, hEnd.2.1, hEnd.2.2.1, hEnd.2.2.2.mono (by decide) (by decide)⟩
        · show Steps p.tables e below (T115.setTop (mkF m 386 #[.val (.int p0), .val (.int p1), .val (.int p2), .val (.int p3), .val (.int p4), .val (.int p5), .val (.int ka), .val (.int kb), .val (.int c0), .val (.int c1), .val (.int la), .val (.int lb), .val (.int b0), .val (.int b1), .val (.int lineB), .val (.int colB), .val (.ref r31), .val (.ref r33), .val (.ref b36), .val (.ref b47), .val (.int (((p0.toUInt32 >>> ((14 : Int32) &&& 31).toUInt32).toInt32) &&& (3 : Int32))), .val (.int te_), .val (.int ex_)] [(.int (1 : Int32))])) _
          exact retN X115 hx (t := .boolean) Bd.returns (by simp) (hb hby at_386) hr
        · show Q0 Z p0 p1 p2 p3 p4 p5 en cs h0 n0 _ T115.heap _
          rw [e115]
          exact ⟨rfl, N115⟩
        · show CHr Z own_EL s.vm s.heap T115.vm T115.heap
          rw [hh, e115]; exact hCe
  ·
    have k118 : own_To p e below T10 (mkF m 88 #[.val (.int p0), .val (.int p1), .val (.int p2), .val (.int p3), .val (.int p4), .val (.int p5), .val (.int ka), .val (.int kb), .val (.int c0), .val (.int c1), .val (.int la), .val (.int la), .unset, .unset, .unset, .unset, .unset, .unset, .unset, .unset, .unset, .unset, .unset] [(.int (((p1.toUInt32 >>> ((21 : Int32) &&& 31).toUInt32).toInt32) &&& (1 : Int32)))]) s₁ (mkF m 0 #[.val (.int p0), .val (.int p1), .val (.int p2), .val (.int p3), .val (.int p4), .val (.int p5), .unset, .unset, .unset, .unset, .unset, .unset, .unset, .unset, .unset, .unset, .unset, .unset, .unset, .unset, .unset, .unset, .unset] []) := fun t q => k13 t (by
      refine XS.ifNo X10.here hx rfl (hb hby at_62) rfl ((if0 _ _).trans (feq hc14).1) ?_
      show Steps p.tables e below (T10.setTop (mkF m 65 #[.val (.int p0), .val (.int p1), .val (.int p2), .val (.int p3), .val (.int p4), .val (.int p5), .val (.int ka), .val (.int kb), .val (.int c0), .val (.int c1), .val (.int la), .unset, .unset, .unset, .unset, .unset, .unset, .unset, .unset, .unset, .unset, .unset, .unset] [])) _
      refine XS.iload X10.here hx rfl (hb hby at_65) rfl ?_
      show Steps p.tables e below (T10.setTop (mkF m 67 #[.val (.int p0), .val (.int p1), .val (.int p2), .val (.int p3), .val (.int p4), .val (.int p5), .val (.int ka), .val (.int kb), .val (.int c0), .val (.int c1), .val (.int la), .unset, .unset, .unset, .unset, .unset, .unset, .unset, .unset, .unset, .unset, .unset, .unset] [(.int la)])) _
      refine XS.goto X10.here hx rfl (pc0 := 67) (pc' := 80) rfl (hb hby at_67) (by decide) (by decide) ?_
      show Steps p.tables e below (T10.setTop (mkF m 80 #[.val (.int p0), .val (.int p1), .val (.int p2), .val (.int p3), .val (.int p4), .val (.int p5), .val (.int ka), .val (.int kb), .val (.int c0), .val (.int c1), .val (.int la), .unset, .unset, .unset, .unset, .unset, .unset, .unset, .unset, .unset, .unset, .unset, .unset] [(.int la)])) _
      refine XS.istore X10.here hx rfl (hb hby at_80) rfl (l' := #[.val (.int p0), .val (.int p1), .val (.int p2), .val (.int p3), .val (.int p4), .val (.int p5), .val (.int ka), .val (.int kb), .val (.int c0), .val (.int c1), .val (.int la), .val (.int la), .unset, .unset, .unset, .unset, .unset, .unset, .unset, .unset, .unset, .unset, .unset]) rfl ?_
      show Steps p.tables e below (T10.setTop (mkF m 82 #[.val (.int p0), .val (.int p1), .val (.int p2), .val (.int p3), .val (.int p4), .val (.int p5), .val (.int ka), .val (.int kb), .val (.int c0), .val (.int c1), .val (.int la), .val (.int la), .unset, .unset, .unset, .unset, .unset, .unset, .unset, .unset, .unset, .unset, .unset] [])) _
      refine XS.iloadN X10.here hx rfl (hb hby at_82) rfl ?_
      show Steps p.tables e below (T10.setTop (mkF m 83 #[.val (.int p0), .val (.int p1), .val (.int p2), .val (.int p3), .val (.int p4), .val (.int p5), .val (.int ka), .val (.int kb), .val (.int c0), .val (.int c1), .val (.int la), .val (.int la), .unset, .unset, .unset, .unset, .unset, .unset, .unset, .unset, .unset, .unset, .unset] [(.int p1)])) _
      refine XS.bipush X10.here hx rfl (hb hby at_83) ?_
      show Steps p.tables e below (T10.setTop (mkF m 85 #[.val (.int p0), .val (.int p1), .val (.int p2), .val (.int p3), .val (.int p4), .val (.int p5), .val (.int ka), .val (.int kb), .val (.int c0), .val (.int c1), .val (.int la), .val (.int la), .unset, .unset, .unset, .unset, .unset, .unset, .unset, .unset, .unset, .unset, .unset] [(.int (21 : Int32)), (.int p1)])) _
      refine XS.iushr X10.here hx rfl (hb hby at_85) rfl ?_
      show Steps p.tables e below (T10.setTop (mkF m 86 #[.val (.int p0), .val (.int p1), .val (.int p2), .val (.int p3), .val (.int p4), .val (.int p5), .val (.int ka), .val (.int kb), .val (.int c0), .val (.int c1), .val (.int la), .val (.int la), .unset, .unset, .unset, .unset, .unset, .unset, .unset, .unset, .unset, .unset, .unset] [(.int ((p1.toUInt32 >>> ((21 : Int32) &&& 31).toUInt32).toInt32))])) _
      refine XS.iconst X10.here hx rfl (hb hby at_86) ?_
      show Steps p.tables e below (T10.setTop (mkF m 87 #[.val (.int p0), .val (.int p1), .val (.int p2), .val (.int p3), .val (.int p4), .val (.int p5), .val (.int ka), .val (.int kb), .val (.int c0), .val (.int c1), .val (.int la), .val (.int la), .unset, .unset, .unset, .unset, .unset, .unset, .unset, .unset, .unset, .unset, .unset] [(.int (1 : Int32)), (.int ((p1.toUInt32 >>> ((21 : Int32) &&& 31).toUInt32).toInt32))])) _
      refine XS.iand X10.here hx rfl (hb hby at_87) rfl ?_
      show Steps p.tables e below (T10.setTop (mkF m 88 #[.val (.int p0), .val (.int p1), .val (.int p2), .val (.int p3), .val (.int p4), .val (.int p5), .val (.int ka), .val (.int kb), .val (.int c0), .val (.int c1), .val (.int la), .val (.int la), .unset, .unset, .unset, .unset, .unset, .unset, .unset, .unset, .unset, .unset, .unset] [(.int (((p1.toUInt32 >>> ((21 : Int32) &&& 31).toUInt32).toInt32) &&& (1 : Int32)))])) _
      exact q)
    obtain ⟨b0, hb0, k120⟩ : ∃ (b0 : Int32), (b0 = (if (((p1.toUInt32 >>> ((21 : Int32) &&& 31).toUInt32).toInt32) &&& (1 : Int32)) = (0 : Int32) then ((((p1.toUInt32 >>> ((22 : Int32) &&& 31).toUInt32).toInt32) &&& (255 : Int32)).toUInt32.toUInt16.toUInt32.toInt32) else c0)) ∧ own_To p e below T10 (mkF m 105 #[.val (.int p0), .val (.int p1), .val (.int p2), .val (.int p3), .val (.int p4), .val (.int p5), .val (.int ka), .val (.int kb), .val (.int c0), .val (.int c1), .val (.int la), .val (.int la), .unset, .unset, .unset, .unset, .unset, .unset, .unset, .unset, .unset, .unset, .unset] [(.int b0)]) s₁ (mkF m 0 #[.val (.int p0), .val (.int p1), .val (.int p2), .val (.int p3), .val (.int p4), .val (.int p5), .unset, .unset, .unset, .unset, .unset, .unset, .unset, .unset, .unset, .unset, .unset, .unset, .unset, .unset, .unset, .unset, .unset] []) := by
      by_cases hm119 : (((p1.toUInt32 >>> ((21 : Int32) &&& 31).toUInt32).toInt32) &&& (1 : Int32)) = (0 : Int32)
      ·
        refine ⟨((((p1.toUInt32 >>> ((22 : Int32) &&& 31).toUInt32).toInt32) &&& (255 : Int32)).toUInt32.toUInt16.toUInt32.toInt32), by rw [if_pos hm119], fun t q => k118 t (?_)⟩
        refine XS.ifYes X10.here hx rfl (pc0 := 88) (pc' := 96) rfl (hb hby at_88) rfl ((if0 _ _).trans (teq hm119).1) (by decide) (by decide) ?_
        show Steps p.tables e below (T10.setTop (mkF m 96 #[.val (.int p0), .val (.int p1), .val (.int p2), .val (.int p3), .val (.int p4), .val (.int p5), .val (.int ka), .val (.int kb), .val (.int c0), .val (.int c1), .val (.int la), .val (.int la), .unset, .unset, .unset, .unset, .unset, .unset, .unset, .unset, .unset, .unset, .unset] [])) _
        refine XS.iloadN X10.here hx rfl (hb hby at_96) rfl ?_
        show Steps p.tables e below (T10.setTop (mkF m 97 #[.val (.int p0), .val (.int p1), .val (.int p2), .val (.int p3), .val (.int p4), .val (.int p5), .val (.int ka), .val (.int kb), .val (.int c0), .val (.int c1), .val (.int la), .val (.int la), .unset, .unset, .unset, .unset, .unset, .unset, .unset, .unset, .unset, .unset, .unset] [(.int p1)])) _
        refine XS.bipush X10.here hx rfl (hb hby at_97) ?_
        show Steps p.tables e below (T10.setTop (mkF m 99 #[.val (.int p0), .val (.int p1), .val (.int p2), .val (.int p3), .val (.int p4), .val (.int p5), .val (.int ka), .val (.int kb), .val (.int c0), .val (.int c1), .val (.int la), .val (.int la), .unset, .unset, .unset, .unset, .unset, .unset, .unset, .unset, .unset, .unset, .unset] [(.int (22 : Int32)), (.int p1)])) _
        refine XS.iushr X10.here hx rfl (hb hby at_99) rfl ?_
        show Steps p.tables e below (T10.setTop (mkF m 100 #[.val (.int p0), .val (.int p1), .val (.int p2), .val (.int p3), .val (.int p4), .val (.int p5), .val (.int ka), .val (.int kb), .val (.int c0), .val (.int c1), .val (.int la), .val (.int la), .unset, .unset, .unset, .unset, .unset, .unset, .unset, .unset, .unset, .unset, .unset] [(.int ((p1.toUInt32 >>> ((22 : Int32) &&& 31).toUInt32).toInt32))])) _
        refine XS.sipush X10.here hx rfl (hb hby at_100) ?_
        show Steps p.tables e below (T10.setTop (mkF m 103 #[.val (.int p0), .val (.int p1), .val (.int p2), .val (.int p3), .val (.int p4), .val (.int p5), .val (.int ka), .val (.int kb), .val (.int c0), .val (.int c1), .val (.int la), .val (.int la), .unset, .unset, .unset, .unset, .unset, .unset, .unset, .unset, .unset, .unset, .unset] [(.int (255 : Int32)), (.int ((p1.toUInt32 >>> ((22 : Int32) &&& 31).toUInt32).toInt32))])) _
        refine XS.iand X10.here hx rfl (hb hby at_103) rfl ?_
        show Steps p.tables e below (T10.setTop (mkF m 104 #[.val (.int p0), .val (.int p1), .val (.int p2), .val (.int p3), .val (.int p4), .val (.int p5), .val (.int ka), .val (.int kb), .val (.int c0), .val (.int c1), .val (.int la), .val (.int la), .unset, .unset, .unset, .unset, .unset, .unset, .unset, .unset, .unset, .unset, .unset] [(.int (((p1.toUInt32 >>> ((22 : Int32) &&& 31).toUInt32).toInt32) &&& (255 : Int32)))])) _
        refine XS.i2c X10.here hx rfl (hb hby at_104) rfl ?_
        show Steps p.tables e below (T10.setTop (mkF m 105 #[.val (.int p0), .val (.int p1), .val (.int p2), .val (.int p3), .val (.int p4), .val (.int p5), .val (.int ka), .val (.int kb), .val (.int c0), .val (.int c1), .val (.int la), .val (.int la), .unset, .unset, .unset, .unset, .unset, .unset, .unset, .unset, .unset, .unset, .unset] [(.int ((((p1.toUInt32 >>> ((22 : Int32) &&& 31).toUInt32).toInt32) &&& (255 : Int32)).toUInt32.toUInt16.toUInt32.toInt32))])) _
        exact q
      ·
        refine ⟨c0, by rw [if_neg hm119], fun t q => k118 t (?_)⟩
        refine XS.ifNo X10.here hx rfl (hb hby at_88) rfl ((if0 _ _).trans (feq hm119).1) ?_
        show Steps p.tables e below (T10.setTop (mkF m 91 #[.val (.int p0), .val (.int p1), .val (.int p2), .val (.int p3), .val (.int p4), .val (.int p5), .val (.int ka), .val (.int kb), .val (.int c0), .val (.int c1), .val (.int la), .val (.int la), .unset, .unset, .unset, .unset, .unset, .unset, .unset, .unset, .unset, .unset, .unset] [])) _
        refine XS.iload X10.here hx rfl (hb hby at_91) rfl ?_
        show Steps p.tables e below (T10.setTop (mkF m 93 #[.val (.int p0), .val (.int p1), .val (.int p2), .val (.int p3), .val (.int p4), .val (.int p5), .val (.int ka), .val (.int kb), .val (.int c0), .val (.int c1), .val (.int la), .val (.int la), .unset, .unset, .unset, .unset, .unset, .unset, .unset, .unset, .unset, .unset, .unset] [(.int c0)])) _
        refine XS.goto X10.here hx rfl (pc0 := 93) (pc' := 105) rfl (hb hby at_93) (by decide) (by decide) ?_
        show Steps p.tables e below (T10.setTop (mkF m 105 #[.val (.int p0), .val (.int p1), .val (.int p2), .val (.int p3), .val (.int p4), .val (.int p5), .val (.int ka), .val (.int kb), .val (.int c0), .val (.int c1), .val (.int la), .val (.int la), .unset, .unset, .unset, .unset, .unset, .unset, .unset, .unset, .unset, .unset, .unset] [(.int c0)])) _
        exact q
    have r_b0 : 0 ≤ b0.toInt ∧ b0.toInt < 256 := by rw [hb0]; exact own_if (own_r8 _) r_c0
    have k121 : own_To p e below T10 (mkF m 112 #[.val (.int p0), .val (.int p1), .val (.int p2), .val (.int p3), .val (.int p4), .val (.int p5), .val (.int ka), .val (.int kb), .val (.int c0), .val (.int c1), .val (.int la), .val (.int la), .val (.int b0), .unset, .unset, .unset, .unset, .unset, .unset, .unset, .unset, .unset, .unset] [(.int (((p0.toUInt32 >>> ((5 : Int32) &&& 31).toUInt32).toInt32) &&& (1 : Int32)))]) s₁ (mkF m 0 #[.val (.int p0), .val (.int p1), .val (.int p2), .val (.int p3), .val (.int p4), .val (.int p5), .unset, .unset, .unset, .unset, .unset, .unset, .unset, .unset, .unset, .unset, .unset, .unset, .unset, .unset, .unset, .unset, .unset] []) := fun t q => k120 t (by
      refine XS.istore X10.here hx rfl (hb hby at_105) rfl (l' := #[.val (.int p0), .val (.int p1), .val (.int p2), .val (.int p3), .val (.int p4), .val (.int p5), .val (.int ka), .val (.int kb), .val (.int c0), .val (.int c1), .val (.int la), .val (.int la), .val (.int b0), .unset, .unset, .unset, .unset, .unset, .unset, .unset, .unset, .unset, .unset]) rfl ?_
      show Steps p.tables e below (T10.setTop (mkF m 107 #[.val (.int p0), .val (.int p1), .val (.int p2), .val (.int p3), .val (.int p4), .val (.int p5), .val (.int ka), .val (.int kb), .val (.int c0), .val (.int c1), .val (.int la), .val (.int la), .val (.int b0), .unset, .unset, .unset, .unset, .unset, .unset, .unset, .unset, .unset, .unset] [])) _
      refine XS.iloadN X10.here hx rfl (hb hby at_107) rfl ?_
      show Steps p.tables e below (T10.setTop (mkF m 108 #[.val (.int p0), .val (.int p1), .val (.int p2), .val (.int p3), .val (.int p4), .val (.int p5), .val (.int ka), .val (.int kb), .val (.int c0), .val (.int c1), .val (.int la), .val (.int la), .val (.int b0), .unset, .unset, .unset, .unset, .unset, .unset, .unset, .unset, .unset, .unset] [(.int p0)])) _
      refine XS.iconst X10.here hx rfl (hb hby at_108) ?_
      show Steps p.tables e below (T10.setTop (mkF m 109 #[.val (.int p0), .val (.int p1), .val (.int p2), .val (.int p3), .val (.int p4), .val (.int p5), .val (.int ka), .val (.int kb), .val (.int c0), .val (.int c1), .val (.int la), .val (.int la), .val (.int b0), .unset, .unset, .unset, .unset, .unset, .unset, .unset, .unset, .unset, .unset] [(.int (5 : Int32)), (.int p0)])) _
      refine XS.iushr X10.here hx rfl (hb hby at_109) rfl ?_
      show Steps p.tables e below (T10.setTop (mkF m 110 #[.val (.int p0), .val (.int p1), .val (.int p2), .val (.int p3), .val (.int p4), .val (.int p5), .val (.int ka), .val (.int kb), .val (.int c0), .val (.int c1), .val (.int la), .val (.int la), .val (.int b0), .unset, .unset, .unset, .unset, .unset, .unset, .unset, .unset, .unset, .unset] [(.int ((p0.toUInt32 >>> ((5 : Int32) &&& 31).toUInt32).toInt32))])) _
      refine XS.iconst X10.here hx rfl (hb hby at_110) ?_
      show Steps p.tables e below (T10.setTop (mkF m 111 #[.val (.int p0), .val (.int p1), .val (.int p2), .val (.int p3), .val (.int p4), .val (.int p5), .val (.int ka), .val (.int kb), .val (.int c0), .val (.int c1), .val (.int la), .val (.int la), .val (.int b0), .unset, .unset, .unset, .unset, .unset, .unset, .unset, .unset, .unset, .unset] [(.int (1 : Int32)), (.int ((p0.toUInt32 >>> ((5 : Int32) &&& 31).toUInt32).toInt32))])) _
      refine XS.iand X10.here hx rfl (hb hby at_111) rfl ?_
      show Steps p.tables e below (T10.setTop (mkF m 112 #[.val (.int p0), .val (.int p1), .val (.int p2), .val (.int p3), .val (.int p4), .val (.int p5), .val (.int ka), .val (.int kb), .val (.int c0), .val (.int c1), .val (.int la), .val (.int la), .val (.int b0), .unset, .unset, .unset, .unset, .unset, .unset, .unset, .unset, .unset, .unset] [(.int (((p0.toUInt32 >>> ((5 : Int32) &&& 31).toUInt32).toInt32) &&& (1 : Int32)))])) _
      exact q)
    obtain ⟨b1, hb1, k123⟩ : ∃ (b1 : Int32), (b1 = (if (((p0.toUInt32 >>> ((5 : Int32) &&& 31).toUInt32).toInt32) &&& (1 : Int32)) = (0 : Int32) then ((((p0.toUInt32 >>> ((6 : Int32) &&& 31).toUInt32).toInt32) &&& (255 : Int32)).toUInt32.toUInt16.toUInt32.toInt32) else c1)) ∧ own_To p e below T10 (mkF m 129 #[.val (.int p0), .val (.int p1), .val (.int p2), .val (.int p3), .val (.int p4), .val (.int p5), .val (.int ka), .val (.int kb), .val (.int c0), .val (.int c1), .val (.int la), .val (.int la), .val (.int b0), .unset, .unset, .unset, .unset, .unset, .unset, .unset, .unset, .unset, .unset] [(.int b1)]) s₁ (mkF m 0 #[.val (.int p0), .val (.int p1), .val (.int p2), .val (.int p3), .val (.int p4), .val (.int p5), .unset, .unset, .unset, .unset, .unset, .unset, .unset, .unset, .unset, .unset, .unset, .unset, .unset, .unset, .unset, .unset, .unset] []) := by
      by_cases hm122 : (((p0.toUInt32 >>> ((5 : Int32) &&& 31).toUInt32).toInt32) &&& (1 : Int32)) = (0 : Int32)
      ·
        refine ⟨((((p0.toUInt32 >>> ((6 : Int32) &&& 31).toUInt32).toInt32) &&& (255 : Int32)).toUInt32.toUInt16.toUInt32.toInt32), by rw [if_pos hm122], fun t q => k121 t (?_)⟩
        refine XS.ifYes X10.here hx rfl (pc0 := 112) (pc' := 120) rfl (hb hby at_112) rfl ((if0 _ _).trans (teq hm122).1) (by decide) (by decide) ?_
        show Steps p.tables e below (T10.setTop (mkF m 120 #[.val (.int p0), .val (.int p1), .val (.int p2), .val (.int p3), .val (.int p4), .val (.int p5), .val (.int ka), .val (.int kb), .val (.int c0), .val (.int c1), .val (.int la), .val (.int la), .val (.int b0), .unset, .unset, .unset, .unset, .unset, .unset, .unset, .unset, .unset, .unset] [])) _
        refine XS.iloadN X10.here hx rfl (hb hby at_120) rfl ?_
        show Steps p.tables e below (T10.setTop (mkF m 121 #[.val (.int p0), .val (.int p1), .val (.int p2), .val (.int p3), .val (.int p4), .val (.int p5), .val (.int ka), .val (.int kb), .val (.int c0), .val (.int c1), .val (.int la), .val (.int la), .val (.int b0), .unset, .unset, .unset, .unset, .unset, .unset, .unset, .unset, .unset, .unset] [(.int p0)])) _
        refine XS.bipush X10.here hx rfl (hb hby at_121) ?_
        show Steps p.tables e below (T10.setTop (mkF m 123 #[.val (.int p0), .val (.int p1), .val (.int p2), .val (.int p3), .val (.int p4), .val (.int p5), .val (.int ka), .val (.int kb), .val (.int c0), .val (.int c1), .val (.int la), .val (.int la), .val (.int b0), .unset, .unset, .unset, .unset, .unset, .unset, .unset, .unset, .unset, .unset] [(.int (6 : Int32)), (.int p0)])) _
        refine XS.iushr X10.here hx rfl (hb hby at_123) rfl ?_
        show Steps p.tables e below (T10.setTop (mkF m 124 #[.val (.int p0), .val (.int p1), .val (.int p2), .val (.int p3), .val (.int p4), .val (.int p5), .val (.int ka), .val (.int kb), .val (.int c0), .val (.int c1), .val (.int la), .val (.int la), .val (.int b0), .unset, .unset, .unset, .unset, .unset, .unset, .unset, .unset, .unset, .unset] [(.int ((p0.toUInt32 >>> ((6 : Int32) &&& 31).toUInt32).toInt32))])) _
        refine XS.sipush X10.here hx rfl (hb hby at_124) ?_
        show Steps p.tables e below (T10.setTop (mkF m 127 #[.val (.int p0), .val (.int p1), .val (.int p2), .val (.int p3), .val (.int p4), .val (.int p5), .val (.int ka), .val (.int kb), .val (.int c0), .val (.int c1), .val (.int la), .val (.int la), .val (.int b0), .unset, .unset, .unset, .unset, .unset, .unset, .unset, .unset, .unset, .unset] [(.int (255 : Int32)), (.int ((p0.toUInt32 >>> ((6 : Int32) &&& 31).toUInt32).toInt32))])) _
        refine XS.iand X10.here hx rfl (hb hby at_127) rfl ?_
        show Steps p.tables e below (T10.setTop (mkF m 128 #[.val (.int p0), .val (.int p1), .val (.int p2), .val (.int p3), .val (.int p4), .val (.int p5), .val (.int ka), .val (.int kb), .val (.int c0), .val (.int c1), .val (.int la), .val (.int la), .val (.int b0), .unset, .unset, .unset, .unset, .unset, .unset, .unset, .unset, .unset, .unset] [(.int (((p0.toUInt32 >>> ((6 : Int32) &&& 31).toUInt32).toInt32) &&& (255 : Int32)))])) _
        refine XS.i2c X10.here hx rfl (hb hby at_128) rfl ?_
        show Steps p.tables e below (T10.setTop (mkF m 129 #[.val (.int p0), .val (.int p1), .val (.int p2), .val (.int p3), .val (.int p4), .val (.int p5), .val (.int ka), .val (.int kb), .val (.int c0), .val (.int c1), .val (.int la), .val (.int la), .val (.int b0), .unset, .unset, .unset, .unset, .unset, .unset, .unset, .unset, .unset, .unset] [(.int ((((p0.toUInt32 >>> ((6 : Int32) &&& 31).toUInt32).toInt32) &&& (255 : Int32)).toUInt32.toUInt16.toUInt32.toInt32))])) _
        exact q
      ·
        refine ⟨c1, by rw [if_neg hm122], fun t q => k121 t (?_)⟩
        refine XS.ifNo X10.here hx rfl (hb hby at_112) rfl ((if0 _ _).trans (feq hm122).1) ?_
        show Steps p.tables e below (T10.setTop (mkF m 115 #[.val (.int p0), .val (.int p1), .val (.int p2), .val (.int p3), .val (.int p4), .val (.int p5), .val (.int ka), .val (.int kb), .val (.int c0), .val (.int c1), .val (.int la), .val (.int la), .val (.int b0), .unset, .unset, .unset, .unset, .unset, .unset, .unset, .unset, .unset, .unset] [])) _
        refine XS.iload X10.here hx rfl (hb hby at_115) rfl ?_
        show Steps p.tables e below (T10.setTop (mkF m 117 #[.val (.int p0), .val (.int p1), .val (.int p2), .val (.int p3), .val (.int p4), .val (.int p5), .val (.int ka), .val (.int kb), .val (.int c0), .val (.int c1), .val (.int la), .val (.int la), .val (.int b0), .unset, .unset, .unset, .unset, .unset, .unset, .unset, .unset, .unset, .unset] [(.int c1)])) _
        refine XS.goto X10.here hx rfl (pc0 := 117) (pc' := 129) rfl (hb hby at_117) (by decide) (by decide) ?_
        show Steps p.tables e below (T10.setTop (mkF m 129 #[.val (.int p0), .val (.int p1), .val (.int p2), .val (.int p3), .val (.int p4), .val (.int p5), .val (.int ka), .val (.int kb), .val (.int c0), .val (.int c1), .val (.int la), .val (.int la), .val (.int b0), .unset, .unset, .unset, .unset, .unset, .unset, .unset, .unset, .unset, .unset] [(.int c1)])) _
        exact q
    have r_b1 : 0 ≤ b1.toInt ∧ b1.toInt < 256 := by rw [hb1]; exact own_if (own_r8 _) r_c1
    have k124 : own_To p e below T10 (mkF m 135 #[.val (.int p0), .val (.int p1), .val (.int p2), .val (.int p3), .val (.int p4), .val (.int p5), .val (.int ka), .val (.int kb), .val (.int c0), .val (.int c1), .val (.int la), .val (.int la), .val (.int b0), .val (.int b1), .unset, .unset, .unset, .unset, .unset, .unset, .unset, .unset, .unset] [(.int (p4 &&& (1 : Int32)))]) s₁ (mkF m 0 #[.val (.int p0), .val (.int p1), .val (.int p2), .val (.int p3), .val (.int p4), .val (.int p5), .unset, .unset, .unset, .unset, .unset, .unset, .unset, .unset, .unset, .unset, .unset, .unset, .unset, .unset, .unset, .unset, .unset] []) := fun t q => k123 t (by
      refine XS.istore X10.here hx rfl (hb hby at_129) rfl (l' := #[.val (.int p0), .val (.int p1), .val (.int p2), .val (.int p3), .val (.int p4), .val (.int p5), .val (.int ka), .val (.int kb), .val (.int c0), .val (.int c1), .val (.int la), .val (.int la), .val (.int b0), .val (.int b1), .unset, .unset, .unset, .unset, .unset, .unset, .unset, .unset, .unset]) rfl ?_
      show Steps p.tables e below (T10.setTop (mkF m 131 #[.val (.int p0), .val (.int p1), .val (.int p2), .val (.int p3), .val (.int p4), .val (.int p5), .val (.int ka), .val (.int kb), .val (.int c0), .val (.int c1), .val (.int la), .val (.int la), .val (.int b0), .val (.int b1), .unset, .unset, .unset, .unset, .unset, .unset, .unset, .unset, .unset] [])) _
      refine XS.iload X10.here hx rfl (hb hby at_131) rfl ?_
      show Steps p.tables e below (T10.setTop (mkF m 133 #[.val (.int p0), .val (.int p1), .val (.int p2), .val (.int p3), .val (.int p4), .val (.int p5), .val (.int ka), .val (.int kb), .val (.int c0), .val (.int c1), .val (.int la), .val (.int la), .val (.int b0), .val (.int b1), .unset, .unset, .unset, .unset, .unset, .unset, .unset, .unset, .unset] [(.int p4)])) _
      refine XS.iconst X10.here hx rfl (hb hby at_133) ?_
      show Steps p.tables e below (T10.setTop (mkF m 134 #[.val (.int p0), .val (.int p1), .val (.int p2), .val (.int p3), .val (.int p4), .val (.int p5), .val (.int ka), .val (.int kb), .val (.int c0), .val (.int c1), .val (.int la), .val (.int la), .val (.int b0), .val (.int b1), .unset, .unset, .unset, .unset, .unset, .unset, .unset, .unset, .unset] [(.int (1 : Int32)), (.int p4)])) _
      refine XS.iand X10.here hx rfl (hb hby at_134) rfl ?_
      show Steps p.tables e below (T10.setTop (mkF m 135 #[.val (.int p0), .val (.int p1), .val (.int p2), .val (.int p3), .val (.int p4), .val (.int p5), .val (.int ka), .val (.int kb), .val (.int c0), .val (.int c1), .val (.int la), .val (.int la), .val (.int b0), .val (.int b1), .unset, .unset, .unset, .unset, .unset, .unset, .unset, .unset, .unset] [(.int (p4 &&& (1 : Int32)))])) _
      exact q)
    obtain ⟨lineB, hlineB, k126⟩ : ∃ (lineB : Int32), (lineB = (if (p4 &&& (1 : Int32)) = (0 : Int32) then p4 else p2)) ∧ own_To p e below T10 (mkF m 144 #[.val (.int p0), .val (.int p1), .val (.int p2), .val (.int p3), .val (.int p4), .val (.int p5), .val (.int ka), .val (.int kb), .val (.int c0), .val (.int c1), .val (.int la), .val (.int la), .val (.int b0), .val (.int b1), .unset, .unset, .unset, .unset, .unset, .unset, .unset, .unset, .unset] [(.int lineB)]) s₁ (mkF m 0 #[.val (.int p0), .val (.int p1), .val (.int p2), .val (.int p3), .val (.int p4), .val (.int p5), .unset, .unset, .unset, .unset, .unset, .unset, .unset, .unset, .unset, .unset, .unset, .unset, .unset, .unset, .unset, .unset, .unset] []) := by
      by_cases hm125 : (p4 &&& (1 : Int32)) = (0 : Int32)
      ·
        refine ⟨p4, by rw [if_pos hm125], fun t q => k124 t (?_)⟩
        refine XS.ifYes X10.here hx rfl (pc0 := 135) (pc' := 142) rfl (hb hby at_135) rfl ((if0 _ _).trans (teq hm125).1) (by decide) (by decide) ?_
        show Steps p.tables e below (T10.setTop (mkF m 142 #[.val (.int p0), .val (.int p1), .val (.int p2), .val (.int p3), .val (.int p4), .val (.int p5), .val (.int ka), .val (.int kb), .val (.int c0), .val (.int c1), .val (.int la), .val (.int la), .val (.int b0), .val (.int b1), .unset, .unset, .unset, .unset, .unset, .unset, .unset, .unset, .unset] [])) _
        refine XS.iload X10.here hx rfl (hb hby at_142) rfl ?_
        show Steps p.tables e below (T10.setTop (mkF m 144 #[.val (.int p0), .val (.int p1), .val (.int p2), .val (.int p3), .val (.int p4), .val (.int p5), .val (.int ka), .val (.int kb), .val (.int c0), .val (.int c1), .val (.int la), .val (.int la), .val (.int b0), .val (.int b1), .unset, .unset, .unset, .unset, .unset, .unset, .unset, .unset, .unset] [(.int p4)])) _
        exact q
      ·
        refine ⟨p2, by rw [if_neg hm125], fun t q => k124 t (?_)⟩
        refine XS.ifNo X10.here hx rfl (hb hby at_135) rfl ((if0 _ _).trans (feq hm125).1) ?_
        show Steps p.tables e below (T10.setTop (mkF m 138 #[.val (.int p0), .val (.int p1), .val (.int p2), .val (.int p3), .val (.int p4), .val (.int p5), .val (.int ka), .val (.int kb), .val (.int c0), .val (.int c1), .val (.int la), .val (.int la), .val (.int b0), .val (.int b1), .unset, .unset, .unset, .unset, .unset, .unset, .unset, .unset, .unset] [])) _
        refine XS.iloadN X10.here hx rfl (hb hby at_138) rfl ?_
        show Steps p.tables e below (T10.setTop (mkF m 139 #[.val (.int p0), .val (.int p1), .val (.int p2), .val (.int p3), .val (.int p4), .val (.int p5), .val (.int ka), .val (.int kb), .val (.int c0), .val (.int c1), .val (.int la), .val (.int la), .val (.int b0), .val (.int b1), .unset, .unset, .unset, .unset, .unset, .unset, .unset, .unset, .unset] [(.int p2)])) _
        refine XS.goto X10.here hx rfl (pc0 := 139) (pc' := 144) rfl (hb hby at_139) (by decide) (by decide) ?_
        show Steps p.tables e below (T10.setTop (mkF m 144 #[.val (.int p0), .val (.int p1), .val (.int p2), .val (.int p3), .val (.int p4), .val (.int p5), .val (.int ka), .val (.int kb), .val (.int c0), .val (.int c1), .val (.int la), .val (.int la), .val (.int b0), .val (.int b1), .unset, .unset, .unset, .unset, .unset, .unset, .unset, .unset, .unset] [(.int p2)])) _
        exact q
    have k127 : own_To p e below T10 (mkF m 150 #[.val (.int p0), .val (.int p1), .val (.int p2), .val (.int p3), .val (.int p4), .val (.int p5), .val (.int ka), .val (.int kb), .val (.int c0), .val (.int c1), .val (.int la), .val (.int la), .val (.int b0), .val (.int b1), .val (.int lineB), .unset, .unset, .unset, .unset, .unset, .unset, .unset, .unset] [(.int (p5 &&& (1 : Int32)))]) s₁ (mkF m 0 #[.val (.int p0), .val (.int p1), .val (.int p2), .val (.int p3), .val (.int p4), .val (.int p5), .unset, .unset, .unset, .unset, .unset, .unset, .unset, .unset, .unset, .unset, .unset, .unset, .unset, .unset, .unset, .unset, .unset] []) := fun t q => k126 t (by
      refine XS.istore X10.here hx rfl (hb hby at_144) rfl (l' := #[.val (.int p0), .val (.int p1), .val (.int p2), .val (.int p3), .val (.int p4), .val (.int p5), .val (.int ka), .val (.int kb), .val (.int c0), .val (.int c1), .val (.int la), .val (.int la), .val (.int b0), .val (.int b1), .val (.int lineB), .unset, .unset, .unset, .unset, .unset, .unset, .unset, .unset]) rfl ?_
      show Steps p.tables e below (T10.setTop (mkF m 146 #[.val (.int p0), .val (.int p1), .val (.int p2), .val (.int p3), .val (.int p4), .val (.int p5), .val (.int ka), .val (.int kb), .val (.int c0), .val (.int c1), .val (.int la), .val (.int la), .val (.int b0), .val (.int b1), .val (.int lineB), .unset, .unset, .unset, .unset, .unset, .unset, .unset, .unset] [])) _
      refine XS.iload X10.here hx rfl (hb hby at_146) rfl ?_
      show Steps p.tables e below (T10.setTop (mkF m 148 #[.val (.int p0), .val (.int p1), .val (.int p2), .val (.int p3), .val (.int p4), .val (.int p5), .val (.int ka), .val (.int kb), .val (.int c0), .val (.int c1), .val (.int la), .val (.int la), .val (.int b0), .val (.int b1), .val (.int lineB), .unset, .unset, .unset, .unset, .unset, .unset, .unset, .unset] [(.int p5)])) _
      refine XS.iconst X10.here hx rfl (hb hby at_148) ?_
      show Steps p.tables e below (T10.setTop (mkF m 149 #[.val (.int p0), .val (.int p1), .val (.int p2), .val (.int p3), .val (.int p4), .val (.int p5), .val (.int ka), .val (.int kb), .val (.int c0), .val (.int c1), .val (.int la), .val (.int la), .val (.int b0), .val (.int b1), .val (.int lineB), .unset, .unset, .unset, .unset, .unset, .unset, .unset, .unset] [(.int (1 : Int32)), (.int p5)])) _
      refine XS.iand X10.here hx rfl (hb hby at_149) rfl ?_
      show Steps p.tables e below (T10.setTop (mkF m 150 #[.val (.int p0), .val (.int p1), .val (.int p2), .val (.int p3), .val (.int p4), .val (.int p5), .val (.int ka), .val (.int kb), .val (.int c0), .val (.int c1), .val (.int la), .val (.int la), .val (.int b0), .val (.int b1), .val (.int lineB), .unset, .unset, .unset, .unset, .unset, .unset, .unset, .unset] [(.int (p5 &&& (1 : Int32)))])) _
      exact q)
    obtain ⟨colB, hcolB, k129⟩ : ∃ (colB : Int32), (colB = (if (p5 &&& (1 : Int32)) = (0 : Int32) then p5 else p3)) ∧ own_To p e below T10 (mkF m 159 #[.val (.int p0), .val (.int p1), .val (.int p2), .val (.int p3), .val (.int p4), .val (.int p5), .val (.int ka), .val (.int kb), .val (.int c0), .val (.int c1), .val (.int la), .val (.int la), .val (.int b0), .val (.int b1), .val (.int lineB), .unset, .unset, .unset, .unset, .unset, .unset, .unset, .unset] [(.int colB)]) s₁ (mkF m 0 #[.val (.int p0), .val (.int p1), .val (.int p2), .val (.int p3), .val (.int p4), .val (.int p5), .unset, .unset, .unset, .unset, .unset, .unset, .unset, .unset, .unset, .unset, .unset, .unset, .unset, .unset, .unset, .unset, .unset] []) := by
      by_cases hm128 : (p5 &&& (1 : Int32)) = (0 : Int32)
      ·
        refine ⟨p5, by rw [if_pos hm128], fun t q => k127 t (?_)⟩
        refine XS.ifYes X10.here hx rfl (pc0 := 150) (pc' := 157) rfl (hb hby at_150) rfl ((if0 _ _).trans (teq hm128).1) (by decide) (by decide) ?_
        show Steps p.tables e below (T10.setTop (mkF m 157 #[.val (.int p0), .val (.int p1), .val (.int p2), .val (.int p3), .val (.int p4), .val (.int p5), .val (.int ka), .val (.int kb), .val (.int c0), .val (.int c1), .val (.int la), .val (.int la), .val (.int b0), .val (.int b1), .val (.int lineB), .unset, .unset, .unset, .unset, .unset, .unset, .unset, .unset] [])) _
        refine XS.iload X10.here hx rfl (hb hby at_157) rfl ?_
        show Steps p.tables e below (T10.setTop (mkF m 159 #[.val (.int p0), .val (.int p1), .val (.int p2), .val (.int p3), .val (.int p4), .val (.int p5), .val (.int ka), .val (.int kb), .val (.int c0), .val (.int c1), .val (.int la), .val (.int la), .val (.int b0), .val (.int b1), .val (.int lineB), .unset, .unset, .unset, .unset, .unset, .unset, .unset, .unset] [(.int p5)])) _
        exact q
      ·
        refine ⟨p3, by rw [if_neg hm128], fun t q => k127 t (?_)⟩
        refine XS.ifNo X10.here hx rfl (hb hby at_150) rfl ((if0 _ _).trans (feq hm128).1) ?_
        show Steps p.tables e below (T10.setTop (mkF m 153 #[.val (.int p0), .val (.int p1), .val (.int p2), .val (.int p3), .val (.int p4), .val (.int p5), .val (.int ka), .val (.int kb), .val (.int c0), .val (.int c1), .val (.int la), .val (.int la), .val (.int b0), .val (.int b1), .val (.int lineB), .unset, .unset, .unset, .unset, .unset, .unset, .unset, .unset] [])) _
        refine XS.iloadN X10.here hx rfl (hb hby at_153) rfl ?_
        show Steps p.tables e below (T10.setTop (mkF m 154 #[.val (.int p0), .val (.int p1), .val (.int p2), .val (.int p3), .val (.int p4), .val (.int p5), .val (.int ka), .val (.int kb), .val (.int c0), .val (.int c1), .val (.int la), .val (.int la), .val (.int b0), .val (.int b1), .val (.int lineB), .unset, .unset, .unset, .unset, .unset, .unset, .unset, .unset] [(.int p3)])) _
        refine XS.goto X10.here hx rfl (pc0 := 154) (pc' := 159) rfl (hb hby at_154) (by decide) (by decide) ?_
        show Steps p.tables e below (T10.setTop (mkF m 159 #[.val (.int p0), .val (.int p1), .val (.int p2), .val (.int p3), .val (.int p4), .val (.int p5), .val (.int ka), .val (.int kb), .val (.int c0), .val (.int c1), .val (.int la), .val (.int la), .val (.int b0), .val (.int b1), .val (.int lineB), .unset, .unset, .unset, .unset, .unset, .unset, .unset, .unset] [(.int p3)])) _
        exact q
    have k130 : own_To p e below T10 (mkF m 167 #[.val (.int p0), .val (.int p1), .val (.int p2), .val (.int p3), .val (.int p4), .val (.int p5), .val (.int ka), .val (.int kb), .val (.int c0), .val (.int c1), .val (.int la), .val (.int la), .val (.int b0), .val (.int b1), .val (.int lineB), .val (.int colB), .unset, .unset, .unset, .unset, .unset, .unset, .unset] [(.int c1), (.int c0), (.int la)]) s₁ (mkF m 0 #[.val (.int p0), .val (.int p1), .val (.int p2), .val (.int p3), .val (.int p4), .val (.int p5), .unset, .unset, .unset, .unset, .unset, .unset, .unset, .unset, .unset, .unset, .unset, .unset, .unset, .unset, .unset, .unset, .unset] []) := fun t q => k129 t (by
      refine XS.istore X10.here hx rfl (hb hby at_159) rfl (l' := #[.val (.int p0), .val (.int p1), .val (.int p2), .val (.int p3), .val (.int p4), .val (.int p5), .val (.int ka), .val (.int kb), .val (.int c0), .val (.int c1), .val (.int la), .val (.int la), .val (.int b0), .val (.int b1), .val (.int lineB), .val (.int colB), .unset, .unset, .unset, .unset, .unset, .unset, .unset]) rfl ?_
      show Steps p.tables e below (T10.setTop (mkF m 161 #[.val (.int p0), .val (.int p1), .val (.int p2), .val (.int p3), .val (.int p4), .val (.int p5), .val (.int ka), .val (.int kb), .val (.int c0), .val (.int c1), .val (.int la), .val (.int la), .val (.int b0), .val (.int b1), .val (.int lineB), .val (.int colB), .unset, .unset, .unset, .unset, .unset, .unset, .unset] [])) _
      refine XS.iload X10.here hx rfl (hb hby at_161) rfl ?_
      show Steps p.tables e below (T10.setTop (mkF m 163 #[.val (.int p0), .val (.int p1), .val (.int p2), .val (.int p3), .val (.int p4), .val (.int p5), .val (.int ka), .val (.int kb), .val (.int c0), .val (.int c1), .val (.int la), .val (.int la), .val (.int b0), .val (.int b1), .val (.int lineB), .val (.int colB), .unset, .unset, .unset, .unset, .unset, .unset, .unset] [(.int la)])) _
      refine XS.iload X10.here hx rfl (hb hby at_163) rfl ?_
      show Steps p.tables e below (T10.setTop (mkF m 165 #[.val (.int p0), .val (.int p1), .val (.int p2), .val (.int p3), .val (.int p4), .val (.int p5), .val (.int ka), .val (.int kb), .val (.int c0), .val (.int c1), .val (.int la), .val (.int la), .val (.int b0), .val (.int b1), .val (.int lineB), .val (.int colB), .unset, .unset, .unset, .unset, .unset, .unset, .unset] [(.int c0), (.int la)])) _
      refine XS.iload X10.here hx rfl (hb hby at_165) rfl ?_
      show Steps p.tables e below (T10.setTop (mkF m 167 #[.val (.int p0), .val (.int p1), .val (.int p2), .val (.int p3), .val (.int p4), .val (.int p5), .val (.int ka), .val (.int kb), .val (.int c0), .val (.int c1), .val (.int la), .val (.int la), .val (.int b0), .val (.int b1), .val (.int lineB), .val (.int colB), .unset, .unset, .unset, .unset, .unset, .unset, .unset] [(.int c1), (.int c0), (.int la)])) _
      exact q)
    obtain ⟨_, _, ⟨T131, L131, kk131, n131⟩, -, X131, hSs131, hgr131, ⟨Lc131, hQ131, l131, y131, z131, hC131⟩, st131⟩ := callSS X10 hx (y := (⟨"com/example/vetted_traces/vettedtraces/language/TokenEqualsPinLaw", "str", "(ICC)Ljava/lang/String;"⟩ : MethodName)) hown (mvT hZ (hw _ (List.mem_of_getElem? (i := 4) rfl))) (mvT hZ (hw _ (List.mem_of_getElem? (i := 5) rfl))) (mvT hZ (hw _ (List.mem_of_getElem? (i := 6) rfl))) (mvT hZ (hw _ (List.mem_of_getElem? (i := 7) rfl))) (by decide) (backOfSH (s := s) (vm0 := s.vm) (W := 0) (rm2 l Z a0 hw [] la c0 c1 cs h0 n0 Z0 SC hcs O0 (own_hp _ r_c0) (own_hp _ r_c1) hEL) hZ (hw _ (List.mem_of_getElem? (i := 7) rfl)) (hw _ (List.mem_of_getElem? (i := 6) rfl)) (by decide) (by decide) hEL hCH) (g := (mkF m 167 #[.val (.int p0), .val (.int p1), .val (.int p2), .val (.int p3), .val (.int p4), .val (.int p5), .val (.int ka), .val (.int kb), .val (.int c0), .val (.int c1), .val (.int la), .val (.int la), .val (.int b0), .val (.int b1), .val (.int lineB), .val (.int colB), .unset, .unset, .unset, .unset, .unset, .unset, .unset] [(.int c1), (.int c0), (.int la)])) rfl (by rw [hml]; rfl) (argsL := [(.int la), (.int c0), (.int c1)]) (rest := []) (lenOf own_pd2 rfl) rfl (by show 2 * 0 + _ ≤ _; exact Nat.le_of_eq rfl) (hb hby at_167) (fun _ _ => ⟨rfl, e10, (by decide : 0 + 6 ≤ _), (by decide : 0 + 12 ≤ _)⟩)
    dsimp only [Pt.U, Pt.locs, Pt.cells, Pt.slots] at X131 l131 y131 z131 st131 hQ131 hSs131 hgr131 hC131
    subst l131 y131 z131
    have X131 := own_again X131
    have hSn131 := foldS (State.WarmedH.since (State.WarmedH.refl s) 0) (by rw [e10]; exact (Nat.zero_le _)) hSs131 hgr131
    have hZn131 : Z.Warmed39 (s.setVm T131.vm).vm := State.Warmed39.trans (t := s.setVm s.vm) hZ hSs131.1
    have hon131 : (s.setVm T131.vm).vm.findClass "com/example/vetted_traces/vettedtraces/language/TokenEqualsPinLaw" = some m.cls := by rw [show (s.setVm T131.vm).vm = T131.vm from rfl, hSs131.1.alike.findClass]; exact hown
    have hZ := hZn131
    have hown := hon131
    have CRl131 := CR0.trans hC131
    have CHl131 := CRl131.1
    obtain ⟨r131, rb131, kb131, rfl, N131q, K131, Ex131, Fc131, Fv131, V131⟩ := hQ131
    have N131 := Fr.app N10 N131q
    have k132 : own_To p e below T131 (mkF m 178 #[.val (.int p0), .val (.int p1), .val (.int p2), .val (.int p3), .val (.int p4), .val (.int p5), .val (.int ka), .val (.int kb), .val (.int c0), .val (.int c1), .val (.int la), .val (.int la), .val (.int b0), .val (.int b1), .val (.int lineB), .val (.int colB), .val (.ref r131), .unset, .unset, .unset, .unset, .unset, .unset] [(.int b1), (.int b0), (.int la)]) s₁ (mkF m 0 #[.val (.int p0), .val (.int p1), .val (.int p2), .val (.int p3), .val (.int p4), .val (.int p5), .unset, .unset, .unset, .unset, .unset, .unset, .unset, .unset, .unset, .unset, .unset, .unset, .unset, .unset, .unset, .unset, .unset] []) := fun t q => k130 t (by
      refine st131.trans ?_
      show Steps p.tables e below (T131.setTop (mkF m 170 #[.val (.int p0), .val (.int p1), .val (.int p2), .val (.int p3), .val (.int p4), .val (.int p5), .val (.int ka), .val (.int kb), .val (.int c0), .val (.int c1), .val (.int la), .val (.int la), .val (.int b0), .val (.int b1), .val (.int lineB), .val (.int colB), .unset, .unset, .unset, .unset, .unset, .unset, .unset] [(.ref r131)])) _
      refine XS.astore X131.here hx rfl (hb hby at_170) rfl rfl (l' := #[.val (.int p0), .val (.int p1), .val (.int p2), .val (.int p3), .val (.int p4), .val (.int p5), .val (.int ka), .val (.int kb), .val (.int c0), .val (.int c1), .val (.int la), .val (.int la), .val (.int b0), .val (.int b1), .val (.int lineB), .val (.int colB), .val (.ref r131), .unset, .unset, .unset, .unset, .unset, .unset]) rfl ?_
      show Steps p.tables e below (T131.setTop (mkF m 172 #[.val (.int p0), .val (.int p1), .val (.int p2), .val (.int p3), .val (.int p4), .val (.int p5), .val (.int ka), .val (.int kb), .val (.int c0), .val (.int c1), .val (.int la), .val (.int la), .val (.int b0), .val (.int b1), .val (.int lineB), .val (.int colB), .val (.ref r131), .unset, .unset, .unset, .unset, .unset, .unset] [])) _
      refine XS.iload X131.here hx rfl (hb hby at_172) rfl ?_
      show Steps p.tables e below (T131.setTop (mkF m 174 #[.val (.int p0), .val (.int p1), .val (.int p2), .val (.int p3), .val (.int p4), .val (.int p5), .val (.int ka), .val (.int kb), .val (.int c0), .val (.int c1), .val (.int la), .val (.int la), .val (.int b0), .val (.int b1), .val (.int lineB), .val (.int colB), .val (.ref r131), .unset, .unset, .unset, .unset, .unset, .unset] [(.int la)])) _
      refine XS.iload X131.here hx rfl (hb hby at_174) rfl ?_
      show Steps p.tables e below (T131.setTop (mkF m 176 #[.val (.int p0), .val (.int p1), .val (.int p2), .val (.int p3), .val (.int p4), .val (.int p5), .val (.int ka), .val (.int kb), .val (.int c0), .val (.int c1), .val (.int la), .val (.int la), .val (.int b0), .val (.int b1), .val (.int lineB), .val (.int colB), .val (.ref r131), .unset, .unset, .unset, .unset, .unset, .unset] [(.int b0), (.int la)])) _
      refine XS.iload X131.here hx rfl (hb hby at_176) rfl ?_
      show Steps p.tables e below (T131.setTop (mkF m 178 #[.val (.int p0), .val (.int p1), .val (.int p2), .val (.int p3), .val (.int p4), .val (.int p5), .val (.int ka), .val (.int kb), .val (.int c0), .val (.int c1), .val (.int la), .val (.int la), .val (.int b0), .val (.int b1), .val (.int lineB), .val (.int colB), .val (.ref r131), .unset, .unset, .unset, .unset, .unset, .unset] [(.int b1), (.int b0), (.int la)])) _
      exact q)
    have K134 : Keep h0 T131.heap [] := ((Keep.refl h0 []).trans K131 all0)
    have O135 : Old Z n0 T131.heap := (O0.keep K131 all0)
    obtain ⟨_, _, ⟨T133, L133, kk133, n133⟩, -, X133, hSs133, hgr133, ⟨Lc133, hQ133, l133, y133, z133, hC133⟩, st133⟩ := callSS X131 hx (y := (⟨"com/example/vetted_traces/vettedtraces/language/TokenEqualsPinLaw", "str", "(ICC)Ljava/lang/String;"⟩ : MethodName)) hown (mvT hZ (hw _ (List.mem_of_getElem? (i := 4) rfl))) (mvT hZ (hw _ (List.mem_of_getElem? (i := 5) rfl))) (mvT hZ (hw _ (List.mem_of_getElem? (i := 6) rfl))) (mvT hZ (hw _ (List.mem_of_getElem? (i := 7) rfl))) (by decide) (backOfSH (s := s) (vm0 := T131.vm) (W := 0) (rm2 l Z a0 hw [] la b0 b1 cs T131.heap n0 (Nat.le_trans Z0 K134.1) SC hcs O135 (own_hp _ r_b0) (own_hp _ r_b1) hEL) hZ (hw _ (List.mem_of_getElem? (i := 7) rfl)) (hw _ (List.mem_of_getElem? (i := 6) rfl)) (by decide) (by decide) hEL CHl131) (g := (mkF m 178 #[.val (.int p0), .val (.int p1), .val (.int p2), .val (.int p3), .val (.int p4), .val (.int p5), .val (.int ka), .val (.int kb), .val (.int c0), .val (.int c1), .val (.int la), .val (.int la), .val (.int b0), .val (.int b1), .val (.int lineB), .val (.int colB), .val (.ref r131), .unset, .unset, .unset, .unset, .unset, .unset] [(.int b1), (.int b0), (.int la)])) rfl (by rw [hml]; rfl) (argsL := [(.int la), (.int b0), (.int b1)]) (rest := []) (lenOf own_pd2 rfl) rfl (by show 2 * 0 + _ ≤ _; exact Nat.le_of_eq rfl) (hb hby at_178) (fun _ _ => ⟨rfl, rfl, (by decide : 6 + 6 ≤ _), (by decide : 12 + 12 ≤ _)⟩)
    dsimp only [Pt.U, Pt.locs, Pt.cells, Pt.slots] at X133 l133 y133 z133 st133 hQ133 hSs133 hgr133 hC133
    subst l133 y133 z133
    have X133 := own_again X133
    have hSn133 := foldS hSn131 (by exact (Nat.le_refl _)) hSs133 hgr133
    have hZn133 : Z.Warmed39 (s.setVm T133.vm).vm := State.Warmed39.trans (t := s.setVm T131.vm) hZ hSs133.1
    have hon133 : (s.setVm T133.vm).vm.findClass "com/example/vetted_traces/vettedtraces/language/TokenEqualsPinLaw" = some m.cls := by rw [show (s.setVm T133.vm).vm = T133.vm from rfl, hSs133.1.alike.findClass]; exact hown
    have hZ := hZn133
    have hown := hon133
    have CRl133 := CRl131.trans hC133
    have CHl133 := CRl133.1
    obtain ⟨r133, rb133, kb133, rfl, N133q, K133, Ex133, Fc133, Fv133, V133⟩ := hQ133
    have N133 := Fr.app N131 N133q
    obtain ⟨T136, h136, X136, e136, E136, A136, D136, -, st136⟩ := newO X133 hx hZ hown (hw _ (List.mem_of_getElem? (i := 30) rfl)) (hw _ (List.mem_of_getElem? (i := 31) rfl)) (hw _ (List.mem_of_getElem? (i := 32) rfl)) rfl (g := (mkF m 183 #[.val (.int p0), .val (.int p1), .val (.int p2), .val (.int p3), .val (.int p4), .val (.int p5), .val (.int ka), .val (.int kb), .val (.int c0), .val (.int c1), .val (.int la), .val (.int la), .val (.int b0), .val (.int b1), .val (.int lineB), .val (.int colB), .val (.ref r131), .val (.ref r133), .unset, .unset, .unset, .unset, .unset] [])) rfl (hb hby at_183) (by decide) (by decide)
    obtain ⟨b136, g136⟩ : ∃ z, z = T133.heap.size := ⟨_, rfl⟩
    rw [← g136] at A136 D136 st136
    have Sf136_b136 : Safe Z own_EL T133.vm T133.heap b136 := Safe.new (Nat.le_of_eq g136.symm)
    have K137 : Keep h0 T133.heap [] := (K134.trans K133 all0)
    have ge_b136 : n0 ≤ b136 := Nat.le_trans (Nat.le_trans Z0 K137.1) (Nat.le_of_eq g136.symm)
    have sz_b136 : h0.size ≤ b136 := Nat.le_trans K137.1 (Nat.le_of_eq g136.symm)
    have F138 := (Ex131.keep K133)
    have ne_r131_b136 : r131 ≠ b136 := Nat.ne_of_lt (Nat.lt_of_lt_of_le F138.lt (Nat.le_of_eq g136.symm))
    have F139 := (V131.keep K133 nin0)
    have ne_rb131_b136 : rb131 ≠ b136 := Nat.ne_of_lt (Nat.lt_of_lt_of_le F139.lt (Nat.le_of_eq g136.symm))
    have ne_r133_b136 : r133 ≠ b136 := Nat.ne_of_lt (Nat.lt_of_lt_of_le Ex133.lt (Nat.le_of_eq g136.symm))
    have ne_rb133_b136 : rb133 ≠ b136 := Nat.ne_of_lt (Nat.lt_of_lt_of_le V133.lt (Nat.le_of_eq g136.symm))
    have F136_51 : Fld Z h136 b136 "com/example/vetted_traces/vettedtraces/language/Token" "kind" "Lcom/example/vetted_traces/vettedtraces/language/TokenKind;" .null := D136 (Or.inr (hw _ (List.mem_of_getElem? (i := 51) rfl))) (ty := (.object "com/example/vetted_traces/vettedtraces/language/TokenKind")) (by decide)
    have F136_55 : Fld Z h136 b136 "com/example/vetted_traces/vettedtraces/language/Token" "text" "Ljava/lang/String;" .null := D136 (Or.inr (hw _ (List.mem_of_getElem? (i := 55) rfl))) (ty := (.object "java/lang/String")) (by decide)
    have F136_57 : Fld Z h136 b136 "com/example/vetted_traces/vettedtraces/language/Token" "line" "I" (.int (0 : Int32)) := D136 (Or.inr (hw _ (List.mem_of_getElem? (i := 57) rfl))) (ty := .int) (by decide)
    have F136_59 : Fld Z h136 b136 "com/example/vetted_traces/vettedtraces/language/Token" "column" "I" (.int (0 : Int32)) := D136 (Or.inr (hw _ (List.mem_of_getElem? (i := 59) rfl))) (ty := .int) (by decide)
    have K141 : Keep h0 h136 [] := (K137.ext E136)
    have O142 : Old Z n0 h136 := ((O135.keep K133 all0).ext E136)
    obtain ⟨_, _, ⟨T140, L140, kk140, n140⟩, -, X140, ⟨Lc140, hQ140, l140, y140, z140⟩, st140⟩ := Jvm.LawKit.callS X136 hx (y := (⟨"com/example/vetted_traces/vettedtraces/language/TokenEqualsPinLaw", "kind", "(I)Lcom/example/vetted_traces/vettedtraces/language/TokenKind;"⟩ : MethodName)) hown (mvT hZ (hw _ (List.mem_of_getElem? (i := 33) rfl))) (mvT hZ (hw _ (List.mem_of_getElem? (i := 34) rfl))) (mvT hZ (hw _ (List.mem_of_getElem? (i := 6) rfl))) (mvT hZ (hw _ (List.mem_of_getElem? (i := 35) rfl))) (by decide) (backOf (W := 2) (rm6 l Z a0 hw [] ka en h136 n0 (Nat.le_trans Z0 K141.1) HE O142) hZ (hw _ (List.mem_of_getElem? (i := 35) rfl)) (hw _ (List.mem_of_getElem? (i := 6) rfl)) (by decide) (by decide)) (g := (mkF m 189 #[.val (.int p0), .val (.int p1), .val (.int p2), .val (.int p3), .val (.int p4), .val (.int p5), .val (.int ka), .val (.int kb), .val (.int c0), .val (.int c1), .val (.int la), .val (.int la), .val (.int b0), .val (.int b1), .val (.int lineB), .val (.int colB), .val (.ref r131), .val (.ref r133), .unset, .unset, .unset, .unset, .unset] [(.int ka), (.ref b136), (.ref b136)])) rfl (by rw [hml]; rfl) (argsL := [(.int ka)]) (rest := [(.ref b136), (.ref b136)]) (lenOf own_pd1 rfl) rfl (by show 2 * 0 + _ ≤ _; exact Nat.le_of_eq rfl) (hb hby at_189) (fun _ _ => ⟨rfl, e136, (by decide : 13 + 0 ≤ _), (by decide : 28 + 0 ≤ _)⟩)
    dsimp only [Pt.U, Pt.locs, Pt.cells, Pt.slots] at X140 l140 y140 z140 st140 hQ140
    subst l140 y140 z140
    obtain ⟨rfl, N140q, e140⟩ := hQ140
    have N140 := Fr.app N133 N140q
    have E140 := (own_kindE HE ka).ext O142.2
    have k143 : own_To p e below T140 (mkF m 196 #[.val (.int p0), .val (.int p1), .val (.int p2), .val (.int p3), .val (.int p4), .val (.int p5), .val (.int ka), .val (.int kb), .val (.int c0), .val (.int c1), .val (.int la), .val (.int la), .val (.int b0), .val (.int b1), .val (.int lineB), .val (.int colB), .val (.ref r131), .val (.ref r133), .unset, .unset, .unset, .unset, .unset] [(.int p3), (.int p2), (.ref r131), (.ref (own_kind en ka)), (.ref b136), (.ref b136)]) s₁ (mkF m 0 #[.val (.int p0), .val (.int p1), .val (.int p2), .val (.int p3), .val (.int p4), .val (.int p5), .unset, .unset, .unset, .unset, .unset, .unset, .unset, .unset, .unset, .unset, .unset, .unset, .unset, .unset, .unset, .unset, .unset] []) := fun t q => k132 t (by
      refine st133.trans ?_
      show Steps p.tables e below (T133.setTop (mkF m 181 #[.val (.int p0), .val (.int p1), .val (.int p2), .val (.int p3), .val (.int p4), .val (.int p5), .val (.int ka), .val (.int kb), .val (.int c0), .val (.int c1), .val (.int la), .val (.int la), .val (.int b0), .val (.int b1), .val (.int lineB), .val (.int colB), .val (.ref r131), .unset, .unset, .unset, .unset, .unset, .unset] [(.ref r133)])) _
      refine XS.astore X133.here hx rfl (hb hby at_181) rfl rfl (l' := #[.val (.int p0), .val (.int p1), .val (.int p2), .val (.int p3), .val (.int p4), .val (.int p5), .val (.int ka), .val (.int kb), .val (.int c0), .val (.int c1), .val (.int la), .val (.int la), .val (.int b0), .val (.int b1), .val (.int lineB), .val (.int colB), .val (.ref r131), .val (.ref r133), .unset, .unset, .unset, .unset, .unset]) rfl ?_
      show Steps p.tables e below (T133.setTop (mkF m 183 #[.val (.int p0), .val (.int p1), .val (.int p2), .val (.int p3), .val (.int p4), .val (.int p5), .val (.int ka), .val (.int kb), .val (.int c0), .val (.int c1), .val (.int la), .val (.int la), .val (.int b0), .val (.int b1), .val (.int lineB), .val (.int colB), .val (.ref r131), .val (.ref r133), .unset, .unset, .unset, .unset, .unset] [])) _
      refine st136 _ ?_
      show Steps p.tables e below (T136.setTop (mkF m 186 #[.val (.int p0), .val (.int p1), .val (.int p2), .val (.int p3), .val (.int p4), .val (.int p5), .val (.int ka), .val (.int kb), .val (.int c0), .val (.int c1), .val (.int la), .val (.int la), .val (.int b0), .val (.int b1), .val (.int lineB), .val (.int colB), .val (.ref r131), .val (.ref r133), .unset, .unset, .unset, .unset, .unset] [(.ref b136)])) _
      refine XS.dup X136.here hx rfl (hb hby at_186) rfl rfl ?_
      show Steps p.tables e below (T136.setTop (mkF m 187 #[.val (.int p0), .val (.int p1), .val (.int p2), .val (.int p3), .val (.int p4), .val (.int p5), .val (.int ka), .val (.int kb), .val (.int c0), .val (.int c1), .val (.int la), .val (.int la), .val (.int b0), .val (.int b1), .val (.int lineB), .val (.int colB), .val (.ref r131), .val (.ref r133), .unset, .unset, .unset, .unset, .unset] [(.ref b136), (.ref b136)])) _
      refine XS.iload X136.here hx rfl (hb hby at_187) rfl ?_
      show Steps p.tables e below (T136.setTop (mkF m 189 #[.val (.int p0), .val (.int p1), .val (.int p2), .val (.int p3), .val (.int p4), .val (.int p5), .val (.int ka), .val (.int kb), .val (.int c0), .val (.int c1), .val (.int la), .val (.int la), .val (.int b0), .val (.int b1), .val (.int lineB), .val (.int colB), .val (.ref r131), .val (.ref r133), .unset, .unset, .unset, .unset, .unset] [(.int ka), (.ref b136), (.ref b136)])) _
      refine st140 _ ?_
      show Steps p.tables e below (T140.setTop (mkF m 192 #[.val (.int p0), .val (.int p1), .val (.int p2), .val (.int p3), .val (.int p4), .val (.int p5), .val (.int ka), .val (.int kb), .val (.int c0), .val (.int c1), .val (.int la), .val (.int la), .val (.int b0), .val (.int b1), .val (.int lineB), .val (.int colB), .val (.ref r131), .val (.ref r133), .unset, .unset, .unset, .unset, .unset] [(.ref (own_kind en ka)), (.ref b136), (.ref b136)])) _
      refine XS.aload X140.here hx rfl (hb hby at_192) rfl rfl ?_
      show Steps p.tables e below (T140.setTop (mkF m 194 #[.val (.int p0), .val (.int p1), .val (.int p2), .val (.int p3), .val (.int p4), .val (.int p5), .val (.int ka), .val (.int kb), .val (.int c0), .val (.int c1), .val (.int la), .val (.int la), .val (.int b0), .val (.int b1), .val (.int lineB), .val (.int colB), .val (.ref r131), .val (.ref r133), .unset, .unset, .unset, .unset, .unset] [(.ref r131), (.ref (own_kind en ka)), (.ref b136), (.ref b136)])) _
      refine XS.iloadN X140.here hx rfl (hb hby at_194) rfl ?_
      show Steps p.tables e below (T140.setTop (mkF m 195 #[.val (.int p0), .val (.int p1), .val (.int p2), .val (.int p3), .val (.int p4), .val (.int p5), .val (.int ka), .val (.int kb), .val (.int c0), .val (.int c1), .val (.int la), .val (.int la), .val (.int b0), .val (.int b1), .val (.int lineB), .val (.int colB), .val (.ref r131), .val (.ref r133), .unset, .unset, .unset, .unset, .unset] [(.int p2), (.ref r131), (.ref (own_kind en ka)), (.ref b136), (.ref b136)])) _
      refine XS.iloadN X140.here hx rfl (hb hby at_195) rfl ?_
      show Steps p.tables e below (T140.setTop (mkF m 196 #[.val (.int p0), .val (.int p1), .val (.int p2), .val (.int p3), .val (.int p4), .val (.int p5), .val (.int ka), .val (.int kb), .val (.int c0), .val (.int c1), .val (.int la), .val (.int la), .val (.int b0), .val (.int b1), .val (.int lineB), .val (.int colB), .val (.ref r131), .val (.ref r133), .unset, .unset, .unset, .unset, .unset] [(.int p3), (.int p2), (.ref r131), (.ref (own_kind en ka)), (.ref b136), (.ref b136)])) _
      exact q)
    have CRc145 := CRl133.trans (CHr.ext E136 CHl133)
    have Sfc145_b136 := Safe.ext E136 CHl133 Sf136_b136
    have CHc145 := CRc145.1
    have F146 := (F138.ext E136)
    obtain ⟨_, _, ⟨T144, L144, kk144, n144⟩, -, X144, hSs144, hgr144, ⟨Lc144, hQ144, l144, y144, z144, hC144⟩, st144⟩ := X140.specialBackS hx (y := (⟨"com/example/vetted_traces/vettedtraces/language/Token", "<init>", "(Lcom/example/vetted_traces/vettedtraces/language/TokenKind;Ljava/lang/String;II)V"⟩ : MethodName)) rfl hown (mvT hZ (hw _ (List.mem_of_getElem? (i := 39) rfl))) (mvT hZ (hw _ (List.mem_of_getElem? (i := 40) rfl))) (mvT hZ (hw _ (List.mem_of_getElem? (i := 41) rfl))) (by decide) (backOfSH (s := s) (vm0 := T133.vm) (W := 1) (rm7 l Z a0 hw [] b136 (own_kind en ka) r131 p2 p3 h136 n0 (Nat.le_trans Z0 K141.1) F136_51 F136_55 F136_57 F136_59 A136 ge_b136 E140 F146 hEL) hZ (hw _ (List.mem_of_getElem? (i := 41) rfl)) (hw _ (List.mem_of_getElem? (i := 32) rfl)) (by decide) (by decide) hEL CHc145) (g := (mkF m 196 #[.val (.int p0), .val (.int p1), .val (.int p2), .val (.int p3), .val (.int p4), .val (.int p5), .val (.int ka), .val (.int kb), .val (.int c0), .val (.int c1), .val (.int la), .val (.int la), .val (.int b0), .val (.int b1), .val (.int lineB), .val (.int colB), .val (.ref r131), .val (.ref r133), .unset, .unset, .unset, .unset, .unset] [(.int p3), (.int p2), (.ref r131), (.ref (own_kind en ka)), (.ref b136), (.ref b136)])) rfl (by rw [hml]; rfl) (Steps.refl _) (a := b136) (argsL := [(.ref (own_kind en ka)), (.ref r131), (.int p2), (.int p3)]) (rest := [(.ref b136)]) (lenOf own_pd4 rfl) rfl (by show 2 * 0 + _ ≤ _; exact Nat.le_of_eq rfl) (hb hby at_196) (fun _ _ => ⟨rfl, e140, (by decide : 13 + 4 ≤ _), (by decide : 28 + 40 ≤ _)⟩)
    dsimp only [Pt.U, Pt.locs, Pt.cells, Pt.slots] at X144 l144 y144 z144 st144 hQ144 hSs144 hgr144 hC144
    subst l144 y144 z144
    have X144 := own_again X144
    have hSn144 := foldS hSn133 (by rw [e140]; exact (Nat.le_trans (Nat.le_refl _) E136.1)) hSs144 hgr144
    have hZn144 : Z.Warmed39 (s.setVm T144.vm).vm := State.Warmed39.trans (t := s.setVm T133.vm) hZ hSs144.1
    have hon144 : (s.setVm T144.vm).vm.findClass "com/example/vetted_traces/vettedtraces/language/TokenEqualsPinLaw" = some m.cls := by rw [show (s.setVm T144.vm).vm = T144.vm from rfl, hSs144.1.alike.findClass]; exact hown
    have hZ := hZn144
    have hown := hon144
    have CRl144 := CRc145.trans hC144
    have CHl144 := CRl144.1
    have Sf144_b136 := hC144.safe (A136.lt) Sfc145_b136
    obtain ⟨rfl, N144q, K144, E144, F144_0, F144_1, F144_2, F144_3⟩ := hQ144
    have N144 := Fr.app N140 N144q
    obtain ⟨T147, h147, X147, e147, E147, A147, D147, -, st147⟩ := newO X144 hx hZ hown (hw _ (List.mem_of_getElem? (i := 30) rfl)) (hw _ (List.mem_of_getElem? (i := 31) rfl)) (hw _ (List.mem_of_getElem? (i := 32) rfl)) rfl (g := (mkF m 201 #[.val (.int p0), .val (.int p1), .val (.int p2), .val (.int p3), .val (.int p4), .val (.int p5), .val (.int ka), .val (.int kb), .val (.int c0), .val (.int c1), .val (.int la), .val (.int la), .val (.int b0), .val (.int b1), .val (.int lineB), .val (.int colB), .val (.ref r131), .val (.ref r133), .val (.ref b136), .unset, .unset, .unset, .unset] [])) rfl (hb hby at_201) (by decide) (by decide)
    obtain ⟨b147, g147⟩ : ∃ z, z = T144.heap.size := ⟨_, rfl⟩
    rw [← g147] at A147 D147 st147
    have Sf147_b147 : Safe Z own_EL T144.vm T144.heap b147 := Safe.new (Nat.le_of_eq g147.symm)
    have K148 : Keep h0 T144.heap [] := (K141.trans K144 (allS (P := fun x => x ∈ ([] : List Addr) ∨ h0.size ≤ x) (Or.inr sz_b136) all0))
    have ge_b147 : n0 ≤ b147 := Nat.le_trans (Nat.le_trans Z0 K148.1) (Nat.le_of_eq g147.symm)
    have sz_b147 : h0.size ≤ b147 := Nat.le_trans K148.1 (Nat.le_of_eq g147.symm)
    have F149 := (F146.keep K144)
    have ne_r131_b147 : r131 ≠ b147 := Nat.ne_of_lt (Nat.lt_of_lt_of_le F149.lt (Nat.le_of_eq g147.symm))
    have F150 := ((F139.ext E136).keep K144 (ninS ne_rb131_b136 nin0))
    have ne_rb131_b147 : rb131 ≠ b147 := Nat.ne_of_lt (Nat.lt_of_lt_of_le F150.lt (Nat.le_of_eq g147.symm))
    have F151 := ((Ex133.ext E136).keep K144)
    have ne_r133_b147 : r133 ≠ b147 := Nat.ne_of_lt (Nat.lt_of_lt_of_le F151.lt (Nat.le_of_eq g147.symm))
    have F152 := ((V133.ext E136).keep K144 (ninS ne_rb133_b136 nin0))
    have ne_rb133_b147 : rb133 ≠ b147 := Nat.ne_of_lt (Nat.lt_of_lt_of_le F152.lt (Nat.le_of_eq g147.symm))
    have F153 := (E140.keep K144)
    have ne__own_kind_en_ka__b147 : (own_kind en ka) ≠ b147 := Nat.ne_of_lt (Nat.lt_of_lt_of_le F153.lt (Nat.le_of_eq g147.symm))
    have ne_b136_b147 : b136 ≠ b147 := Nat.ne_of_lt (Nat.lt_of_lt_of_le E144.lt (Nat.le_of_eq g147.symm))
    have F147_51 : Fld Z h147 b147 "com/example/vetted_traces/vettedtraces/language/Token" "kind" "Lcom/example/vetted_traces/vettedtraces/language/TokenKind;" .null := D147 (Or.inr (hw _ (List.mem_of_getElem? (i := 51) rfl))) (ty := (.object "com/example/vetted_traces/vettedtraces/language/TokenKind")) (by decide)
    have F147_55 : Fld Z h147 b147 "com/example/vetted_traces/vettedtraces/language/Token" "text" "Ljava/lang/String;" .null := D147 (Or.inr (hw _ (List.mem_of_getElem? (i := 55) rfl))) (ty := (.object "java/lang/String")) (by decide)
    have F147_57 : Fld Z h147 b147 "com/example/vetted_traces/vettedtraces/language/Token" "line" "I" (.int (0 : Int32)) := D147 (Or.inr (hw _ (List.mem_of_getElem? (i := 57) rfl))) (ty := .int) (by decide)
    have F147_59 : Fld Z h147 b147 "com/example/vetted_traces/vettedtraces/language/Token" "column" "I" (.int (0 : Int32)) := D147 (Or.inr (hw _ (List.mem_of_getElem? (i := 59) rfl))) (ty := .int) (by decide)
    have K155 : Keep h0 h147 [] := (K148.ext E147)
    have O156 : Old Z n0 h147 := ((O142.keep K144 (allS ge_b136 all0)).ext E147)
    obtain ⟨_, _, ⟨T154, L154, kk154, n154⟩, -, X154, ⟨Lc154, hQ154, l154, y154, z154⟩, st154⟩ := Jvm.LawKit.callS X147 hx (y := (⟨"com/example/vetted_traces/vettedtraces/language/TokenEqualsPinLaw", "kind", "(I)Lcom/example/vetted_traces/vettedtraces/language/TokenKind;"⟩ : MethodName)) hown (mvT hZ (hw _ (List.mem_of_getElem? (i := 33) rfl))) (mvT hZ (hw _ (List.mem_of_getElem? (i := 34) rfl))) (mvT hZ (hw _ (List.mem_of_getElem? (i := 6) rfl))) (mvT hZ (hw _ (List.mem_of_getElem? (i := 35) rfl))) (by decide) (backOf (W := 2) (rm6 l Z a0 hw [] kb en h147 n0 (Nat.le_trans Z0 K155.1) HE O156) hZ (hw _ (List.mem_of_getElem? (i := 35) rfl)) (hw _ (List.mem_of_getElem? (i := 6) rfl)) (by decide) (by decide)) (g := (mkF m 207 #[.val (.int p0), .val (.int p1), .val (.int p2), .val (.int p3), .val (.int p4), .val (.int p5), .val (.int ka), .val (.int kb), .val (.int c0), .val (.int c1), .val (.int la), .val (.int la), .val (.int b0), .val (.int b1), .val (.int lineB), .val (.int colB), .val (.ref r131), .val (.ref r133), .val (.ref b136), .unset, .unset, .unset, .unset] [(.int kb), (.ref b147), (.ref b147)])) rfl (by rw [hml]; rfl) (argsL := [(.int kb)]) (rest := [(.ref b147), (.ref b147)]) (lenOf own_pd1 rfl) rfl (by show 2 * 0 + _ ≤ _; exact Nat.le_of_eq rfl) (hb hby at_207) (fun _ _ => ⟨rfl, e147, (by decide : 18 + 0 ≤ _), (by decide : 72 + 0 ≤ _)⟩)
    dsimp only [Pt.U, Pt.locs, Pt.cells, Pt.slots] at X154 l154 y154 z154 st154 hQ154
    subst l154 y154 z154
    obtain ⟨rfl, N154q, e154⟩ := hQ154
    have N154 := Fr.app N144 N154q
    have E154 := (own_kindE HE kb).ext O156.2
    have k157 : own_To p e below T154 (mkF m 216 #[.val (.int p0), .val (.int p1), .val (.int p2), .val (.int p3), .val (.int p4), .val (.int p5), .val (.int ka), .val (.int kb), .val (.int c0), .val (.int c1), .val (.int la), .val (.int la), .val (.int b0), .val (.int b1), .val (.int lineB), .val (.int colB), .val (.ref r131), .val (.ref r133), .val (.ref b136), .unset, .unset, .unset, .unset] [(.int colB), (.int lineB), (.ref r133), (.ref (own_kind en kb)), (.ref b147), (.ref b147)]) s₁ (mkF m 0 #[.val (.int p0), .val (.int p1), .val (.int p2), .val (.int p3), .val (.int p4), .val (.int p5), .unset, .unset, .unset, .unset, .unset, .unset, .unset, .unset, .unset, .unset, .unset, .unset, .unset, .unset, .unset, .unset, .unset] []) := fun t q => k143 t (by
      refine st144.trans ?_
      show Steps p.tables e below (T144.setTop (mkF m 199 #[.val (.int p0), .val (.int p1), .val (.int p2), .val (.int p3), .val (.int p4), .val (.int p5), .val (.int ka), .val (.int kb), .val (.int c0), .val (.int c1), .val (.int la), .val (.int la), .val (.int b0), .val (.int b1), .val (.int lineB), .val (.int colB), .val (.ref r131), .val (.ref r133), .unset, .unset, .unset, .unset, .unset] [(.ref b136)])) _
      refine XS.astore X144.here hx rfl (hb hby at_199) rfl rfl (l' := #[.val (.int p0), .val (.int p1), .val (.int p2), .val (.int p3), .val (.int p4), .val (.int p5), .val (.int ka), .val (.int kb), .val (.int c0), .val (.int c1), .val (.int la), .val (.int la), .val (.int b0), .val (.int b1), .val (.int lineB), .val (.int colB), .val (.ref r131), .val (.ref r133), .val (.ref b136), .unset, .unset, .unset, .unset]) rfl ?_
      show Steps p.tables e below (T144.setTop (mkF m 201 #[.val (.int p0), .val (.int p1), .val (.int p2), .val (.int p3), .val (.int p4), .val (.int p5), .val (.int ka), .val (.int kb), .val (.int c0), .val (.int c1), .val (.int la), .val (.int la), .val (.int b0), .val (.int b1), .val (.int lineB), .val (.int colB), .val (.ref r131), .val (.ref r133), .val (.ref b136), .unset, .unset, .unset, .unset] [])) _
      refine st147 _ ?_
      show Steps p.tables e below (T147.setTop (mkF m 204 #[.val (.int p0), .val (.int p1), .val (.int p2), .val (.int p3), .val (.int p4), .val (.int p5), .val (.int ka), .val (.int kb), .val (.int c0), .val (.int c1), .val (.int la), .val (.int la), .val (.int b0), .val (.int b1), .val (.int lineB), .val (.int colB), .val (.ref r131), .val (.ref r133), .val (.ref b136), .unset, .unset, .unset, .unset] [(.ref b147)])) _
      refine XS.dup X147.here hx rfl (hb hby at_204) rfl rfl ?_
      show Steps p.tables e below (T147.setTop (mkF m 205 #[.val (.int p0), .val (.int p1), .val (.int p2), .val (.int p3), .val (.int p4), .val (.int p5), .val (.int ka), .val (.int kb), .val (.int c0), .val (.int c1), .val (.int la), .val (.int la), .val (.int b0), .val (.int b1), .val (.int lineB), .val (.int colB), .val (.ref r131), .val (.ref r133), .val (.ref b136), .unset, .unset, .unset, .unset] [(.ref b147), (.ref b147)])) _
      refine XS.iload X147.here hx rfl (hb hby at_205) rfl ?_
      show Steps p.tables e below (T147.setTop (mkF m 207 #[.val (.int p0), .val (.int p1), .val (.int p2), .val (.int p3), .val (.int p4), .val (.int p5), .val (.int ka), .val (.int kb), .val (.int c0), .val (.int c1), .val (.int la), .val (.int la), .val (.int b0), .val (.int b1), .val (.int lineB), .val (.int colB), .val (.ref r131), .val (.ref r133), .val (.ref b136), .unset, .unset, .unset, .unset] [(.int kb), (.ref b147), (.ref b147)])) _
      refine st154 _ ?_
      show Steps p.tables e below (T154.setTop (mkF m 210 #[.val (.int p0), .val (.int p1), .val (.int p2), .val (.int p3), .val (.int p4), .val (.int p5), .val (.int ka), .val (.int kb), .val (.int c0), .val (.int c1), .val (.int la), .val (.int la), .val (.int b0), .val (.int b1), .val (.int lineB), .val (.int colB), .val (.ref r131), .val (.ref r133), .val (.ref b136), .unset, .unset, .unset, .unset] [(.ref (own_kind en kb)), (.ref b147), (.ref b147)])) _
      refine XS.aload X154.here hx rfl (hb hby at_210) rfl rfl ?_
      show Steps p.tables e below (T154.setTop (mkF m 212 #[.val (.int p0), .val (.int p1), .val (.int p2), .val (.int p3), .val (.int p4), .val (.int p5), .val (.int ka), .val (.int kb), .val (.int c0), .val (.int c1), .val (.int la), .val (.int la), .val (.int b0), .val (.int b1), .val (.int lineB), .val (.int colB), .val (.ref r131), .val (.ref r133), .val (.ref b136), .unset, .unset, .unset, .unset] [(.ref r133), (.ref (own_kind en kb)), (.ref b147), (.ref b147)])) _
      refine XS.iload X154.here hx rfl (hb hby at_212) rfl ?_
      show Steps p.tables e below (T154.setTop (mkF m 214 #[.val (.int p0), .val (.int p1), .val (.int p2), .val (.int p3), .val (.int p4), .val (.int p5), .val (.int ka), .val (.int kb), .val (.int c0), .val (.int c1), .val (.int la), .val (.int la), .val (.int b0), .val (.int b1), .val (.int lineB), .val (.int colB), .val (.ref r131), .val (.ref r133), .val (.ref b136), .unset, .unset, .unset, .unset] [(.int lineB), (.ref r133), (.ref (own_kind en kb)), (.ref b147), (.ref b147)])) _
      refine XS.iload X154.here hx rfl (hb hby at_214) rfl ?_
      show Steps p.tables e below (T154.setTop (mkF m 216 #[.val (.int p0), .val (.int p1), .val (.int p2), .val (.int p3), .val (.int p4), .val (.int p5), .val (.int ka), .val (.int kb), .val (.int c0), .val (.int c1), .val (.int la), .val (.int la), .val (.int b0), .val (.int b1), .val (.int lineB), .val (.int colB), .val (.ref r131), .val (.ref r133), .val (.ref b136), .unset, .unset, .unset, .unset] [(.int colB), (.int lineB), (.ref r133), (.ref (own_kind en kb)), (.ref b147), (.ref b147)])) _
      exact q)
    have CRc159 := CRl144.trans (CHr.ext E147 CHl144)
    have Sfc159_b136 := Safe.ext E147 CHl144 Sf144_b136
    have Sfc159_b147 := Safe.ext E147 CHl144 Sf147_b147
    have CHc159 := CRc159.1
    have F160 := (F151.ext E147)
    obtain ⟨_, _, ⟨T158, L158, kk158, n158⟩, -, X158, hSs158, hgr158, ⟨Lc158, hQ158, l158, y158, z158, hC158⟩, st158⟩ := X154.specialBackS hx (y := (⟨"com/example/vetted_traces/vettedtraces/language/Token", "<init>", "(Lcom/example/vetted_traces/vettedtraces/language/TokenKind;Ljava/lang/String;II)V"⟩ : MethodName)) rfl hown (mvT hZ (hw _ (List.mem_of_getElem? (i := 39) rfl))) (mvT hZ (hw _ (List.mem_of_getElem? (i := 40) rfl))) (mvT hZ (hw _ (List.mem_of_getElem? (i := 41) rfl))) (by decide) (backOfSH (s := s) (vm0 := T144.vm) (W := 1) (rm7 l Z a0 hw [] b147 (own_kind en kb) r133 lineB colB h147 n0 (Nat.le_trans Z0 K155.1) F147_51 F147_55 F147_57 F147_59 A147 ge_b147 E154 F160 hEL) hZ (hw _ (List.mem_of_getElem? (i := 41) rfl)) (hw _ (List.mem_of_getElem? (i := 32) rfl)) (by decide) (by decide) hEL CHc159) (g := (mkF m 216 #[.val (.int p0), .val (.int p1), .val (.int p2), .val (.int p3), .val (.int p4), .val (.int p5), .val (.int ka), .val (.int kb), .val (.int c0), .val (.int c1), .val (.int la), .val (.int la), .val (.int b0), .val (.int b1), .val (.int lineB), .val (.int colB), .val (.ref r131), .val (.ref r133), .val (.ref b136), .unset, .unset, .unset, .unset] [(.int colB), (.int lineB), (.ref r133), (.ref (own_kind en kb)), (.ref b147), (.ref b147)])) rfl (by rw [hml]; rfl) (Steps.refl _) (a := b147) (argsL := [(.ref (own_kind en kb)), (.ref r133), (.int lineB), (.int colB)]) (rest := [(.ref b147)]) (lenOf own_pd4 rfl) rfl (by show 2 * 0 + _ ≤ _; exact Nat.le_of_eq rfl) (hb hby at_216) (fun _ _ => ⟨rfl, e154, (by decide : 18 + 4 ≤ _), (by decide : 72 + 40 ≤ _)⟩)
    dsimp only [Pt.U, Pt.locs, Pt.cells, Pt.slots] at X158 l158 y158 z158 st158 hQ158 hSs158 hgr158 hC158
    subst l158 y158 z158
    have X158 := own_again X158
    have hSn158 := foldS hSn144 (by rw [e154]; exact (Nat.le_trans (Nat.le_refl _) E147.1)) hSs158 hgr158
    have hZn158 : Z.Warmed39 (s.setVm T158.vm).vm := State.Warmed39.trans (t := s.setVm T144.vm) hZ hSs158.1
    have hon158 : (s.setVm T158.vm).vm.findClass "com/example/vetted_traces/vettedtraces/language/TokenEqualsPinLaw" = some m.cls := by rw [show (s.setVm T158.vm).vm = T158.vm from rfl, hSs158.1.alike.findClass]; exact hown
    have hZ := hZn158
    have hown := hon158
    have CRl158 := CRc159.trans hC158
    have CHl158 := CRl158.1
    have Sf158_b136 := hC158.safe ((E144.ext E147).lt) Sfc159_b136
    have Sf158_b147 := hC158.safe (A147.lt) Sfc159_b147
    obtain ⟨rfl, N158q, K158, E158, F158_0, F158_1, F158_2, F158_3⟩ := hQ158
    have N158 := Fr.app N154 N158q
    have k161 : own_To p e below T158 (mkF m 232 #[.val (.int p0), .val (.int p1), .val (.int p2), .val (.int p3), .val (.int p4), .val (.int p5), .val (.int ka), .val (.int kb), .val (.int c0), .val (.int c1), .val (.int la), .val (.int la), .val (.int b0), .val (.int b1), .val (.int lineB), .val (.int colB), .val (.ref r131), .val (.ref r133), .val (.ref b136), .val (.ref b147), .val (.int (((p0.toUInt32 >>> ((14 : Int32) &&& 31).toUInt32).toInt32) &&& (3 : Int32))), .unset, .unset] [(.int (1 : Int32)), (.int (((p0.toUInt32 >>> ((14 : Int32) &&& 31).toUInt32).toInt32) &&& (3 : Int32)))]) s₁ (mkF m 0 #[.val (.int p0), .val (.int p1), .val (.int p2), .val (.int p3), .val (.int p4), .val (.int p5), .unset, .unset, .unset, .unset, .unset, .unset, .unset, .unset, .unset, .unset, .unset, .unset, .unset, .unset, .unset, .unset, .unset] []) := fun t q => k157 t (by
      refine st158.trans ?_
      show Steps p.tables e below (T158.setTop (mkF m 219 #[.val (.int p0), .val (.int p1), .val (.int p2), .val (.int p3), .val (.int p4), .val (.int p5), .val (.int ka), .val (.int kb), .val (.int c0), .val (.int c1), .val (.int la), .val (.int la), .val (.int b0), .val (.int b1), .val (.int lineB), .val (.int colB), .val (.ref r131), .val (.ref r133), .val (.ref b136), .unset, .unset, .unset, .unset] [(.ref b147)])) _
      refine XS.astore X158.here hx rfl (hb hby at_219) rfl rfl (l' := #[.val (.int p0), .val (.int p1), .val (.int p2), .val (.int p3), .val (.int p4), .val (.int p5), .val (.int ka), .val (.int kb), .val (.int c0), .val (.int c1), .val (.int la), .val (.int la), .val (.int b0), .val (.int b1), .val (.int lineB), .val (.int colB), .val (.ref r131), .val (.ref r133), .val (.ref b136), .val (.ref b147), .unset, .unset, .unset]) rfl ?_
      show Steps p.tables e below (T158.setTop (mkF m 221 #[.val (.int p0), .val (.int p1), .val (.int p2), .val (.int p3), .val (.int p4), .val (.int p5), .val (.int ka), .val (.int kb), .val (.int c0), .val (.int c1), .val (.int la), .val (.int la), .val (.int b0), .val (.int b1), .val (.int lineB), .val (.int colB), .val (.ref r131), .val (.ref r133), .val (.ref b136), .val (.ref b147), .unset, .unset, .unset] [])) _
      refine XS.iloadN X158.here hx rfl (hb hby at_221) rfl ?_
      show Steps p.tables e below (T158.setTop (mkF m 222 #[.val (.int p0), .val (.int p1), .val (.int p2), .val (.int p3), .val (.int p4), .val (.int p5), .val (.int ka), .val (.int kb), .val (.int c0), .val (.int c1), .val (.int la), .val (.int la), .val (.int b0), .val (.int b1), .val (.int lineB), .val (.int colB), .val (.ref r131), .val (.ref r133), .val (.ref b136), .val (.ref b147), .unset, .unset, .unset] [(.int p0)])) _
      refine XS.bipush X158.here hx rfl (hb hby at_222) ?_
      show Steps p.tables e below (T158.setTop (mkF m 224 #[.val (.int p0), .val (.int p1), .val (.int p2), .val (.int p3), .val (.int p4), .val (.int p5), .val (.int ka), .val (.int kb), .val (.int c0), .val (.int c1), .val (.int la), .val (.int la), .val (.int b0), .val (.int b1), .val (.int lineB), .val (.int colB), .val (.ref r131), .val (.ref r133), .val (.ref b136), .val (.ref b147), .unset, .unset, .unset] [(.int (14 : Int32)), (.int p0)])) _
      refine XS.iushr X158.here hx rfl (hb hby at_224) rfl ?_
      show Steps p.tables e below (T158.setTop (mkF m 225 #[.val (.int p0), .val (.int p1), .val (.int p2), .val (.int p3), .val (.int p4), .val (.int p5), .val (.int ka), .val (.int kb), .val (.int c0), .val (.int c1), .val (.int la), .val (.int la), .val (.int b0), .val (.int b1), .val (.int lineB), .val (.int colB), .val (.ref r131), .val (.ref r133), .val (.ref b136), .val (.ref b147), .unset, .unset, .unset] [(.int ((p0.toUInt32 >>> ((14 : Int32) &&& 31).toUInt32).toInt32))])) _
      refine XS.iconst X158.here hx rfl (hb hby at_225) ?_
      show Steps p.tables e below (T158.setTop (mkF m 226 #[.val (.int p0), .val (.int p1), .val (.int p2), .val (.int p3), .val (.int p4), .val (.int p5), .val (.int ka), .val (.int kb), .val (.int c0), .val (.int c1), .val (.int la), .val (.int la), .val (.int b0), .val (.int b1), .val (.int lineB), .val (.int colB), .val (.ref r131), .val (.ref r133), .val (.ref b136), .val (.ref b147), .unset, .unset, .unset] [(.int (3 : Int32)), (.int ((p0.toUInt32 >>> ((14 : Int32) &&& 31).toUInt32).toInt32))])) _
      refine XS.iand X158.here hx rfl (hb hby at_226) rfl ?_
      show Steps p.tables e below (T158.setTop (mkF m 227 #[.val (.int p0), .val (.int p1), .val (.int p2), .val (.int p3), .val (.int p4), .val (.int p5), .val (.int ka), .val (.int kb), .val (.int c0), .val (.int c1), .val (.int la), .val (.int la), .val (.int b0), .val (.int b1), .val (.int lineB), .val (.int colB), .val (.ref r131), .val (.ref r133), .val (.ref b136), .val (.ref b147), .unset, .unset, .unset] [(.int (((p0.toUInt32 >>> ((14 : Int32) &&& 31).toUInt32).toInt32) &&& (3 : Int32)))])) _
      refine XS.istore X158.here hx rfl (hb hby at_227) rfl (l' := #[.val (.int p0), .val (.int p1), .val (.int p2), .val (.int p3), .val (.int p4), .val (.int p5), .val (.int ka), .val (.int kb), .val (.int c0), .val (.int c1), .val (.int la), .val (.int la), .val (.int b0), .val (.int b1), .val (.int lineB), .val (.int colB), .val (.ref r131), .val (.ref r133), .val (.ref b136), .val (.ref b147), .val (.int (((p0.toUInt32 >>> ((14 : Int32) &&& 31).toUInt32).toInt32) &&& (3 : Int32))), .unset, .unset]) rfl ?_
      show Steps p.tables e below (T158.setTop (mkF m 229 #[.val (.int p0), .val (.int p1), .val (.int p2), .val (.int p3), .val (.int p4), .val (.int p5), .val (.int ka), .val (.int kb), .val (.int c0), .val (.int c1), .val (.int la), .val (.int la), .val (.int b0), .val (.int b1), .val (.int lineB), .val (.int colB), .val (.ref r131), .val (.ref r133), .val (.ref b136), .val (.ref b147), .val (.int (((p0.toUInt32 >>> ((14 : Int32) &&& 31).toUInt32).toInt32) &&& (3 : Int32))), .unset, .unset] [])) _
      refine XS.iload X158.here hx rfl (hb hby at_229) rfl ?_
      show Steps p.tables e below (T158.setTop (mkF m 231 #[.val (.int p0), .val (.int p1), .val (.int p2), .val (.int p3), .val (.int p4), .val (.int p5), .val (.int ka), .val (.int kb), .val (.int c0), .val (.int c1), .val (.int la), .val (.int la), .val (.int b0), .val (.int b1), .val (.int lineB), .val (.int colB), .val (.ref r131), .val (.ref r133), .val (.ref b136), .val (.ref b147), .val (.int (((p0.toUInt32 >>> ((14 : Int32) &&& 31).toUInt32).toInt32) &&& (3 : Int32))), .unset, .unset] [(.int (((p0.toUInt32 >>> ((14 : Int32) &&& 31).toUInt32).toInt32) &&& (3 : Int32)))])) _
      refine XS.iconst X158.here hx rfl (hb hby at_231) ?_
      show Steps p.tables e below (T158.setTop (mkF m 232 #[.val (.int p0), .val (.int p1), .val (.int p2), .val (.int p3), .val (.int p4), .val (.int p5), .val (.int ka), .val (.int kb), .val (.int c0), .val (.int c1), .val (.int la), .val (.int la), .val (.int b0), .val (.int b1), .val (.int lineB), .val (.int colB), .val (.ref r131), .val (.ref r133), .val (.ref b136), .val (.ref b147), .val (.int (((p0.toUInt32 >>> ((14 : Int32) &&& 31).toUInt32).toInt32) &&& (3 : Int32))), .unset, .unset] [(.int (1 : Int32)), (.int (((p0.toUInt32 >>> ((14 : Int32) &&& 31).toUInt32).toInt32) &&& (3 : Int32)))])) _
      exact q)
    by_cases hc162 : (((p0.toUInt32 >>> ((14 : Int32) &&& 31).toUInt32).toInt32) &&& (3 : Int32)) = (1 : Int32)
    ·
      have K164 : Keep h0 T158.heap [] := (K155.trans K158 (allS (P := fun x => x ∈ ([] : List Addr) ∨ h0.size ≤ x) (Or.inr sz_b147) all0))
      have F165 := ((E144.ext E147).keep K158)
      obtain ⟨cq163, kq163, q163a, q163b, q163c⟩ := isOf hZ rfl F165
      obtain ⟨_, _, ⟨T163, L163, kk163, n163⟩, -, X163, ⟨Lc163, hQ163, l163, y163, z163⟩, st163⟩ := X158.virtualBack hx (y := (⟨"com/example/vetted_traces/vettedtraces/language/Token", "equals", "(Ljava/lang/Object;)Z"⟩ : MethodName)) (z := (⟨"com/example/vetted_traces/vettedtraces/language/Token", "equals", "(Ljava/lang/Object;)Z"⟩ : MethodName)) hown (mvT hZ (hw _ (List.mem_of_getElem? (i := 60) rfl))) (mvT hZ (hw _ (List.mem_of_getElem? (i := 61) rfl))) (notFace_of_selects (args := #[]) (mvT hZ (hw _ (List.mem_of_getElem? (i := 63) rfl)))) (mvT hZ (hw _ (List.mem_of_getElem? (i := 63) rfl))) (mvT hZ (hw _ (List.mem_of_getElem? (i := 62) rfl))) (by decide) (backOf (W := 0) (rmTN l Z a0 hw [] b136 T158.heap n0 (Nat.le_trans Z0 K164.1)) hZ (hw _ (List.mem_of_getElem? (i := 64) rfl)) (hw _ (List.mem_of_getElem? (i := 32) rfl)) (by decide) (by decide)) q163a q163c (g := (mkF m 238 #[.val (.int p0), .val (.int p1), .val (.int p2), .val (.int p3), .val (.int p4), .val (.int p5), .val (.int ka), .val (.int kb), .val (.int c0), .val (.int c1), .val (.int la), .val (.int la), .val (.int b0), .val (.int b1), .val (.int lineB), .val (.int colB), .val (.ref r131), .val (.ref r133), .val (.ref b136), .val (.ref b147), .val (.int (((p0.toUInt32 >>> ((14 : Int32) &&& 31).toUInt32).toInt32) &&& (3 : Int32))), .unset, .unset] [.null, (.ref b136)])) rfl (by rw [hml]; rfl) (Steps.refl _) (argsL := [.null]) (rest := []) (lenOf own_pd5 rfl) rfl (by show 2 * 0 + _ ≤ _; exact Nat.le_of_eq rfl) (hb hby at_238) (fun _ _ => ⟨rfl, rfl, (by decide : 22 + 0 ≤ _), (by decide : 112 + 0 ≤ _)⟩)
      dsimp only [Pt.U, Pt.locs, Pt.cells, Pt.slots] at X163 l163 y163 z163 st163 hQ163
      subst l163 y163 z163
      obtain ⟨rfl, N163q, e163⟩ := hQ163
      have N163 := Fr.app N158 N163q
      have k166 : own_To p e below T163 (mkF m 249 #[.val (.int p0), .val (.int p1), .val (.int p2), .val (.int p3), .val (.int p4), .val (.int p5), .val (.int ka), .val (.int kb), .val (.int c0), .val (.int c1), .val (.int la), .val (.int la), .val (.int b0), .val (.int b1), .val (.int lineB), .val (.int colB), .val (.ref r131), .val (.ref r133), .val (.ref b136), .val (.ref b147), .val (.int (((p0.toUInt32 >>> ((14 : Int32) &&& 31).toUInt32).toInt32) &&& (3 : Int32))), .unset, .unset] [(.int (1 : Int32))]) s₁ (mkF m 0 #[.val (.int p0), .val (.int p1), .val (.int p2), .val (.int p3), .val (.int p4), .val (.int p5), .unset, .unset, .unset, .unset, .unset, .unset, .unset, .unset, .unset, .unset, .unset, .unset, .unset, .unset, .unset, .unset, .unset] []) := fun t q => k161 t (by
        refine XS.icmpNo X158.here hx rfl (hb hby at_232) rfl (teq hc162).2 ?_
        show Steps p.tables e below (T158.setTop (mkF m 235 #[.val (.int p0), .val (.int p1), .val (.int p2), .val (.int p3), .val (.int p4), .val (.int p5), .val (.int ka), .val (.int kb), .val (.int c0), .val (.int c1), .val (.int la), .val (.int la), .val (.int b0), .val (.int b1), .val (.int lineB), .val (.int colB), .val (.ref r131), .val (.ref r133), .val (.ref b136), .val (.ref b147), .val (.int (((p0.toUInt32 >>> ((14 : Int32) &&& 31).toUInt32).toInt32) &&& (3 : Int32))), .unset, .unset] [])) _
        refine XS.aload X158.here hx rfl (hb hby at_235) rfl rfl ?_
        show Steps p.tables e below (T158.setTop (mkF m 237 #[.val (.int p0), .val (.int p1), .val (.int p2), .val (.int p3), .val (.int p4), .val (.int p5), .val (.int ka), .val (.int kb), .val (.int c0), .val (.int c1), .val (.int la), .val (.int la), .val (.int b0), .val (.int b1), .val (.int lineB), .val (.int colB), .val (.ref r131), .val (.ref r133), .val (.ref b136), .val (.ref b147), .val (.int (((p0.toUInt32 >>> ((14 : Int32) &&& 31).toUInt32).toInt32) &&& (3 : Int32))), .unset, .unset] [(.ref b136)])) _
        refine XS.aconstNull X158.here hx rfl (hb hby at_237) ?_
        show Steps p.tables e below (T158.setTop (mkF m 238 #[.val (.int p0), .val (.int p1), .val (.int p2), .val (.int p3), .val (.int p4), .val (.int p5), .val (.int ka), .val (.int kb), .val (.int c0), .val (.int c1), .val (.int la), .val (.int la), .val (.int b0), .val (.int b1), .val (.int lineB), .val (.int colB), .val (.ref r131), .val (.ref r133), .val (.ref b136), .val (.ref b147), .val (.int (((p0.toUInt32 >>> ((14 : Int32) &&& 31).toUInt32).toInt32) &&& (3 : Int32))), .unset, .unset] [.null, (.ref b136)])) _
        refine st163.trans ?_
        show Steps p.tables e below (T163.setTop (mkF m 241 #[.val (.int p0), .val (.int p1), .val (.int p2), .val (.int p3), .val (.int p4), .val (.int p5), .val (.int ka), .val (.int kb), .val (.int c0), .val (.int c1), .val (.int la), .val (.int la), .val (.int b0), .val (.int b1), .val (.int lineB), .val (.int colB), .val (.ref r131), .val (.ref r133), .val (.ref b136), .val (.ref b147), .val (.int (((p0.toUInt32 >>> ((14 : Int32) &&& 31).toUInt32).toInt32) &&& (3 : Int32))), .unset, .unset] [(.int (0 : Int32))])) _
        refine XS.ifNo X163.here hx rfl (hb hby at_241) rfl ((if0 _ _).trans (teq rfl).2) ?_
        show Steps p.tables e below (T163.setTop (mkF m 244 #[.val (.int p0), .val (.int p1), .val (.int p2), .val (.int p3), .val (.int p4), .val (.int p5), .val (.int ka), .val (.int kb), .val (.int c0), .val (.int c1), .val (.int la), .val (.int la), .val (.int b0), .val (.int b1), .val (.int lineB), .val (.int colB), .val (.ref r131), .val (.ref r133), .val (.ref b136), .val (.ref b147), .val (.int (((p0.toUInt32 >>> ((14 : Int32) &&& 31).toUInt32).toInt32) &&& (3 : Int32))), .unset, .unset] [])) _
        refine XS.iconst X163.here hx rfl (hb hby at_244) ?_
        show Steps p.tables e below (T163.setTop (mkF m 245 #[.val (.int p0), .val (.int p1), .val (.int p2), .val (.int p3), .val (.int p4), .val (.int p5), .val (.int ka), .val (.int kb), .val (.int c0), .val (.int c1), .val (.int la), .val (.int la), .val (.int b0), .val (.int b1), .val (.int lineB), .val (.int colB), .val (.ref r131), .val (.ref r133), .val (.ref b136), .val (.ref b147), .val (.int (((p0.toUInt32 >>> ((14 : Int32) &&& 31).toUInt32).toInt32) &&& (3 : Int32))), .unset, .unset] [(.int (1 : Int32))])) _
        refine XS.goto X163.here hx rfl (pc0 := 245) (pc' := 249) rfl (hb hby at_245) (by decide) (by decide) ?_
        show Steps p.tables e below (T163.setTop (mkF m 249 #[.val (.int p0), .val (.int p1), .val (.int p2), .val (.int p3), .val (.int p4), .val (.int p5), .val (.int ka), .val (.int kb), .val (.int c0), .val (.int c1), .val (.int la), .val (.int la), .val (.int b0), .val (.int b1), .val (.int lineB), .val (.int colB), .val (.ref r131), .val (.ref r133), .val (.ref b136), .val (.ref b147), .val (.int (((p0.toUInt32 >>> ((14 : Int32) &&& 31).toUInt32).toInt32) &&& (3 : Int32))), .unset, .unset] [(.int (1 : Int32))])) _
        exact q)
      have hCe := CRl158.trans (CHv.at (vm0 := T158.vm) X163 hZ hEL CHl158)
      obtain ⟨fs, hr, hrun, hended, hEnd⟩ := Stand.leaveW (s := s) (vm₁ := T158.vm) X163 hSn158 (by rw [e163]; exact (Nat.le_refl _)) (v := some (.int (1 : Int32))) (fun h => by rw [Bd.returns] at h; cases h)
      refine ⟨_, _, k0 _ (k166 _ ?_), hrun, hended, _, _, rfl, ?_, ?_, hEnd.1, hEnd.2.1, hEnd.2.2.1, hEnd.2.2.2.mono (by decide) (by decide)⟩
      · show Steps p.tables e below (T163.setTop (mkF m 249 #[.val (.int p0), .val (.int p1), .val (.int p2), .val (.int p3), .val (.int p4), .val (.int p5), .val (.int ka), .val (.int kb), .val (.int c0), .val (.int c1), .val (.int la), .val (.int la), .val (.int b0), .val (.int b1), .val (.int lineB), .val (.int colB), .val (.ref r131), .val (.ref r133), .val (.ref b136), .val (.ref b147), .val (.int (((p0.toUInt32 >>> ((14 : Int32) &&& 31).toUInt32).toInt32) &&& (3 : Int32))), .unset, .unset] [(.int (1 : Int32))])) _
        exact retN X163 hx (t := .boolean) Bd.returns (by simp) (hb hby at_249) hr
      · show Q0 Z p0 p1 p2 p3 p4 p5 en cs h0 n0 _ T163.heap _
        rw [e163]
        exact ⟨rfl, N163⟩
      · show CHr Z own_EL s.vm s.heap T163.vm T163.heap
        rw [hh, e163]; exact hCe
    ·
      have k167 : own_To p e below T158 (mkF m 253 #[.val (.int p0), .val (.int p1), .val (.int p2), .val (.int p3), .val (.int p4), .val (.int p5), .val (.int ka), .val (.int kb), .val (.int c0), .val (.int c1), .val (.int la), .val (.int la), .val (.int b0), .val (.int b1), .val (.int lineB), .val (.int colB), .val (.ref r131), .val (.ref r133), .val (.ref b136), .val (.ref b147), .val (.int (((p0.toUInt32 >>> ((14 : Int32) &&& 31).toUInt32).toInt32) &&& (3 : Int32))), .unset, .unset] [(.int (2 : Int32)), (.int (((p0.toUInt32 >>> ((14 : Int32) &&& 31).toUInt32).toInt32) &&& (3 : Int32)))]) s₁ (mkF m 0 #[.val (.int p0), .val (.int p1), .val (.int p2), .val (.int p3), .val (.int p4), .val (.int p5), .unset, .unset, .unset, .unset, .unset, .unset, .unset, .unset, .unset, .unset, .unset, .unset, .unset, .unset, .unset, .unset, .unset] []) := fun t q => k161 t (by
        refine XS.icmpYes X158.here hx rfl (pc0 := 232) (pc' := 250) rfl (hb hby at_232) rfl (feq hc162).2 (by decide) (by decide) ?_
        show Steps p.tables e below (T158.setTop (mkF m 250 #[.val (.int p0), .val (.int p1), .val (.int p2), .val (.int p3), .val (.int p4), .val (.int p5), .val (.int ka), .val (.int kb), .val (.int c0), .val (.int c1), .val (.int la), .val (.int la), .val (.int b0), .val (.int b1), .val (.int lineB), .val (.int colB), .val (.ref r131), .val (.ref r133), .val (.ref b136), .val (.ref b147), .val (.int (((p0.toUInt32 >>> ((14 : Int32) &&& 31).toUInt32).toInt32) &&& (3 : Int32))), .unset, .unset] [])) _
        refine XS.iload X158.here hx rfl (hb hby at_250) rfl ?_
        show Steps p.tables e below (T158.setTop (mkF m 252 #[.val (.int p0), .val (.int p1), .val (.int p2), .val (.int p3), .val (.int p4), .val (.int p5), .val (.int ka), .val (.int kb), .val (.int c0), .val (.int c1), .val (.int la), .val (.int la), .val (.int b0), .val (.int b1), .val (.int lineB), .val (.int colB), .val (.ref r131), .val (.ref r133), .val (.ref b136), .val (.ref b147), .val (.int (((p0.toUInt32 >>> ((14 : Int32) &&& 31).toUInt32).toInt32) &&& (3 : Int32))), .unset, .unset] [(.int (((p0.toUInt32 >>> ((14 : Int32) &&& 31).toUInt32).toInt32) &&& (3 : Int32)))])) _
        refine XS.iconst X158.here hx rfl (hb hby at_252) ?_
        show Steps p.tables e below (T158.setTop (mkF m 253 #[.val (.int p0), .val (.int p1), .val (.int p2), .val (.int p3), .val (.int p4), .val (.int p5), .val (.int ka), .val (.int kb), .val (.int c0), .val (.int c1), .val (.int la), .val (.int la), .val (.int b0), .val (.int b1), .val (.int lineB), .val (.int colB), .val (.ref r131), .val (.ref r133), .val (.ref b136), .val (.ref b147), .val (.int (((p0.toUInt32 >>> ((14 : Int32) &&& 31).toUInt32).toInt32) &&& (3 : Int32))), .unset, .unset] [(.int (2 : Int32)), (.int (((p0.toUInt32 >>> ((14 : Int32) &&& 31).toUInt32).toInt32) &&& (3 : Int32)))])) _
        exact q)
      by_cases hc168 : (((p0.toUInt32 >>> ((14 : Int32) &&& 31).toUInt32).toInt32) &&& (3 : Int32)) = (2 : Int32)
      ·
        have K170 : Keep h0 T158.heap [] := (K155.trans K158 (allS (P := fun x => x ∈ ([] : List Addr) ∨ h0.size ≤ x) (Or.inr sz_b147) all0))
        have F171 := (F160.keep K158)
        have F172 := ((E144.ext E147).keep K158)
        obtain ⟨cq169, kq169, q169a, q169b, q169c⟩ := isOf hZ rfl F172
        obtain ⟨_, _, ⟨T169, L169, kk169, n169⟩, -, X169, ⟨Lc169, hQ169, l169, y169, z169⟩, st169⟩ := X158.virtualBack hx (y := (⟨"com/example/vetted_traces/vettedtraces/language/Token", "equals", "(Ljava/lang/Object;)Z"⟩ : MethodName)) (z := (⟨"com/example/vetted_traces/vettedtraces/language/Token", "equals", "(Ljava/lang/Object;)Z"⟩ : MethodName)) hown (mvT hZ (hw _ (List.mem_of_getElem? (i := 60) rfl))) (mvT hZ (hw _ (List.mem_of_getElem? (i := 61) rfl))) (notFace_of_selects (args := #[]) (mvT hZ (hw _ (List.mem_of_getElem? (i := 63) rfl)))) (mvT hZ (hw _ (List.mem_of_getElem? (i := 63) rfl))) (mvT hZ (hw _ (List.mem_of_getElem? (i := 62) rfl))) (by decide) (backOf (W := 0) (rmTS l Z a0 hw [] b136 r133 T158.heap n0 (Nat.le_trans Z0 K170.1) F171) hZ (hw _ (List.mem_of_getElem? (i := 64) rfl)) (hw _ (List.mem_of_getElem? (i := 32) rfl)) (by decide) (by decide)) q169a q169c (g := (mkF m 264 #[.val (.int p0), .val (.int p1), .val (.int p2), .val (.int p3), .val (.int p4), .val (.int p5), .val (.int ka), .val (.int kb), .val (.int c0), .val (.int c1), .val (.int la), .val (.int la), .val (.int b0), .val (.int b1), .val (.int lineB), .val (.int colB), .val (.ref r131), .val (.ref r133), .val (.ref b136), .val (.ref b147), .val (.int (((p0.toUInt32 >>> ((14 : Int32) &&& 31).toUInt32).toInt32) &&& (3 : Int32))), .val (.ref r133), .unset] [(.ref r133), (.ref b136)])) rfl (by rw [hml]; rfl) (Steps.refl _) (argsL := [(.ref r133)]) (rest := []) (lenOf own_pd5 rfl) rfl (by show 2 * 0 + _ ≤ _; exact Nat.le_of_eq rfl) (hb hby at_264) (fun _ _ => ⟨rfl, rfl, (by decide : 22 + 0 ≤ _), (by decide : 112 + 0 ≤ _)⟩)
        dsimp only [Pt.U, Pt.locs, Pt.cells, Pt.slots] at X169 l169 y169 z169 st169 hQ169
        subst l169 y169 z169
        obtain ⟨rfl, N169q, e169⟩ := hQ169
        have N169 := Fr.app N158 N169q
        have k173 : own_To p e below T169 (mkF m 275 #[.val (.int p0), .val (.int p1), .val (.int p2), .val (.int p3), .val (.int p4), .val (.int p5), .val (.int ka), .val (.int kb), .val (.int c0), .val (.int c1), .val (.int la), .val (.int la), .val (.int b0), .val (.int b1), .val (.int lineB), .val (.int colB), .val (.ref r131), .val (.ref r133), .val (.ref b136), .val (.ref b147), .val (.int (((p0.toUInt32 >>> ((14 : Int32) &&& 31).toUInt32).toInt32) &&& (3 : Int32))), .val (.ref r133), .unset] [(.int (1 : Int32))]) s₁ (mkF m 0 #[.val (.int p0), .val (.int p1), .val (.int p2), .val (.int p3), .val (.int p4), .val (.int p5), .unset, .unset, .unset, .unset, .unset, .unset, .unset, .unset, .unset, .unset, .unset, .unset, .unset, .unset, .unset, .unset, .unset] []) := fun t q => k167 t (by
          refine XS.icmpNo X158.here hx rfl (hb hby at_253) rfl (teq hc168).2 ?_
          show Steps p.tables e below (T158.setTop (mkF m 256 #[.val (.int p0), .val (.int p1), .val (.int p2), .val (.int p3), .val (.int p4), .val (.int p5), .val (.int ka), .val (.int kb), .val (.int c0), .val (.int c1), .val (.int la), .val (.int la), .val (.int b0), .val (.int b1), .val (.int lineB), .val (.int colB), .val (.ref r131), .val (.ref r133), .val (.ref b136), .val (.ref b147), .val (.int (((p0.toUInt32 >>> ((14 : Int32) &&& 31).toUInt32).toInt32) &&& (3 : Int32))), .unset, .unset] [])) _
          refine XS.aload X158.here hx rfl (hb hby at_256) rfl rfl ?_
          show Steps p.tables e below (T158.setTop (mkF m 258 #[.val (.int p0), .val (.int p1), .val (.int p2), .val (.int p3), .val (.int p4), .val (.int p5), .val (.int ka), .val (.int kb), .val (.int c0), .val (.int c1), .val (.int la), .val (.int la), .val (.int b0), .val (.int b1), .val (.int lineB), .val (.int colB), .val (.ref r131), .val (.ref r133), .val (.ref b136), .val (.ref b147), .val (.int (((p0.toUInt32 >>> ((14 : Int32) &&& 31).toUInt32).toInt32) &&& (3 : Int32))), .unset, .unset] [(.ref r133)])) _
          refine XS.astore X158.here hx rfl (hb hby at_258) rfl rfl (l' := #[.val (.int p0), .val (.int p1), .val (.int p2), .val (.int p3), .val (.int p4), .val (.int p5), .val (.int ka), .val (.int kb), .val (.int c0), .val (.int c1), .val (.int la), .val (.int la), .val (.int b0), .val (.int b1), .val (.int lineB), .val (.int colB), .val (.ref r131), .val (.ref r133), .val (.ref b136), .val (.ref b147), .val (.int (((p0.toUInt32 >>> ((14 : Int32) &&& 31).toUInt32).toInt32) &&& (3 : Int32))), .val (.ref r133), .unset]) rfl ?_
          show Steps p.tables e below (T158.setTop (mkF m 260 #[.val (.int p0), .val (.int p1), .val (.int p2), .val (.int p3), .val (.int p4), .val (.int p5), .val (.int ka), .val (.int kb), .val (.int c0), .val (.int c1), .val (.int la), .val (.int la), .val (.int b0), .val (.int b1), .val (.int lineB), .val (.int colB), .val (.ref r131), .val (.ref r133), .val (.ref b136), .val (.ref b147), .val (.int (((p0.toUInt32 >>> ((14 : Int32) &&& 31).toUInt32).toInt32) &&& (3 : Int32))), .val (.ref r133), .unset] [])) _
          refine XS.aload X158.here hx rfl (hb hby at_260) rfl rfl ?_
          show Steps p.tables e below (T158.setTop (mkF m 262 #[.val (.int p0), .val (.int p1), .val (.int p2), .val (.int p3), .val (.int p4), .val (.int p5), .val (.int ka), .val (.int kb), .val (.int c0), .val (.int c1), .val (.int la), .val (.int la), .val (.int b0), .val (.int b1), .val (.int lineB), .val (.int colB), .val (.ref r131), .val (.ref r133), .val (.ref b136), .val (.ref b147), .val (.int (((p0.toUInt32 >>> ((14 : Int32) &&& 31).toUInt32).toInt32) &&& (3 : Int32))), .val (.ref r133), .unset] [(.ref b136)])) _
          refine XS.aload X158.here hx rfl (hb hby at_262) rfl rfl ?_
          show Steps p.tables e below (T158.setTop (mkF m 264 #[.val (.int p0), .val (.int p1), .val (.int p2), .val (.int p3), .val (.int p4), .val (.int p5), .val (.int ka), .val (.int kb), .val (.int c0), .val (.int c1), .val (.int la), .val (.int la), .val (.int b0), .val (.int b1), .val (.int lineB), .val (.int colB), .val (.ref r131), .val (.ref r133), .val (.ref b136), .val (.ref b147), .val (.int (((p0.toUInt32 >>> ((14 : Int32) &&& 31).toUInt32).toInt32) &&& (3 : Int32))), .val (.ref r133), .unset] [(.ref r133), (.ref b136)])) _
          refine st169.trans ?_
          show Steps p.tables e below (T169.setTop (mkF m 267 #[.val (.int p0), .val (.int p1), .val (.int p2), .val (.int p3), .val (.int p4), .val (.int p5), .val (.int ka), .val (.int kb), .val (.int c0), .val (.int c1), .val (.int la), .val (.int la), .val (.int b0), .val (.int b1), .val (.int lineB), .val (.int colB), .val (.ref r131), .val (.ref r133), .val (.ref b136), .val (.ref b147), .val (.int (((p0.toUInt32 >>> ((14 : Int32) &&& 31).toUInt32).toInt32) &&& (3 : Int32))), .val (.ref r133), .unset] [(.int (0 : Int32))])) _
          refine XS.ifNo X169.here hx rfl (hb hby at_267) rfl ((if0 _ _).trans (teq rfl).2) ?_
          show Steps p.tables e below (T169.setTop (mkF m 270 #[.val (.int p0), .val (.int p1), .val (.int p2), .val (.int p3), .val (.int p4), .val (.int p5), .val (.int ka), .val (.int kb), .val (.int c0), .val (.int c1), .val (.int la), .val (.int la), .val (.int b0), .val (.int b1), .val (.int lineB), .val (.int colB), .val (.ref r131), .val (.ref r133), .val (.ref b136), .val (.ref b147), .val (.int (((p0.toUInt32 >>> ((14 : Int32) &&& 31).toUInt32).toInt32) &&& (3 : Int32))), .val (.ref r133), .unset] [])) _
          refine XS.iconst X169.here hx rfl (hb hby at_270) ?_
          show Steps p.tables e below (T169.setTop (mkF m 271 #[.val (.int p0), .val (.int p1), .val (.int p2), .val (.int p3), .val (.int p4), .val (.int p5), .val (.int ka), .val (.int kb), .val (.int c0), .val (.int c1), .val (.int la), .val (.int la), .val (.int b0), .val (.int b1), .val (.int lineB), .val (.int colB), .val (.ref r131), .val (.ref r133), .val (.ref b136), .val (.ref b147), .val (.int (((p0.toUInt32 >>> ((14 : Int32) &&& 31).toUInt32).toInt32) &&& (3 : Int32))), .val (.ref r133), .unset] [(.int (1 : Int32))])) _
          refine XS.goto X169.here hx rfl (pc0 := 271) (pc' := 275) rfl (hb hby at_271) (by decide) (by decide) ?_
          show Steps p.tables e below (T169.setTop (mkF m 275 #[.val (.int p0), .val (.int p1), .val (.int p2), .val (.int p3), .val (.int p4), .val (.int p5), .val (.int ka), .val (.int kb), .val (.int c0), .val (.int c1), .val (.int la), .val (.int la), .val (.int b0), .val (.int b1), .val (.int lineB), .val (.int colB), .val (.ref r131), .val (.ref r133), .val (.ref b136), .val (.ref b147), .val (.int (((p0.toUInt32 >>> ((14 : Int32) &&& 31).toUInt32).toInt32) &&& (3 : Int32))), .val (.ref r133), .unset] [(.int (1 : Int32))])) _
          exact q)
        have hCe := CRl158.trans (CHv.at (vm0 := T158.vm) X169 hZ hEL CHl158)
        obtain ⟨fs, hr, hrun, hended, hEnd⟩ := Stand.leaveW (s := s) (vm₁ := T158.vm) X169 hSn158 (by rw [e169]; exact (Nat.le_refl _)) (v := some (.int (1 : Int32))) (fun h => by rw [Bd.returns] at h; cases h)
        refine ⟨_, _, k0 _ (k173 _ ?_), hrun, hended, _, _, rfl, ?_, ?_, hEnd.1, hEnd.2.1, hEnd.2.2.1, hEnd.2.2.2.mono (by decide) (by decide)⟩
        · show Steps p.tables e below (T169.setTop (mkF m 275 #[.val (.int p0), .val (.int p1), .val (.int p2), .val (.int p3), .val (.int p4), .val (.int p5), .val (.int ka), .val (.int kb), .val (.int c0), .val (.int c1), .val (.int la), .val (.int la), .val (.int b0), .val (.int b1), .val (.int lineB), .val (.int colB), .val (.ref r131), .val (.ref r133), .val (.ref b136), .val (.ref b147), .val (.int (((p0.toUInt32 >>> ((14 : Int32) &&& 31).toUInt32).toInt32) &&& (3 : Int32))), .val (.ref r133), .unset] [(.int (1 : Int32))])) _
          exact retN X169 hx (t := .boolean) Bd.returns (by simp) (hb hby at_275) hr
        · show Q0 Z p0 p1 p2 p3 p4 p5 en cs h0 n0 _ T169.heap _
          rw [e169]
          exact ⟨rfl, N169⟩
        · show CHr Z own_EL s.vm s.heap T169.vm T169.heap
          rw [hh, e169]; exact hCe
      ·
        have k174 : own_To p e below T158 (mkF m 280 #[.val (.int p0), .val (.int p1), .val (.int p2), .val (.int p3), .val (.int p4), .val (.int p5), .val (.int ka), .val (.int kb), .val (.int c0), .val (.int c1), .val (.int la), .val (.int la), .val (.int b0), .val (.int b1), .val (.int lineB), .val (.int colB), .val (.ref r131), .val (.ref r133), .val (.ref b136), .val (.ref b147), .val (.int (((p0.toUInt32 >>> ((14 : Int32) &&& 31).toUInt32).toInt32) &&& (3 : Int32))), .unset, .unset] [(.int la), (.int la)]) s₁ (mkF m 0 #[.val (.int p0), .val (.int p1), .val (.int p2), .val (.int p3), .val (.int p4), .val (.int p5), .unset, .unset, .unset, .unset, .unset, .unset, .unset, .unset, .unset, .unset, .unset, .unset, .unset, .unset, .unset, .unset, .unset] []) := fun t q => k167 t (by
          refine XS.icmpYes X158.here hx rfl (pc0 := 253) (pc' := 276) rfl (hb hby at_253) rfl (feq hc168).2 (by decide) (by decide) ?_
          show Steps p.tables e below (T158.setTop (mkF m 276 #[.val (.int p0), .val (.int p1), .val (.int p2), .val (.int p3), .val (.int p4), .val (.int p5), .val (.int ka), .val (.int kb), .val (.int c0), .val (.int c1), .val (.int la), .val (.int la), .val (.int b0), .val (.int b1), .val (.int lineB), .val (.int colB), .val (.ref r131), .val (.ref r133), .val (.ref b136), .val (.ref b147), .val (.int (((p0.toUInt32 >>> ((14 : Int32) &&& 31).toUInt32).toInt32) &&& (3 : Int32))), .unset, .unset] [])) _
          refine XS.iload X158.here hx rfl (hb hby at_276) rfl ?_
          show Steps p.tables e below (T158.setTop (mkF m 278 #[.val (.int p0), .val (.int p1), .val (.int p2), .val (.int p3), .val (.int p4), .val (.int p5), .val (.int ka), .val (.int kb), .val (.int c0), .val (.int c1), .val (.int la), .val (.int la), .val (.int b0), .val (.int b1), .val (.int lineB), .val (.int colB), .val (.ref r131), .val (.ref r133), .val (.ref b136), .val (.ref b147), .val (.int (((p0.toUInt32 >>> ((14 : Int32) &&& 31).toUInt32).toInt32) &&& (3 : Int32))), .unset, .unset] [(.int la)])) _
          refine XS.iload X158.here hx rfl (hb hby at_278) rfl ?_
          show Steps p.tables e below (T158.setTop (mkF m 280 #[.val (.int p0), .val (.int p1), .val (.int p2), .val (.int p3), .val (.int p4), .val (.int p5), .val (.int ka), .val (.int kb), .val (.int c0), .val (.int c1), .val (.int la), .val (.int la), .val (.int b0), .val (.int b1), .val (.int lineB), .val (.int colB), .val (.ref r131), .val (.ref r133), .val (.ref b136), .val (.ref b147), .val (.int (((p0.toUInt32 >>> ((14 : Int32) &&& 31).toUInt32).toInt32) &&& (3 : Int32))), .unset, .unset] [(.int la), (.int la)])) _
          exact q)
        obtain ⟨te_, hte_, k182⟩ : ∃ (te_ : Int32), (te_ = (if la = la then (if la < (1 : Int32) then (if la < (2 : Int32) then (1 : Int32) else (if c1 = b1 then (1 : Int32) else (0 : Int32))) else (if c0 = b0 then (if la < (2 : Int32) then (1 : Int32) else (if c1 = b1 then (1 : Int32) else (0 : Int32))) else (0 : Int32))) else (0 : Int32))) ∧ own_To p e below T158 (mkF m 314 #[.val (.int p0), .val (.int p1), .val (.int p2), .val (.int p3), .val (.int p4), .val (.int p5), .val (.int ka), .val (.int kb), .val (.int c0), .val (.int c1), .val (.int la), .val (.int la), .val (.int b0), .val (.int b1), .val (.int lineB), .val (.int colB), .val (.ref r131), .val (.ref r133), .val (.ref b136), .val (.ref b147), .val (.int (((p0.toUInt32 >>> ((14 : Int32) &&& 31).toUInt32).toInt32) &&& (3 : Int32))), .unset, .unset] [(.int te_)]) s₁ (mkF m 0 #[.val (.int p0), .val (.int p1), .val (.int p2), .val (.int p3), .val (.int p4), .val (.int p5), .unset, .unset, .unset, .unset, .unset, .unset, .unset, .unset, .unset, .unset, .unset, .unset, .unset, .unset, .unset, .unset, .unset] []) := by
          by_cases hm175 : la = la
          ·
            by_cases hm176 : la < (1 : Int32)
            ·
              by_cases hm177 : la < (2 : Int32)
              ·
                refine ⟨(1 : Int32), by rw [if_pos hm175, if_pos hm176, if_pos hm177], fun t q => k174 t (?_)⟩
                refine XS.icmpNo X158.here hx rfl (hb hby at_280) rfl (teq hm175).2 ?_
                show Steps p.tables e below (T158.setTop (mkF m 283 #[.val (.int p0), .val (.int p1), .val (.int p2), .val (.int p3), .val (.int p4), .val (.int p5), .val (.int ka), .val (.int kb), .val (.int c0), .val (.int c1), .val (.int la), .val (.int la), .val (.int b0), .val (.int b1), .val (.int lineB), .val (.int colB), .val (.ref r131), .val (.ref r133), .val (.ref b136), .val (.ref b147), .val (.int (((p0.toUInt32 >>> ((14 : Int32) &&& 31).toUInt32).toInt32) &&& (3 : Int32))), .unset, .unset] [])) _
                refine XS.iload X158.here hx rfl (hb hby at_283) rfl ?_
                show Steps p.tables e below (T158.setTop (mkF m 285 #[.val (.int p0), .val (.int p1), .val (.int p2), .val (.int p3), .val (.int p4), .val (.int p5), .val (.int ka), .val (.int kb), .val (.int c0), .val (.int c1), .val (.int la), .val (.int la), .val (.int b0), .val (.int b1), .val (.int lineB), .val (.int colB), .val (.ref r131), .val (.ref r133), .val (.ref b136), .val (.ref b147), .val (.int (((p0.toUInt32 >>> ((14 : Int32) &&& 31).toUInt32).toInt32) &&& (3 : Int32))), .unset, .unset] [(.int la)])) _
                refine XS.iconst X158.here hx rfl (hb hby at_285) ?_
                show Steps p.tables e below (T158.setTop (mkF m 286 #[.val (.int p0), .val (.int p1), .val (.int p2), .val (.int p3), .val (.int p4), .val (.int p5), .val (.int ka), .val (.int kb), .val (.int c0), .val (.int c1), .val (.int la), .val (.int la), .val (.int b0), .val (.int b1), .val (.int lineB), .val (.int colB), .val (.ref r131), .val (.ref r133), .val (.ref b136), .val (.ref b147), .val (.int (((p0.toUInt32 >>> ((14 : Int32) &&& 31).toUInt32).toInt32) &&& (3 : Int32))), .unset, .unset] [(.int (1 : Int32)), (.int la)])) _
                refine XS.icmpYes X158.here hx rfl (pc0 := 286) (pc' := 296) rfl (hb hby at_286) rfl (tlt hm176).1 (by decide) (by decide) ?_
                show Steps p.tables e below (T158.setTop (mkF m 296 #[.val (.int p0), .val (.int p1), .val (.int p2), .val (.int p3), .val (.int p4), .val (.int p5), .val (.int ka), .val (.int kb), .val (.int c0), .val (.int c1), .val (.int la), .val (.int la), .val (.int b0), .val (.int b1), .val (.int lineB), .val (.int colB), .val (.ref r131), .val (.ref r133), .val (.ref b136), .val (.ref b147), .val (.int (((p0.toUInt32 >>> ((14 : Int32) &&& 31).toUInt32).toInt32) &&& (3 : Int32))), .unset, .unset] [])) _
                refine XS.iload X158.here hx rfl (hb hby at_296) rfl ?_
                show Steps p.tables e below (T158.setTop (mkF m 298 #[.val (.int p0), .val (.int p1), .val (.int p2), .val (.int p3), .val (.int p4), .val (.int p5), .val (.int ka), .val (.int kb), .val (.int c0), .val (.int c1), .val (.int la), .val (.int la), .val (.int b0), .val (.int b1), .val (.int lineB), .val (.int colB), .val (.ref r131), .val (.ref r133), .val (.ref b136), .val (.ref b147), .val (.int (((p0.toUInt32 >>> ((14 : Int32) &&& 31).toUInt32).toInt32) &&& (3 : Int32))), .unset, .unset] [(.int la)])) _
                refine XS.iconst X158.here hx rfl (hb hby at_298) ?_
                show Steps p.tables e below (T158.setTop (mkF m 299 #[.val (.int p0), .val (.int p1), .val (.int p2), .val (.int p3), .val (.int p4), .val (.int p5), .val (.int ka), .val (.int kb), .val (.int c0), .val (.int c1), .val (.int la), .val (.int la), .val (.int b0), .val (.int b1), .val (.int lineB), .val (.int colB), .val (.ref r131), .val (.ref r133), .val (.ref b136), .val (.ref b147), .val (.int (((p0.toUInt32 >>> ((14 : Int32) &&& 31).toUInt32).toInt32) &&& (3 : Int32))), .unset, .unset] [(.int (2 : Int32)), (.int la)])) _
                refine XS.icmpYes X158.here hx rfl (pc0 := 299) (pc' := 309) rfl (hb hby at_299) rfl (tlt hm177).1 (by decide) (by decide) ?_
                show Steps p.tables e below (T158.setTop (mkF m 309 #[.val (.int p0), .val (.int p1), .val (.int p2), .val (.int p3), .val (.int p4), .val (.int p5), .val (.int ka), .val (.int kb), .val (.int c0), .val (.int c1), .val (.int la), .val (.int la), .val (.int b0), .val (.int b1), .val (.int lineB), .val (.int colB), .val (.ref r131), .val (.ref r133), .val (.ref b136), .val (.ref b147), .val (.int (((p0.toUInt32 >>> ((14 : Int32) &&& 31).toUInt32).toInt32) &&& (3 : Int32))), .unset, .unset] [])) _
                refine XS.iconst X158.here hx rfl (hb hby at_309) ?_
                show Steps p.tables e below (T158.setTop (mkF m 310 #[.val (.int p0), .val (.int p1), .val (.int p2), .val (.int p3), .val (.int p4), .val (.int p5), .val (.int ka), .val (.int kb), .val (.int c0), .val (.int c1), .val (.int la), .val (.int la), .val (.int b0), .val (.int b1), .val (.int lineB), .val (.int colB), .val (.ref r131), .val (.ref r133), .val (.ref b136), .val (.ref b147), .val (.int (((p0.toUInt32 >>> ((14 : Int32) &&& 31).toUInt32).toInt32) &&& (3 : Int32))), .unset, .unset] [(.int (1 : Int32))])) _
                refine XS.goto X158.here hx rfl (pc0 := 310) (pc' := 314) rfl (hb hby at_310) (by decide) (by decide) ?_
                show Steps p.tables e below (T158.setTop (mkF m 314 #[.val (.int p0), .val (.int p1), .val (.int p2), .val (.int p3), .val (.int p4), .val (.int p5), .val (.int ka), .val (.int kb), .val (.int c0), .val (.int c1), .val (.int la), .val (.int la), .val (.int b0), .val (.int b1), .val (.int lineB), .val (.int colB), .val (.ref r131), .val (.ref r133), .val (.ref b136), .val (.ref b147), .val (.int (((p0.toUInt32 >>> ((14 : Int32) &&& 31).toUInt32).toInt32) &&& (3 : Int32))), .unset, .unset] [(.int (1 : Int32))])) _
                exact q
              ·
                by_cases hm178 : c1 = b1
                ·
                  refine ⟨(1 : Int32), by rw [if_pos hm175, if_pos hm176, if_neg hm177, if_pos hm178], fun t q => k174 t (?_)⟩
                  refine XS.icmpNo X158.here hx rfl (hb hby at_280) rfl (teq hm175).2 ?_
                  show Steps p.tables e below (T158.setTop (mkF m 283 #[.val (.int p0), .val (.int p1), .val (.int p2), .val (.int p3), .val (.int p4), .val (.int p5), .val (.int ka), .val (.int kb), .val (.int c0), .val (.int c1), .val (.int la), .val (.int la), .val (.int b0), .val (.int b1), .val (.int lineB), .val (.int colB), .val (.ref r131), .val (.ref r133), .val (.ref b136), .val (.ref b147), .val (.int (((p0.toUInt32 >>> ((14 : Int32) &&& 31).toUInt32).toInt32) &&& (3 : Int32))), .unset, .unset] [])) _
                  refine XS.iload X158.here hx rfl (hb hby at_283) rfl ?_
                  show Steps p.tables e below (T158.setTop (mkF m 285 #[.val (.int p0), .val (.int p1), .val (.int p2), .val (.int p3), .val (.int p4), .val (.int p5), .val (.int ka), .val (.int kb), .val (.int c0), .val (.int c1), .val (.int la), .val (.int la), .val (.int b0), .val (.int b1), .val (.int lineB), .val (.int colB), .val (.ref r131), .val (.ref r133), .val (.ref b136), .val (.ref b147), .val (.int (((p0.toUInt32 >>> ((14 : Int32) &&& 31).toUInt32).toInt32) &&& (3 : Int32))), .unset, .unset] [(.int la)])) _
                  refine XS.iconst X158.here hx rfl (hb hby at_285) ?_
                  show Steps p.tables e below (T158.setTop (mkF m 286 #[.val (.int p0), .val (.int p1), .val (.int p2), .val (.int p3), .val (.int p4), .val (.int p5), .val (.int ka), .val (.int kb), .val (.int c0), .val (.int c1), .val (.int la), .val (.int la), .val (.int b0), .val (.int b1), .val (.int lineB), .val (.int colB), .val (.ref r131), .val (.ref r133), .val (.ref b136), .val (.ref b147), .val (.int (((p0.toUInt32 >>> ((14 : Int32) &&& 31).toUInt32).toInt32) &&& (3 : Int32))), .unset, .unset] [(.int (1 : Int32)), (.int la)])) _
                  refine XS.icmpYes X158.here hx rfl (pc0 := 286) (pc' := 296) rfl (hb hby at_286) rfl (tlt hm176).1 (by decide) (by decide) ?_
                  show Steps p.tables e below (T158.setTop (mkF m 296 #[.val (.int p0), .val (.int p1), .val (.int p2), .val (.int p3), .val (.int p4), .val (.int p5), .val (.int ka), .val (.int kb), .val (.int c0), .val (.int c1), .val (.int la), .val (.int la), .val (.int b0), .val (.int b1), .val (.int lineB), .val (.int colB), .val (.ref r131), .val (.ref r133), .val (.ref b136), .val (.ref b147), .val (.int (((p0.toUInt32 >>> ((14 : Int32) &&& 31).toUInt32).toInt32) &&& (3 : Int32))), .unset, .unset] [])) _
                  refine XS.iload X158.here hx rfl (hb hby at_296) rfl ?_
                  show Steps p.tables e below (T158.setTop (mkF m 298 #[.val (.int p0), .val (.int p1), .val (.int p2), .val (.int p3), .val (.int p4), .val (.int p5), .val (.int ka), .val (.int kb), .val (.int c0), .val (.int c1), .val (.int la), .val (.int la), .val (.int b0), .val (.int b1), .val (.int lineB), .val (.int colB), .val (.ref r131), .val (.ref r133), .val (.ref b136), .val (.ref b147), .val (.int (((p0.toUInt32 >>> ((14 : Int32) &&& 31).toUInt32).toInt32) &&& (3 : Int32))), .unset, .unset] [(.int la)])) _
                  refine XS.iconst X158.here hx rfl (hb hby at_298) ?_
                  show Steps p.tables e below (T158.setTop (mkF m 299 #[.val (.int p0), .val (.int p1), .val (.int p2), .val (.int p3), .val (.int p4), .val (.int p5), .val (.int ka), .val (.int kb), .val (.int c0), .val (.int c1), .val (.int la), .val (.int la), .val (.int b0), .val (.int b1), .val (.int lineB), .val (.int colB), .val (.ref r131), .val (.ref r133), .val (.ref b136), .val (.ref b147), .val (.int (((p0.toUInt32 >>> ((14 : Int32) &&& 31).toUInt32).toInt32) &&& (3 : Int32))), .unset, .unset] [(.int (2 : Int32)), (.int la)])) _
                  refine XS.icmpNo X158.here hx rfl (hb hby at_299) rfl (flt hm177).1 ?_
                  show Steps p.tables e below (T158.setTop (mkF m 302 #[.val (.int p0), .val (.int p1), .val (.int p2), .val (.int p3), .val (.int p4), .val (.int p5), .val (.int ka), .val (.int kb), .val (.int c0), .val (.int c1), .val (.int la), .val (.int la), .val (.int b0), .val (.int b1), .val (.int lineB), .val (.int colB), .val (.ref r131), .val (.ref r133), .val (.ref b136), .val (.ref b147), .val (.int (((p0.toUInt32 >>> ((14 : Int32) &&& 31).toUInt32).toInt32) &&& (3 : Int32))), .unset, .unset] [])) _
                  refine XS.iload X158.here hx rfl (hb hby at_302) rfl ?_
                  show Steps p.tables e below (T158.setTop (mkF m 304 #[.val (.int p0), .val (.int p1), .val (.int p2), .val (.int p3), .val (.int p4), .val (.int p5), .val (.int ka), .val (.int kb), .val (.int c0), .val (.int c1), .val (.int la), .val (.int la), .val (.int b0), .val (.int b1), .val (.int lineB), .val (.int colB), .val (.ref r131), .val (.ref r133), .val (.ref b136), .val (.ref b147), .val (.int (((p0.toUInt32 >>> ((14 : Int32) &&& 31).toUInt32).toInt32) &&& (3 : Int32))), .unset, .unset] [(.int c1)])) _
                  refine XS.iload X158.here hx rfl (hb hby at_304) rfl ?_
                  show Steps p.tables e below (T158.setTop (mkF m 306 #[.val (.int p0), .val (.int p1), .val (.int p2), .val (.int p3), .val (.int p4), .val (.int p5), .val (.int ka), .val (.int kb), .val (.int c0), .val (.int c1), .val (.int la), .val (.int la), .val (.int b0), .val (.int b1), .val (.int lineB), .val (.int colB), .val (.ref r131), .val (.ref r133), .val (.ref b136), .val (.ref b147), .val (.int (((p0.toUInt32 >>> ((14 : Int32) &&& 31).toUInt32).toInt32) &&& (3 : Int32))), .unset, .unset] [(.int b1), (.int c1)])) _
                  refine XS.icmpNo X158.here hx rfl (hb hby at_306) rfl (teq hm178).2 ?_
                  show Steps p.tables e below (T158.setTop (mkF m 309 #[.val (.int p0), .val (.int p1), .val (.int p2), .val (.int p3), .val (.int p4), .val (.int p5), .val (.int ka), .val (.int kb), .val (.int c0), .val (.int c1), .val (.int la), .val (.int la), .val (.int b0), .val (.int b1), .val (.int lineB), .val (.int colB), .val (.ref r131), .val (.ref r133), .val (.ref b136), .val (.ref b147), .val (.int (((p0.toUInt32 >>> ((14 : Int32) &&& 31).toUInt32).toInt32) &&& (3 : Int32))), .unset, .unset] [])) _
                  refine XS.iconst X158.here hx rfl (hb hby at_309) ?_
                  show Steps p.tables e below (T158.setTop (mkF m 310 #[.val (.int p0), .val (.int p1), .val (.int p2), .val (.int p3), .val (.int p4), .val (.int p5), .val (.int ka), .val (.int kb), .val (.int c0), .val (.int c1), .val (.int la), .val (.int la), .val (.int b0), .val (.int b1), .val (.int lineB), .val (.int colB), .val (.ref r131), .val (.ref r133), .val (.ref b136), .val (.ref b147), .val (.int (((p0.toUInt32 >>> ((14 : Int32) &&& 31).toUInt32).toInt32) &&& (3 : Int32))), .unset, .unset] [(.int (1 : Int32))])) _
                  refine XS.goto X158.here hx rfl (pc0 := 310) (pc' := 314) rfl (hb hby at_310) (by decide) (by decide) ?_
                  show Steps p.tables e below (T158.setTop (mkF m 314 #[.val (.int p0), .val (.int p1), .val (.int p2), .val (.int p3), .val (.int p4), .val (.int p5), .val (.int ka), .val (.int kb), .val (.int c0), .val (.int c1), .val (.int la), .val (.int la), .val (.int b0), .val (.int b1), .val (.int lineB), .val (.int colB), .val (.ref r131), .val (.ref r133), .val (.ref b136), .val (.ref b147), .val (.int (((p0.toUInt32 >>> ((14 : Int32) &&& 31).toUInt32).toInt32) &&& (3 : Int32))), .unset, .unset] [(.int (1 : Int32))])) _
                  exact q
                ·
                  refine ⟨(0 : Int32), by rw [if_pos hm175, if_pos hm176, if_neg hm177, if_neg hm178], fun t q => k174 t (?_)⟩
                  refine XS.icmpNo X158.here hx rfl (hb hby at_280) rfl (teq hm175).2 ?_
                  show Steps p.tables e below (T158.setTop (mkF m 283 #[.val (.int p0), .val (.int p1), .val (.int p2), .val (.int p3), .val (.int p4), .val (.int p5), .val (.int ka), .val (.int kb), .val (.int c0), .val (.int c1), .val (.int la), .val (.int la), .val (.int b0), .val (.int b1), .val (.int lineB), .val (.int colB), .val (.ref r131), .val (.ref r133), .val (.ref b136), .val (.ref b147), .val (.int (((p0.toUInt32 >>> ((14 : Int32) &&& 31).toUInt32).toInt32) &&& (3 : Int32))), .unset, .unset] [])) _
                  refine XS.iload X158.here hx rfl (hb hby at_283) rfl ?_
                  show Steps p.tables e below (T158.setTop (mkF m 285 #[.val (.int p0), .val (.int p1), .val (.int p2), .val (.int p3), .val (.int p4), .val (.int p5), .val (.int ka), .val (.int kb), .val (.int c0), .val (.int c1), .val (.int la), .val (.int la), .val (.int b0), .val (.int b1), .val (.int lineB), .val (.int colB), .val (.ref r131), .val (.ref r133), .val (.ref b136), .val (.ref b147), .val (.int (((p0.toUInt32 >>> ((14 : Int32) &&& 31).toUInt32).toInt32) &&& (3 : Int32))), .unset, .unset] [(.int la)])) _
                  refine XS.iconst X158.here hx rfl (hb hby at_285) ?_
                  show Steps p.tables e below (T158.setTop (mkF m 286 #[.val (.int p0), .val (.int p1), .val (.int p2), .val (.int p3), .val (.int p4), .val (.int p5), .val (.int ka), .val (.int kb), .val (.int c0), .val (.int c1), .val (.int la), .val (.int la), .val (.int b0), .val (.int b1), .val (.int lineB), .val (.int colB), .val (.ref r131), .val (.ref r133), .val (.ref b136), .val (.ref b147), .val (.int (((p0.toUInt32 >>> ((14 : Int32) &&& 31).toUInt32).toInt32) &&& (3 : Int32))), .unset, .unset] [(.int (1 : Int32)), (.int la)])) _
                  refine XS.icmpYes X158.here hx rfl (pc0 := 286) (pc' := 296) rfl (hb hby at_286) rfl (tlt hm176).1 (by decide) (by decide) ?_
                  show Steps p.tables e below (T158.setTop (mkF m 296 #[.val (.int p0), .val (.int p1), .val (.int p2), .val (.int p3), .val (.int p4), .val (.int p5), .val (.int ka), .val (.int kb), .val (.int c0), .val (.int c1), .val (.int la), .val (.int la), .val (.int b0), .val (.int b1), .val (.int lineB), .val (.int colB), .val (.ref r131), .val (.ref r133), .val (.ref b136), .val (.ref b147), .val (.int (((p0.toUInt32 >>> ((14 : Int32) &&& 31).toUInt32).toInt32) &&& (3 : Int32))), .unset, .unset] [])) _
                  refine XS.iload X158.here hx rfl (hb hby at_296) rfl ?_
                  show Steps p.tables e below (T158.setTop (mkF m 298 #[.val (.int p0), .val (.int p1), .val (.int p2), .val (.int p3), .val (.int p4), .val (.int p5), .val (.int ka), .val (.int kb), .val (.int c0), .val (.int c1), .val (.int la), .val (.int la), .val (.int b0), .val (.int b1), .val (.int lineB), .val (.int colB), .val (.ref r131), .val (.ref r133), .val (.ref b136), .val (.ref b147), .val (.int (((p0.toUInt32 >>> ((14 : Int32) &&& 31).toUInt32).toInt32) &&& (3 : Int32))), .unset, .unset] [(.int la)])) _
                  refine XS.iconst X158.here hx rfl (hb hby at_298) ?_
                  show Steps p.tables e below (T158.setTop (mkF m 299 #[.val (.int p0), .val (.int p1), .val (.int p2), .val (.int p3), .val (.int p4), .val (.int p5), .val (.int ka), .val (.int kb), .val (.int c0), .val (.int c1), .val (.int la), .val (.int la), .val (.int b0), .val (.int b1), .val (.int lineB), .val (.int colB), .val (.ref r131), .val (.ref r133), .val (.ref b136), .val (.ref b147), .val (.int (((p0.toUInt32 >>> ((14 : Int32) &&& 31).toUInt32).toInt32) &&& (3 : Int32))), .unset, .unset] [(.int (2 : Int32)), (.int la)])) _
                  refine XS.icmpNo X158.here hx rfl (hb hby at_299) rfl (flt hm177).1 ?_
                  show Steps p.tables e below (T158.setTop (mkF m 302 #[.val (.int p0), .val (.int p1), .val (.int p2), .val (.int p3), .val (.int p4), .val (.int p5), .val (.int ka), .val (.int kb), .val (.int c0), .val (.int c1), .val (.int la), .val (.int la), .val (.int b0), .val (.int b1), .val (.int lineB), .val (.int colB), .val (.ref r131), .val (.ref r133), .val (.ref b136), .val (.ref b147), .val (.int (((p0.toUInt32 >>> ((14 : Int32) &&& 31).toUInt32).toInt32) &&& (3 : Int32))), .unset, .unset] [])) _
                  refine XS.iload X158.here hx rfl (hb hby at_302) rfl ?_
                  show Steps p.tables e below (T158.setTop (mkF m 304 #[.val (.int p0), .val (.int p1), .val (.int p2), .val (.int p3), .val (.int p4), .val (.int p5), .val (.int ka), .val (.int kb), .val (.int c0), .val (.int c1), .val (.int la), .val (.int la), .val (.int b0), .val (.int b1), .val (.int lineB), .val (.int colB), .val (.ref r131), .val (.ref r133), .val (.ref b136), .val (.ref b147), .val (.int (((p0.toUInt32 >>> ((14 : Int32) &&& 31).toUInt32).toInt32) &&& (3 : Int32))), .unset, .unset] [(.int c1)])) _
                  refine XS.iload X158.here hx rfl (hb hby at_304) rfl ?_
                  show Steps p.tables e below (T158.setTop (mkF m 306 #[.val (.int p0), .val (.int p1), .val (.int p2), .val (.int p3), .val (.int p4), .val (.int p5), .val (.int ka), .val (.int kb), .val (.int c0), .val (.int c1), .val (.int la), .val (.int la), .val (.int b0), .val (.int b1), .val (.int lineB), .val (.int colB), .val (.ref r131), .val (.ref r133), .val (.ref b136), .val (.ref b147), .val (.int (((p0.toUInt32 >>> ((14 : Int32) &&& 31).toUInt32).toInt32) &&& (3 : Int32))), .unset, .unset] [(.int b1), (.int c1)])) _
                  refine XS.icmpYes X158.here hx rfl (pc0 := 306) (pc' := 313) rfl (hb hby at_306) rfl (feq hm178).2 (by decide) (by decide) ?_
                  show Steps p.tables e below (T158.setTop (mkF m 313 #[.val (.int p0), .val (.int p1), .val (.int p2), .val (.int p3), .val (.int p4), .val (.int p5), .val (.int ka), .val (.int kb), .val (.int c0), .val (.int c1), .val (.int la), .val (.int la), .val (.int b0), .val (.int b1), .val (.int lineB), .val (.int colB), .val (.ref r131), .val (.ref r133), .val (.ref b136), .val (.ref b147), .val (.int (((p0.toUInt32 >>> ((14 : Int32) &&& 31).toUInt32).toInt32) &&& (3 : Int32))), .unset, .unset] [])) _
                  refine XS.iconst X158.here hx rfl (hb hby at_313) ?_
                  show Steps p.tables e below (T158.setTop (mkF m 314 #[.val (.int p0), .val (.int p1), .val (.int p2), .val (.int p3), .val (.int p4), .val (.int p5), .val (.int ka), .val (.int kb), .val (.int c0), .val (.int c1), .val (.int la), .val (.int la), .val (.int b0), .val (.int b1), .val (.int lineB), .val (.int colB), .val (.ref r131), .val (.ref r133), .val (.ref b136), .val (.ref b147), .val (.int (((p0.toUInt32 >>> ((14 : Int32) &&& 31).toUInt32).toInt32) &&& (3 : Int32))), .unset, .unset] [(.int (0 : Int32))])) _
                  exact q
            ·
              by_cases hm179 : c0 = b0
              ·
                by_cases hm180 : la < (2 : Int32)
                ·
                  refine ⟨(1 : Int32), by rw [if_pos hm175, if_neg hm176, if_pos hm179, if_pos hm180], fun t q => k174 t (?_)⟩
                  refine XS.icmpNo X158.here hx rfl (hb hby at_280) rfl (teq hm175).2 ?_
                  show Steps p.tables e below (T158.setTop (mkF m 283 #[.val (.int p0), .val (.int p1), .val (.int p2), .val (.int p3), .val (.int p4), .val (.int p5), .val (.int ka), .val (.int kb), .val (.int c0), .val (.int c1), .val (.int la), .val (.int la), .val (.int b0), .val (.int b1), .val (.int lineB), .val (.int colB), .val (.ref r131), .val (.ref r133), .val (.ref b136), .val (.ref b147), .val (.int (((p0.toUInt32 >>> ((14 : Int32) &&& 31).toUInt32).toInt32) &&& (3 : Int32))), .unset, .unset] [])) _
                  refine XS.iload X158.here hx rfl (hb hby at_283) rfl ?_
                  show Steps p.tables e below (T158.setTop (mkF m 285 #[.val (.int p0), .val (.int p1), .val (.int p2), .val (.int p3), .val (.int p4), .val (.int p5), .val (.int ka), .val (.int kb), .val (.int c0), .val (.int c1), .val (.int la), .val (.int la), .val (.int b0), .val (.int b1), .val (.int lineB), .val (.int colB), .val (.ref r131), .val (.ref r133), .val (.ref b136), .val (.ref b147), .val (.int (((p0.toUInt32 >>> ((14 : Int32) &&& 31).toUInt32).toInt32) &&& (3 : Int32))), .unset, .unset] [(.int la)])) _
                  refine XS.iconst X158.here hx rfl (hb hby at_285) ?_
                  show Steps p.tables e below (T158.setTop (mkF m 286 #[.val (.int p0), .val (.int p1), .val (.int p2), .val (.int p3), .val (.int p4), .val (.int p5), .val (.int ka), .val (.int kb), .val (.int c0), .val (.int c1), .val (.int la), .val (.int la), .val (.int b0), .val (.int b1), .val (.int lineB), .val (.int colB), .val (.ref r131), .val (.ref r133), .val (.ref b136), .val (.ref b147), .val (.int (((p0.toUInt32 >>> ((14 : Int32) &&& 31).toUInt32).toInt32) &&& (3 : Int32))), .unset, .unset] [(.int (1 : Int32)), (.int la)])) _
                  refine XS.icmpNo X158.here hx rfl (hb hby at_286) rfl (flt hm176).1 ?_
                  show Steps p.tables e below (T158.setTop (mkF m 289 #[.val (.int p0), .val (.int p1), .val (.int p2), .val (.int p3), .val (.int p4), .val (.int p5), .val (.int ka), .val (.int kb), .val (.int c0), .val (.int c1), .val (.int la), .val (.int la), .val (.int b0), .val (.int b1), .val (.int lineB), .val (.int colB), .val (.ref r131), .val (.ref r133), .val (.ref b136), .val (.ref b147), .val (.int (((p0.toUInt32 >>> ((14 : Int32) &&& 31).toUInt32).toInt32) &&& (3 : Int32))), .unset, .unset] [])) _
                  refine XS.iload X158.here hx rfl (hb hby at_289) rfl ?_
                  show Steps p.tables e below (T158.setTop (mkF m 291 #[.val (.int p0), .val (.int p1), .val (.int p2), .val (.int p3), .val (.int p4), .val (.int p5), .val (.int ka), .val (.int kb), .val (.int c0), .val (.int c1), .val (.int la), .val (.int la), .val (.int b0), .val (.int b1), .val (.int lineB), .val (.int colB), .val (.ref r131), .val (.ref r133), .val (.ref b136), .val (.ref b147), .val (.int (((p0.toUInt32 >>> ((14 : Int32) &&& 31).toUInt32).toInt32) &&& (3 : Int32))), .unset, .unset] [(.int c0)])) _
                  refine XS.iload X158.here hx rfl (hb hby at_291) rfl ?_
                  show Steps p.tables e below (T158.setTop (mkF m 293 #[.val (.int p0), .val (.int p1), .val (.int p2), .val (.int p3), .val (.int p4), .val (.int p5), .val (.int ka), .val (.int kb), .val (.int c0), .val (.int c1), .val (.int la), .val (.int la), .val (.int b0), .val (.int b1), .val (.int lineB), .val (.int colB), .val (.ref r131), .val (.ref r133), .val (.ref b136), .val (.ref b147), .val (.int (((p0.toUInt32 >>> ((14 : Int32) &&& 31).toUInt32).toInt32) &&& (3 : Int32))), .unset, .unset] [(.int b0), (.int c0)])) _
                  refine XS.icmpNo X158.here hx rfl (hb hby at_293) rfl (teq hm179).2 ?_
                  show Steps p.tables e below (T158.setTop (mkF m 296 #[.val (.int p0), .val (.int p1), .val (.int p2), .val (.int p3), .val (.int p4), .val (.int p5), .val (.int ka), .val (.int kb), .val (.int c0), .val (.int c1), .val (.int la), .val (.int la), .val (.int b0), .val (.int b1), .val (.int lineB), .val (.int colB), .val (.ref r131), .val (.ref r133), .val (.ref b136), .val (.ref b147), .val (.int (((p0.toUInt32 >>> ((14 : Int32) &&& 31).toUInt32).toInt32) &&& (3 : Int32))), .unset, .unset] [])) _
                  refine XS.iload X158.here hx rfl (hb hby at_296) rfl ?_
                  show Steps p.tables e below (T158.setTop (mkF m 298 #[.val (.int p0), .val (.int p1), .val (.int p2), .val (.int p3), .val (.int p4), .val (.int p5), .val (.int ka), .val (.int kb), .val (.int c0), .val (.int c1), .val (.int la), .val (.int la), .val (.int b0), .val (.int b1), .val (.int lineB), .val (.int colB), .val (.ref r131), .val (.ref r133), .val (.ref b136), .val (.ref b147), .val (.int (((p0.toUInt32 >>> ((14 : Int32) &&& 31).toUInt32).toInt32) &&& (3 : Int32))), .unset, .unset] [(.int la)])) _
                  refine XS.iconst X158.here hx rfl (hb hby at_298) ?_
                  show Steps p.tables e below (T158.setTop (mkF m 299 #[.val (.int p0), .val (.int p1), .val (.int p2), .val (.int p3), .val (.int p4), .val (.int p5), .val (.int ka), .val (.int kb), .val (.int c0), .val (.int c1), .val (.int la), .val (.int la), .val (.int b0), .val (.int b1), .val (.int lineB), .val (.int colB), .val (.ref r131), .val (.ref r133), .val (.ref b136), .val (.ref b147), .val (.int (((p0.toUInt32 >>> ((14 : Int32) &&& 31).toUInt32).toInt32) &&& (3 : Int32))), .unset, .unset] [(.int (2 : Int32)), (.int la)])) _
                  refine XS.icmpYes X158.here hx rfl (pc0 := 299) (pc' := 309) rfl (hb hby at_299) rfl (tlt hm180).1 (by decide) (by decide) ?_
                  show Steps p.tables e below (T158.setTop (mkF m 309 #[.val (.int p0), .val (.int p1), .val (.int p2), .val (.int p3), .val (.int p4), .val (.int p5), .val (.int ka), .val (.int kb), .val (.int c0), .val (.int c1), .val (.int la), .val (.int la), .val (.int b0), .val (.int b1), .val (.int lineB), .val (.int colB), .val (.ref r131), .val (.ref r133), .val (.ref b136), .val (.ref b147), .val (.int (((p0.toUInt32 >>> ((14 : Int32) &&& 31).toUInt32).toInt32) &&& (3 : Int32))), .unset, .unset] [])) _
                  refine XS.iconst X158.here hx rfl (hb hby at_309) ?_
                  show Steps p.tables e below (T158.setTop (mkF m 310 #[.val (.int p0), .val (.int p1), .val (.int p2), .val (.int p3), .val (.int p4), .val (.int p5), .val (.int ka), .val (.int kb), .val (.int c0), .val (.int c1), .val (.int la), .val (.int la), .val (.int b0), .val (.int b1), .val (.int lineB), .val (.int colB), .val (.ref r131), .val (.ref r133), .val (.ref b136), .val (.ref b147), .val (.int (((p0.toUInt32 >>> ((14 : Int32) &&& 31).toUInt32).toInt32) &&& (3 : Int32))), .unset, .unset] [(.int (1 : Int32))])) _
                  refine XS.goto X158.here hx rfl (pc0 := 310) (pc' := 314) rfl (hb hby at_310) (by decide) (by decide) ?_
                  show Steps p.tables e below (T158.setTop (mkF m 314 #[.val (.int p0), .val (.int p1), .val (.int p2), .val (.int p3), .val (.int p4), .val (.int p5), .val (.int ka), .val (.int kb), .val (.int c0), .val (.int c1), .val (.int la), .val (.int la), .val (.int b0), .val (.int b1), .val (.int lineB), .val (.int colB), .val (.ref r131), .val (.ref r133), .val (.ref b136), .val (.ref b147), .val (.int (((p0.toUInt32 >>> ((14 : Int32) &&& 31).toUInt32).toInt32) &&& (3 : Int32))), .unset, .unset] [(.int (1 : Int32))])) _
                  exact q
                ·
                  by_cases hm181 : c1 = b1
                  ·
                    refine ⟨(1 : Int32), by rw [if_pos hm175, if_neg hm176, if_pos hm179, if_neg hm180, if_pos hm181], fun t q => k174 t (?_)⟩
                    refine XS.icmpNo X158.here hx rfl (hb hby at_280) rfl (teq hm175).2 ?_
                    show Steps p.tables e below (T158.setTop (mkF m 283 #[.val (.int p0), .val (.int p1), .val (.int p2), .val (.int p3), .val (.int p4), .val (.int p5), .val (.int ka), .val (.int kb), .val (.int c0), .val (.int c1), .val (.int la), .val (.int la), .val (.int b0), .val (.int b1), .val (.int lineB), .val (.int colB), .val (.ref r131), .val (.ref r133), .val (.ref b136), .val (.ref b147), .val (.int (((p0.toUInt32 >>> ((14 : Int32) &&& 31).toUInt32).toInt32) &&& (3 : Int32))), .unset, .unset] [])) _
                    refine XS.iload X158.here hx rfl (hb hby at_283) rfl ?_
                    show Steps p.tables e below (T158.setTop (mkF m 285 #[.val (.int p0), .val (.int p1), .val (.int p2), .val (.int p3), .val (.int p4), .val (.int p5), .val (.int ka), .val (.int kb), .val (.int c0), .val (.int c1), .val (.int la), .val (.int la), .val (.int b0), .val (.int b1), .val (.int lineB), .val (.int colB), .val (.ref r131), .val (.ref r133), .val (.ref b136), .val (.ref b147), .val (.int (((p0.toUInt32 >>> ((14 : Int32) &&& 31).toUInt32).toInt32) &&& (3 : Int32))), .unset, .unset] [(.int la)])) _
                    refine XS.iconst X158.here hx rfl (hb hby at_285) ?_
                    show Steps p.tables e below (T158.setTop (mkF m 286 #[.val (.int p0), .val (.int p1), .val (.int p2), .val (.int p3), .val (.int p4), .val (.int p5), .val (.int ka), .val (.int kb), .val (.int c0), .val (.int c1), .val (.int la), .val (.int la), .val (.int b0), .val (.int b1), .val (.int lineB), .val (.int colB), .val (.ref r131), .val (.ref r133), .val (.ref b136), .val (.ref b147), .val (.int (((p0.toUInt32 >>> ((14 : Int32) &&& 31).toUInt32).toInt32) &&& (3 : Int32))), .unset, .unset] [(.int (1 : Int32)), (.int la)])) _
                    refine XS.icmpNo X158.here hx rfl (hb hby at_286) rfl (flt hm176).1 ?_
                    show Steps p.tables e below (T158.setTop (mkF m 289 #[.val (.int p0), .val (.int p1), .val (.int p2), .val (.int p3), .val (.int p4), .val (.int p5), .val (.int ka), .val (.int kb), .val (.int c0), .val (.int c1), .val (.int la), .val (.int la), .val (.int b0), .val (.int b1), .val (.int lineB), .val (.int colB), .val (.ref r131), .val (.ref r133), .val (.ref b136), .val (.ref b147), .val (.int (((p0.toUInt32 >>> ((14 : Int32) &&& 31).toUInt32).toInt32) &&& (3 : Int32))), .unset, .unset] [])) _
                    refine XS.iload X158.here hx rfl (hb hby at_289) rfl ?_
                    show Steps p.tables e below (T158.setTop (mkF m 291 #[.val (.int p0), .val (.int p1), .val (.int p2), .val (.int p3), .val (.int p4), .val (.int p5), .val (.int ka), .val (.int kb), .val (.int c0), .val (.int c1), .val (.int la), .val (.int la), .val (.int b0), .val (.int b1), .val (.int lineB), .val (.int colB), .val (.ref r131), .val (.ref r133), .val (.ref b136), .val (.ref b147), .val (.int (((p0.toUInt32 >>> ((14 : Int32) &&& 31).toUInt32).toInt32) &&& (3 : Int32))), .unset, .unset] [(.int c0)])) _
                    refine XS.iload X158.here hx rfl (hb hby at_291) rfl ?_
                    show Steps p.tables e below (T158.setTop (mkF m 293 #[.val (.int p0), .val (.int p1), .val (.int p2), .val (.int p3), .val (.int p4), .val (.int p5), .val (.int ka), .val (.int kb), .val (.int c0), .val (.int c1), .val (.int la), .val (.int la), .val (.int b0), .val (.int b1), .val (.int lineB), .val (.int colB), .val (.ref r131), .val (.ref r133), .val (.ref b136), .val (.ref b147), .val (.int (((p0.toUInt32 >>> ((14 : Int32) &&& 31).toUInt32).toInt32) &&& (3 : Int32))), .unset, .unset] [(.int b0), (.int c0)])) _
                    refine XS.icmpNo X158.here hx rfl (hb hby at_293) rfl (teq hm179).2 ?_
                    show Steps p.tables e below (T158.setTop (mkF m 296 #[.val (.int p0), .val (.int p1), .val (.int p2), .val (.int p3), .val (.int p4), .val (.int p5), .val (.int ka), .val (.int kb), .val (.int c0), .val (.int c1), .val (.int la), .val (.int la), .val (.int b0), .val (.int b1), .val (.int lineB), .val (.int colB), .val (.ref r131), .val (.ref r133), .val (.ref b136), .val (.ref b147), .val (.int (((p0.toUInt32 >>> ((14 : Int32) &&& 31).toUInt32).toInt32) &&& (3 : Int32))), .unset, .unset] [])) _
                    refine XS.iload X158.here hx rfl (hb hby at_296) rfl ?_
                    show Steps p.tables e below (T158.setTop (mkF m 298 #[.val (.int p0), .val (.int p1), .val (.int p2), .val (.int p3), .val (.int p4), .val (.int p5), .val (.int ka), .val (.int kb), .val (.int c0), .val (.int c1), .val (.int la), .val (.int la), .val (.int b0), .val (.int b1), .val (.int lineB), .val (.int colB), .val (.ref r131), .val (.ref r133), .val (.ref b136), .val (.ref b147), .val (.int (((p0.toUInt32 >>> ((14 : Int32) &&& 31).toUInt32).toInt32) &&& (3 : Int32))), .unset, .unset] [(.int la)])) _
                    refine XS.iconst X158.here hx rfl (hb hby at_298) ?_
                    show Steps p.tables e below (T158.setTop (mkF m 299 #[.val (.int p0), .val (.int p1), .val (.int p2), .val (.int p3), .val (.int p4), .val (.int p5), .val (.int ka), .val (.int kb), .val (.int c0), .val (.int c1), .val (.int la), .val (.int la), .val (.int b0), .val (.int b1), .val (.int lineB), .val (.int colB), .val (.ref r131), .val (.ref r133), .val (.ref b136), .val (.ref b147), .val (.int (((p0.toUInt32 >>> ((14 : Int32) &&& 31).toUInt32).toInt32) &&& (3 : Int32))), .unset, .unset] [(.int (2 : Int32)), (.int la)])) _
                    refine XS.icmpNo X158.here hx rfl (hb hby at_299) rfl (flt hm180).1 ?_
                    show Steps p.tables e below (T158.setTop (mkF m 302 #[.val (.int p0), .val (.int p1), .val (.int p2), .val (.int p3), .val (.int p4), .val (.int p5), .val (.int ka), .val (.int kb), .val (.int c0), .val (.int c1), .val (.int la), .val (.int la), .val (.int b0), .val (.int b1), .val (.int lineB), .val (.int colB), .val (.ref r131), .val (.ref r133), .val (.ref b136), .val (.ref b147), .val (.int (((p0.toUInt32 >>> ((14 : Int32) &&& 31).toUInt32).toInt32) &&& (3 : Int32))), .unset, .unset] [])) _
                    refine XS.iload X158.here hx rfl (hb hby at_302) rfl ?_
                    show Steps p.tables e below (T158.setTop (mkF m 304 #[.val (.int p0), .val (.int p1), .val (.int p2), .val (.int p3), .val (.int p4), .val (.int p5), .val (.int ka), .val (.int kb), .val (.int c0), .val (.int c1), .val (.int la), .val (.int la), .val (.int b0), .val (.int b1), .val (.int lineB), .val (.int colB), .val (.ref r131), .val (.ref r133), .val (.ref b136), .val (.ref b147), .val (.int (((p0.toUInt32 >>> ((14 : Int32) &&& 31).toUInt32).toInt32) &&& (3 : Int32))), .unset, .unset] [(.int c1)])) _
                    refine XS.iload X158.here hx rfl (hb hby at_304) rfl ?_
                    show Steps p.tables e below (T158.setTop (mkF m 306 #[.val (.int p0), .val (.int p1), .val (.int p2), .val (.int p3), .val (.int p4), .val (.int p5), .val (.int ka), .val (.int kb), .val (.int c0), .val (.int c1), .val (.int la), .val (.int la), .val (.int b0), .val (.int b1), .val (.int lineB), .val (.int colB), .val (.ref r131), .val (.ref r133), .val (.ref b136), .val (.ref b147), .val (.int (((p0.toUInt32 >>> ((14 : Int32) &&& 31).toUInt32).toInt32) &&& (3 : Int32))), .unset, .unset] [(.int b1), (.int c1)])) _
                    refine XS.icmpNo X158.here hx rfl (hb hby at_306) rfl (teq hm181).2 ?_
                    show Steps p.tables e below (T158.setTop (mkF m 309 #[.val (.int p0), .val (.int p1), .val (.int p2), .val (.int p3), .val (.int p4), .val (.int p5), .val (.int ka), .val (.int kb), .val (.int c0), .val (.int c1), .val (.int la), .val (.int la), .val (.int b0), .val (.int b1), .val (.int lineB), .val (.int colB), .val (.ref r131), .val (.ref r133), .val (.ref b136), .val (.ref b147), .val (.int (((p0.toUInt32 >>> ((14 : Int32) &&& 31).toUInt32).toInt32) &&& (3 : Int32))), .unset, .unset] [])) _
                    refine XS.iconst X158.here hx rfl (hb hby at_309) ?_
                    show Steps p.tables e below (T158.setTop (mkF m 310 #[.val (.int p0), .val (.int p1), .val (.int p2), .val (.int p3), .val (.int p4), .val (.int p5), .val (.int ka), .val (.int kb), .val (.int c0), .val (.int c1), .val (.int la), .val (.int la), .val (.int b0), .val (.int b1), .val (.int lineB), .val (.int colB), .val (.ref r131), .val (.ref r133), .val (.ref b136), .val (.ref b147), .val (.int (((p0.toUInt32 >>> ((14 : Int32) &&& 31).toUInt32).toInt32) &&& (3 : Int32))), .unset, .unset] [(.int (1 : Int32))])) _
                    refine XS.goto X158.here hx rfl (pc0 := 310) (pc' := 314) rfl (hb hby at_310) (by decide) (by decide) ?_
                    show Steps p.tables e below (T158.setTop (mkF m 314 #[.val (.int p0), .val (.int p1), .val (.int p2), .val (.int p3), .val (.int p4), .val (.int p5), .val (.int ka), .val (.int kb), .val (.int c0), .val (.int c1), .val (.int la), .val (.int la), .val (.int b0), .val (.int b1), .val (.int lineB), .val (.int colB), .val (.ref r131), .val (.ref r133), .val (.ref b136), .val (.ref b147), .val (.int (((p0.toUInt32 >>> ((14 : Int32) &&& 31).toUInt32).toInt32) &&& (3 : Int32))), .unset, .unset] [(.int (1 : Int32))])) _
                    exact q
                  ·
                    refine ⟨(0 : Int32), by rw [if_pos hm175, if_neg hm176, if_pos hm179, if_neg hm180, if_neg hm181], fun t q => k174 t (?_)⟩
                    refine XS.icmpNo X158.here hx rfl (hb hby at_280) rfl (teq hm175).2 ?_
                    show Steps p.tables e below (T158.setTop (mkF m 283 #[.val (.int p0), .val (.int p1), .val (.int p2), .val (.int p3), .val (.int p4), .val (.int p5), .val (.int ka), .val (.int kb), .val (.int c0), .val (.int c1), .val (.int la), .val (.int la), .val (.int b0), .val (.int b1), .val (.int lineB), .val (.int colB), .val (.ref r131), .val (.ref r133), .val (.ref b136), .val (.ref b147), .val (.int (((p0.toUInt32 >>> ((14 : Int32) &&& 31).toUInt32).toInt32) &&& (3 : Int32))), .unset, .unset] [])) _
                    refine XS.iload X158.here hx rfl (hb hby at_283) rfl ?_
                    show Steps p.tables e below (T158.setTop (mkF m 285 #[.val (.int p0), .val (.int p1), .val (.int p2), .val (.int p3), .val (.int p4), .val (.int p5), .val (.int ka), .val (.int kb), .val (.int c0), .val (.int c1), .val (.int la), .val (.int la), .val (.int b0), .val (.int b1), .val (.int lineB), .val (.int colB), .val (.ref r131), .val (.ref r133), .val (.ref b136), .val (.ref b147), .val (.int (((p0.toUInt32 >>> ((14 : Int32) &&& 31).toUInt32).toInt32) &&& (3 : Int32))), .unset, .unset] [(.int la)])) _
                    refine XS.iconst X158.here hx rfl (hb hby at_285) ?_
                    show Steps p.tables e below (T158.setTop (mkF m 286 #[.val (.int p0), .val (.int p1), .val (.int p2), .val (.int p3), .val (.int p4), .val (.int p5), .val (.int ka), .val (.int kb), .val (.int c0), .val (.int c1), .val (.int la), .val (.int la), .val (.int b0), .val (.int b1), .val (.int lineB), .val (.int colB), .val (.ref r131), .val (.ref r133), .val (.ref b136), .val (.ref b147), .val (.int (((p0.toUInt32 >>> ((14 : Int32) &&& 31).toUInt32).toInt32) &&& (3 : Int32))), .unset, .unset] [(.int (1 : Int32)), (.int la)])) _
                    refine XS.icmpNo X158.here hx rfl (hb hby at_286) rfl (flt hm176).1 ?_
                    show Steps p.tables e below (T158.setTop (mkF m 289 #[.val (.int p0), .val (.int p1), .val (.int p2), .val (.int p3), .val (.int p4), .val (.int p5), .val (.int ka), .val (.int kb), .val (.int c0), .val (.int c1), .val (.int la), .val (.int la), .val (.int b0), .val (.int b1), .val (.int lineB), .val (.int colB), .val (.ref r131), .val (.ref r133), .val (.ref b136), .val (.ref b147), .val (.int (((p0.toUInt32 >>> ((14 : Int32) &&& 31).toUInt32).toInt32) &&& (3 : Int32))), .unset, .unset] [])) _
                    refine XS.iload X158.here hx rfl (hb hby at_289) rfl ?_
                    show Steps p.tables e below (T158.setTop (mkF m 291 #[.val (.int p0), .val (.int p1), .val (.int p2), .val (.int p3), .val (.int p4), .val (.int p5), .val (.int ka), .val (.int kb), .val (.int c0), .val (.int c1), .val (.int la), .val (.int la), .val (.int b0), .val (.int b1), .val (.int lineB), .val (.int colB), .val (.ref r131), .val (.ref r133), .val (.ref b136), .val (.ref b147), .val (.int (((p0.toUInt32 >>> ((14 : Int32) &&& 31).toUInt32).toInt32) &&& (3 : Int32))), .unset, .unset] [(.int c0)])) _
                    refine XS.iload X158.here hx rfl (hb hby at_291) rfl ?_
                    show Steps p.tables e below (T158.setTop (mkF m 293 #[.val (.int p0), .val (.int p1), .val (.int p2), .val (.int p3), .val (.int p4), .val (.int p5), .val (.int ka), .val (.int kb), .val (.int c0), .val (.int c1), .val (.int la), .val (.int la), .val (.int b0), .val (.int b1), .val (.int lineB), .val (.int colB), .val (.ref r131), .val (.ref r133), .val (.ref b136), .val (.ref b147), .val (.int (((p0.toUInt32 >>> ((14 : Int32) &&& 31).toUInt32).toInt32) &&& (3 : Int32))), .unset, .unset] [(.int b0), (.int c0)])) _
                    refine XS.icmpNo X158.here hx rfl (hb hby at_293) rfl (teq hm179).2 ?_
                    show Steps p.tables e below (T158.setTop (mkF m 296 #[.val (.int p0), .val (.int p1), .val (.int p2), .val (.int p3), .val (.int p4), .val (.int p5), .val (.int ka), .val (.int kb), .val (.int c0), .val (.int c1), .val (.int la), .val (.int la), .val (.int b0), .val (.int b1), .val (.int lineB), .val (.int colB), .val (.ref r131), .val (.ref r133), .val (.ref b136), .val (.ref b147), .val (.int (((p0.toUInt32 >>> ((14 : Int32) &&& 31).toUInt32).toInt32) &&& (3 : Int32))), .unset, .unset] [])) _
                    refine XS.iload X158.here hx rfl (hb hby at_296) rfl ?_
                    show Steps p.tables e below (T158.setTop (mkF m 298 #[.val (.int p0), .val (.int p1), .val (.int p2), .val (.int p3), .val (.int p4), .val (.int p5), .val (.int ka), .val (.int kb), .val (.int c0), .val (.int c1), .val (.int la), .val (.int la), .val (.int b0), .val (.int b1), .val (.int lineB), .val (.int colB), .val (.ref r131), .val (.ref r133), .val (.ref b136), .val (.ref b147), .val (.int (((p0.toUInt32 >>> ((14 : Int32) &&& 31).toUInt32).toInt32) &&& (3 : Int32))), .unset, .unset] [(.int la)])) _
                    refine XS.iconst X158.here hx rfl (hb hby at_298) ?_
                    show Steps p.tables e below (T158.setTop (mkF m 299 #[.val (.int p0), .val (.int p1), .val (.int p2), .val (.int p3), .val (.int p4), .val (.int p5), .val (.int ka), .val (.int kb), .val (.int c0), .val (.int c1), .val (.int la), .val (.int la), .val (.int b0), .val (.int b1), .val (.int lineB), .val (.int colB), .val (.ref r131), .val (.ref r133), .val (.ref b136), .val (.ref b147), .val (.int (((p0.toUInt32 >>> ((14 : Int32) &&& 31).toUInt32).toInt32) &&& (3 : Int32))), .unset, .unset] [(.int (2 : Int32)), (.int la)])) _
                    refine XS.icmpNo X158.here hx rfl (hb hby at_299) rfl (flt hm180).1 ?_
                    show Steps p.tables e below (T158.setTop (mkF m 302 #[.val (.int p0), .val (.int p1), .val (.int p2), .val (.int p3), .val (.int p4), .val (.int p5), .val (.int ka), .val (.int kb), .val (.int c0), .val (.int c1), .val (.int la), .val (.int la), .val (.int b0), .val (.int b1), .val (.int lineB), .val (.int colB), .val (.ref r131), .val (.ref r133), .val (.ref b136), .val (.ref b147), .val (.int (((p0.toUInt32 >>> ((14 : Int32) &&& 31).toUInt32).toInt32) &&& (3 : Int32))), .unset, .unset] [])) _
                    refine XS.iload X158.here hx rfl (hb hby at_302) rfl ?_
                    show Steps p.tables e below (T158.setTop (mkF m 304 #[.val (.int p0), .val (.int p1), .val (.int p2), .val (.int p3), .val (.int p4), .val (.int p5), .val (.int ka), .val (.int kb), .val (.int c0), .val (.int c1), .val (.int la), .val (.int la), .val (.int b0), .val (.int b1), .val (.int lineB), .val (.int colB), .val (.ref r131), .val (.ref r133), .val (.ref b136), .val (.ref b147), .val (.int (((p0.toUInt32 >>> ((14 : Int32) &&& 31).toUInt32).toInt32) &&& (3 : Int32))), .unset, .unset] [(.int c1)])) _
                    refine XS.iload X158.here hx rfl (hb hby at_304) rfl ?_
                    show Steps p.tables e below (T158.setTop (mkF m 306 #[.val (.int p0), .val (.int p1), .val (.int p2), .val (.int p3), .val (.int p4), .val (.int p5), .val (.int ka), .val (.int kb), .val (.int c0), .val (.int c1), .val (.int la), .val (.int la), .val (.int b0), .val (.int b1), .val (.int lineB), .val (.int colB), .val (.ref r131), .val (.ref r133), .val (.ref b136), .val (.ref b147), .val (.int (((p0.toUInt32 >>> ((14 : Int32) &&& 31).toUInt32).toInt32) &&& (3 : Int32))), .unset, .unset] [(.int b1), (.int c1)])) _
                    refine XS.icmpYes X158.here hx rfl (pc0 := 306) (pc' := 313) rfl (hb hby at_306) rfl (feq hm181).2 (by decide) (by decide) ?_
                    show Steps p.tables e below (T158.setTop (mkF m 313 #[.val (.int p0), .val (.int p1), .val (.int p2), .val (.int p3), .val (.int p4), .val (.int p5), .val (.int ka), .val (.int kb), .val (.int c0), .val (.int c1), .val (.int la), .val (.int la), .val (.int b0), .val (.int b1), .val (.int lineB), .val (.int colB), .val (.ref r131), .val (.ref r133), .val (.ref b136), .val (.ref b147), .val (.int (((p0.toUInt32 >>> ((14 : Int32) &&& 31).toUInt32).toInt32) &&& (3 : Int32))), .unset, .unset] [])) _
                    refine XS.iconst X158.here hx rfl (hb hby at_313) ?_
                    show Steps p.tables e below (T158.setTop (mkF m 314 #[.val (.int p0), .val (.int p1), .val (.int p2), .val (.int p3), .val (.int p4), .val (.int p5), .val (.int ka), .val (.int kb), .val (.int c0), .val (.int c1), .val (.int la), .val (.int la), .val (.int b0), .val (.int b1), .val (.int lineB), .val (.int colB), .val (.ref r131), .val (.ref r133), .val (.ref b136), .val (.ref b147), .val (.int (((p0.toUInt32 >>> ((14 : Int32) &&& 31).toUInt32).toInt32) &&& (3 : Int32))), .unset, .unset] [(.int (0 : Int32))])) _
                    exact q
              ·
                refine ⟨(0 : Int32), by rw [if_pos hm175, if_neg hm176, if_neg hm179], fun t q => k174 t (?_)⟩
                refine XS.icmpNo X158.here hx rfl (hb hby at_280) rfl (teq hm175).2 ?_
                show Steps p.tables e below (T158.setTop (mkF m 283 #[.val (.int p0), .val (.int p1), .val (.int p2), .val (.int p3), .val (.int p4), .val (.int p5), .val (.int ka), .val (.int kb), .val (.int c0), .val (.int c1), .val (.int la), .val (.int la), .val (.int b0), .val (.int b1), .val (.int lineB), .val (.int colB), .val (.ref r131), .val (.ref r133), .val (.ref b136), .val (.ref b147), .val (.int (((p0.toUInt32 >>> ((14 : Int32) &&& 31).toUInt32).toInt32) &&& (3 : Int32))), .unset, .unset] [])) _
                refine XS.iload X158.here hx rfl (hb hby at_283) rfl ?_
                show Steps p.tables e below (T158.setTop (mkF m 285 #[.val (.int p0), .val (.int p1), .val (.int p2), .val (.int p3), .val (.int p4), .val (.int p5), .val (.int ka), .val (.int kb), .val (.int c0), .val (.int c1), .val (.int la), .val (.int la), .val (.int b0), .val (.int b1), .val (.int lineB), .val (.int colB), .val (.ref r131), .val (.ref r133), .val (.ref b136), .val (.ref b147), .val (.int (((p0.toUInt32 >>> ((14 : Int32) &&& 31).toUInt32).toInt32) &&& (3 : Int32))), .unset, .unset] [(.int la)])) _
                refine XS.iconst X158.here hx rfl (hb hby at_285) ?_
                show Steps p.tables e below (T158.setTop (mkF m 286 #[.val (.int p0), .val (.int p1), .val (.int p2), .val (.int p3), .val (.int p4), .val (.int p5), .val (.int ka), .val (.int kb), .val (.int c0), .val (.int c1), .val (.int la), .val (.int la), .val (.int b0), .val (.int b1), .val (.int lineB), .val (.int colB), .val (.ref r131), .val (.ref r133), .val (.ref b136), .val (.ref b147), .val (.int (((p0.toUInt32 >>> ((14 : Int32) &&& 31).toUInt32).toInt32) &&& (3 : Int32))), .unset, .unset] [(.int (1 : Int32)), (.int la)])) _
                refine XS.icmpNo X158.here hx rfl (hb hby at_286) rfl (flt hm176).1 ?_
                show Steps p.tables e below (T158.setTop (mkF m 289 #[.val (.int p0), .val (.int p1), .val (.int p2), .val (.int p3), .val (.int p4), .val (.int p5), .val (.int ka), .val (.int kb), .val (.int c0), .val (.int c1), .val (.int la), .val (.int la), .val (.int b0), .val (.int b1), .val (.int lineB), .val (.int colB), .val (.ref r131), .val (.ref r133), .val (.ref b136), .val (.ref b147), .val (.int (((p0.toUInt32 >>> ((14 : Int32) &&& 31).toUInt32).toInt32) &&& (3 : Int32))), .unset, .unset] [])) _
                refine XS.iload X158.here hx rfl (hb hby at_289) rfl ?_
                show Steps p.tables e below (T158.setTop (mkF m 291 #[.val (.int p0), .val (.int p1), .val (.int p2), .val (.int p3), .val (.int p4), .val (.int p5), .val (.int ka), .val (.int kb), .val (.int c0), .val (.int c1), .val (.int la), .val (.int la), .val (.int b0), .val (.int b1), .val (.int lineB), .val (.int colB), .val (.ref r131), .val (.ref r133), .val (.ref b136), .val (.ref b147), .val (.int (((p0.toUInt32 >>> ((14 : Int32) &&& 31).toUInt32).toInt32) &&& (3 : Int32))), .unset, .unset] [(.int c0)])) _
                refine XS.iload X158.here hx rfl (hb hby at_291) rfl ?_
                show Steps p.tables e below (T158.setTop (mkF m 293 #[.val (.int p0), .val (.int p1), .val (.int p2), .val (.int p3), .val (.int p4), .val (.int p5), .val (.int ka), .val (.int kb), .val (.int c0), .val (.int c1), .val (.int la), .val (.int la), .val (.int b0), .val (.int b1), .val (.int lineB), .val (.int colB), .val (.ref r131), .val (.ref r133), .val (.ref b136), .val (.ref b147), .val (.int (((p0.toUInt32 >>> ((14 : Int32) &&& 31).toUInt32).toInt32) &&& (3 : Int32))), .unset, .unset] [(.int b0), (.int c0)])) _
                refine XS.icmpYes X158.here hx rfl (pc0 := 293) (pc' := 313) rfl (hb hby at_293) rfl (feq hm179).2 (by decide) (by decide) ?_
                show Steps p.tables e below (T158.setTop (mkF m 313 #[.val (.int p0), .val (.int p1), .val (.int p2), .val (.int p3), .val (.int p4), .val (.int p5), .val (.int ka), .val (.int kb), .val (.int c0), .val (.int c1), .val (.int la), .val (.int la), .val (.int b0), .val (.int b1), .val (.int lineB), .val (.int colB), .val (.ref r131), .val (.ref r133), .val (.ref b136), .val (.ref b147), .val (.int (((p0.toUInt32 >>> ((14 : Int32) &&& 31).toUInt32).toInt32) &&& (3 : Int32))), .unset, .unset] [])) _
                refine XS.iconst X158.here hx rfl (hb hby at_313) ?_
                show Steps p.tables e below (T158.setTop (mkF m 314 #[.val (.int p0), .val (.int p1), .val (.int p2), .val (.int p3), .val (.int p4), .val (.int p5), .val (.int ka), .val (.int kb), .val (.int c0), .val (.int c1), .val (.int la), .val (.int la), .val (.int b0), .val (.int b1), .val (.int lineB), .val (.int colB), .val (.ref r131), .val (.ref r133), .val (.ref b136), .val (.ref b147), .val (.int (((p0.toUInt32 >>> ((14 : Int32) &&& 31).toUInt32).toInt32) &&& (3 : Int32))), .unset, .unset] [(.int (0 : Int32))])) _
                exact q
          ·
            refine ⟨(0 : Int32), by rw [if_neg hm175], fun t q => k174 t (?_)⟩
            refine XS.icmpYes X158.here hx rfl (pc0 := 280) (pc' := 313) rfl (hb hby at_280) rfl (feq hm175).2 (by decide) (by decide) ?_
            show Steps p.tables e below (T158.setTop (mkF m 313 #[.val (.int p0), .val (.int p1), .val (.int p2), .val (.int p3), .val (.int p4), .val (.int p5), .val (.int ka), .val (.int kb), .val (.int c0), .val (.int c1), .val (.int la), .val (.int la), .val (.int b0), .val (.int b1), .val (.int lineB), .val (.int colB), .val (.ref r131), .val (.ref r133), .val (.ref b136), .val (.ref b147), .val (.int (((p0.toUInt32 >>> ((14 : Int32) &&& 31).toUInt32).toInt32) &&& (3 : Int32))), .unset, .unset] [])) _
            refine XS.iconst X158.here hx rfl (hb hby at_313) ?_
            show Steps p.tables e below (T158.setTop (mkF m 314 #[.val (.int p0), .val (.int p1), .val (.int p2), .val (.int p3), .val (.int p4), .val (.int p5), .val (.int ka), .val (.int kb), .val (.int c0), .val (.int c1), .val (.int la), .val (.int la), .val (.int b0), .val (.int b1), .val (.int lineB), .val (.int colB), .val (.ref r131), .val (.ref r133), .val (.ref b136), .val (.ref b147), .val (.int (((p0.toUInt32 >>> ((14 : Int32) &&& 31).toUInt32).toInt32) &&& (3 : Int32))), .unset, .unset] [(.int (0 : Int32))])) _
            exact q
        have k183 : own_To p e below T158 (mkF m 320 #[.val (.int p0), .val (.int p1), .val (.int p2), .val (.int p3), .val (.int p4), .val (.int p5), .val (.int ka), .val (.int kb), .val (.int c0), .val (.int c1), .val (.int la), .val (.int la), .val (.int b0), .val (.int b1), .val (.int lineB), .val (.int colB), .val (.ref r131), .val (.ref r133), .val (.ref b136), .val (.ref b147), .val (.int (((p0.toUInt32 >>> ((14 : Int32) &&& 31).toUInt32).toInt32) &&& (3 : Int32))), .val (.int te_), .unset] [(.int kb), (.int ka)]) s₁ (mkF m 0 #[.val (.int p0), .val (.int p1), .val (.int p2), .val (.int p3), .val (.int p4), .val (.int p5), .unset, .unset, .unset, .unset, .unset, .unset, .unset, .unset, .unset, .unset, .unset, .unset, .unset, .unset, .unset, .unset, .unset] []) := fun t q => k182 t (by
          refine XS.istore X158.here hx rfl (hb hby at_314) rfl (l' := #[.val (.int p0), .val (.int p1), .val (.int p2), .val (.int p3), .val (.int p4), .val (.int p5), .val (.int ka), .val (.int kb), .val (.int c0), .val (.int c1), .val (.int la), .val (.int la), .val (.int b0), .val (.int b1), .val (.int lineB), .val (.int colB), .val (.ref r131), .val (.ref r133), .val (.ref b136), .val (.ref b147), .val (.int (((p0.toUInt32 >>> ((14 : Int32) &&& 31).toUInt32).toInt32) &&& (3 : Int32))), .val (.int te_), .unset]) rfl ?_
          show Steps p.tables e below (T158.setTop (mkF m 316 #[.val (.int p0), .val (.int p1), .val (.int p2), .val (.int p3), .val (.int p4), .val (.int p5), .val (.int ka), .val (.int kb), .val (.int c0), .val (.int c1), .val (.int la), .val (.int la), .val (.int b0), .val (.int b1), .val (.int lineB), .val (.int colB), .val (.ref r131), .val (.ref r133), .val (.ref b136), .val (.ref b147), .val (.int (((p0.toUInt32 >>> ((14 : Int32) &&& 31).toUInt32).toInt32) &&& (3 : Int32))), .val (.int te_), .unset] [])) _
          refine XS.iload X158.here hx rfl (hb hby at_316) rfl ?_
          show Steps p.tables e below (T158.setTop (mkF m 318 #[.val (.int p0), .val (.int p1), .val (.int p2), .val (.int p3), .val (.int p4), .val (.int p5), .val (.int ka), .val (.int kb), .val (.int c0), .val (.int c1), .val (.int la), .val (.int la), .val (.int b0), .val (.int b1), .val (.int lineB), .val (.int colB), .val (.ref r131), .val (.ref r133), .val (.ref b136), .val (.ref b147), .val (.int (((p0.toUInt32 >>> ((14 : Int32) &&& 31).toUInt32).toInt32) &&& (3 : Int32))), .val (.int te_), .unset] [(.int ka)])) _
          refine XS.iload X158.here hx rfl (hb hby at_318) rfl ?_
          show Steps p.tables e below (T158.setTop (mkF m 320 #[.val (.int p0), .val (.int p1), .val (.int p2), .val (.int p3), .val (.int p4), .val (.int p5), .val (.int ka), .val (.int kb), .val (.int c0), .val (.int c1), .val (.int la), .val (.int la), .val (.int b0), .val (.int b1), .val (.int lineB), .val (.int colB), .val (.ref r131), .val (.ref r133), .val (.ref b136), .val (.ref b147), .val (.int (((p0.toUInt32 >>> ((14 : Int32) &&& 31).toUInt32).toInt32) &&& (3 : Int32))), .val (.int te_), .unset] [(.int kb), (.int ka)])) _
          exact q)
        obtain ⟨ex_, hex_, k188⟩ : ∃ (ex_ : Int32), (ex_ = (if ka = kb then (if te_ = (0 : Int32) then (0 : Int32) else (if p2 = lineB then (if p3 = colB then (1 : Int32) else (0 : Int32)) else (0 : Int32))) else (0 : Int32))) ∧ own_To p e below T158 (mkF m 345 #[.val (.int p0), .val (.int p1), .val (.int p2), .val (.int p3), .val (.int p4), .val (.int p5), .val (.int ka), .val (.int kb), .val (.int c0), .val (.int c1), .val (.int la), .val (.int la), .val (.int b0), .val (.int b1), .val (.int lineB), .val (.int colB), .val (.ref r131), .val (.ref r133), .val (.ref b136), .val (.ref b147), .val (.int (((p0.toUInt32 >>> ((14 : Int32) &&& 31).toUInt32).toInt32) &&& (3 : Int32))), .val (.int te_), .unset] [(.int ex_)]) s₁ (mkF m 0 #[.val (.int p0), .val (.int p1), .val (.int p2), .val (.int p3), .val (.int p4), .val (.int p5), .unset, .unset, .unset, .unset, .unset, .unset, .unset, .unset, .unset, .unset, .unset, .unset, .unset, .unset, .unset, .unset, .unset] []) := by
          by_cases hm184 : ka = kb
          ·
            by_cases hm185 : te_ = (0 : Int32)
            ·
              refine ⟨(0 : Int32), by rw [if_pos hm184, if_pos hm185], fun t q => k183 t (?_)⟩
              refine XS.icmpNo X158.here hx rfl (hb hby at_320) rfl (teq hm184).2 ?_
              show Steps p.tables e below (T158.setTop (mkF m 323 #[.val (.int p0), .val (.int p1), .val (.int p2), .val (.int p3), .val (.int p4), .val (.int p5), .val (.int ka), .val (.int kb), .val (.int c0), .val (.int c1), .val (.int la), .val (.int la), .val (.int b0), .val (.int b1), .val (.int lineB), .val (.int colB), .val (.ref r131), .val (.ref r133), .val (.ref b136), .val (.ref b147), .val (.int (((p0.toUInt32 >>> ((14 : Int32) &&& 31).toUInt32).toInt32) &&& (3 : Int32))), .val (.int te_), .unset] [])) _
              refine XS.iload X158.here hx rfl (hb hby at_323) rfl ?_
              show Steps p.tables e below (T158.setTop (mkF m 325 #[.val (.int p0), .val (.int p1), .val (.int p2), .val (.int p3), .val (.int p4), .val (.int p5), .val (.int ka), .val (.int kb), .val (.int c0), .val (.int c1), .val (.int la), .val (.int la), .val (.int b0), .val (.int b1), .val (.int lineB), .val (.int colB), .val (.ref r131), .val (.ref r133), .val (.ref b136), .val (.ref b147), .val (.int (((p0.toUInt32 >>> ((14 : Int32) &&& 31).toUInt32).toInt32) &&& (3 : Int32))), .val (.int te_), .unset] [(.int te_)])) _
              refine XS.ifYes X158.here hx rfl (pc0 := 325) (pc' := 344) rfl (hb hby at_325) rfl ((if0 _ _).trans (teq hm185).1) (by decide) (by decide) ?_
              show Steps p.tables e below (T158.setTop (mkF m 344 #[.val (.int p0), .val (.int p1), .val (.int p2), .val (.int p3), .val (.int p4), .val (.int p5), .val (.int ka), .val (.int kb), .val (.int c0), .val (.int c1), .val (.int la), .val (.int la), .val (.int b0), .val (.int b1), .val (.int lineB), .val (.int colB), .val (.ref r131), .val (.ref r133), .val (.ref b136), .val (.ref b147), .val (.int (((p0.toUInt32 >>> ((14 : Int32) &&& 31).toUInt32).toInt32) &&& (3 : Int32))), .val (.int te_), .unset] [])) _
              refine XS.iconst X158.here hx rfl (hb hby at_344) ?_
              show Steps p.tables e below (T158.setTop (mkF m 345 #[.val (.int p0), .val (.int p1), .val (.int p2), .val (.int p3), .val (.int p4), .val (.int p5), .val (.int ka), .val (.int kb), .val (.int c0), .val (.int c1), .val (.int la), .val (.int la), .val (.int b0), .val (.int b1), .val (.int lineB), .val (.int colB), .val (.ref r131), .val (.ref r133), .val (.ref b136), .val (.ref b147), .val (.int (((p0.toUInt32 >>> ((14 : Int32) &&& 31).toUInt32).toInt32) &&& (3 : Int32))), .val (.int te_), .unset] [(.int (0 : Int32))])) _
              exact q
            ·
              by_cases hm186 : p2 = lineB
              ·
                by_cases hm187 : p3 = colB
                ·
                  refine ⟨(1 : Int32), by rw [if_pos hm184, if_neg hm185, if_pos hm186, if_pos hm187], fun t q => k183 t (?_)⟩
                  refine XS.icmpNo X158.here hx rfl (hb hby at_320) rfl (teq hm184).2 ?_
                  show Steps p.tables e below (T158.setTop (mkF m 323 #[.val (.int p0), .val (.int p1), .val (.int p2), .val (.int p3), .val (.int p4), .val (.int p5), .val (.int ka), .val (.int kb), .val (.int c0), .val (.int c1), .val (.int la), .val (.int la), .val (.int b0), .val (.int b1), .val (.int lineB), .val (.int colB), .val (.ref r131), .val (.ref r133), .val (.ref b136), .val (.ref b147), .val (.int (((p0.toUInt32 >>> ((14 : Int32) &&& 31).toUInt32).toInt32) &&& (3 : Int32))), .val (.int te_), .unset] [])) _
                  refine XS.iload X158.here hx rfl (hb hby at_323) rfl ?_
                  show Steps p.tables e below (T158.setTop (mkF m 325 #[.val (.int p0), .val (.int p1), .val (.int p2), .val (.int p3), .val (.int p4), .val (.int p5), .val (.int ka), .val (.int kb), .val (.int c0), .val (.int c1), .val (.int la), .val (.int la), .val (.int b0), .val (.int b1), .val (.int lineB), .val (.int colB), .val (.ref r131), .val (.ref r133), .val (.ref b136), .val (.ref b147), .val (.int (((p0.toUInt32 >>> ((14 : Int32) &&& 31).toUInt32).toInt32) &&& (3 : Int32))), .val (.int te_), .unset] [(.int te_)])) _
                  refine XS.ifNo X158.here hx rfl (hb hby at_325) rfl ((if0 _ _).trans (feq hm185).1) ?_
                  show Steps p.tables e below (T158.setTop (mkF m 328 #[.val (.int p0), .val (.int p1), .val (.int p2), .val (.int p3), .val (.int p4), .val (.int p5), .val (.int ka), .val (.int kb), .val (.int c0), .val (.int c1), .val (.int la), .val (.int la), .val (.int b0), .val (.int b1), .val (.int lineB), .val (.int colB), .val (.ref r131), .val (.ref r133), .val (.ref b136), .val (.ref b147), .val (.int (((p0.toUInt32 >>> ((14 : Int32) &&& 31).toUInt32).toInt32) &&& (3 : Int32))), .val (.int te_), .unset] [])) _
                  refine XS.iloadN X158.here hx rfl (hb hby at_328) rfl ?_
                  show Steps p.tables e below (T158.setTop (mkF m 329 #[.val (.int p0), .val (.int p1), .val (.int p2), .val (.int p3), .val (.int p4), .val (.int p5), .val (.int ka), .val (.int kb), .val (.int c0), .val (.int c1), .val (.int la), .val (.int la), .val (.int b0), .val (.int b1), .val (.int lineB), .val (.int colB), .val (.ref r131), .val (.ref r133), .val (.ref b136), .val (.ref b147), .val (.int (((p0.toUInt32 >>> ((14 : Int32) &&& 31).toUInt32).toInt32) &&& (3 : Int32))), .val (.int te_), .unset] [(.int p2)])) _
                  refine XS.iload X158.here hx rfl (hb hby at_329) rfl ?_
                  show Steps p.tables e below (T158.setTop (mkF m 331 #[.val (.int p0), .val (.int p1), .val (.int p2), .val (.int p3), .val (.int p4), .val (.int p5), .val (.int ka), .val (.int kb), .val (.int c0), .val (.int c1), .val (.int la), .val (.int la), .val (.int b0), .val (.int b1), .val (.int lineB), .val (.int colB), .val (.ref r131), .val (.ref r133), .val (.ref b136), .val (.ref b147), .val (.int (((p0.toUInt32 >>> ((14 : Int32) &&& 31).toUInt32).toInt32) &&& (3 : Int32))), .val (.int te_), .unset] [(.int lineB), (.int p2)])) _
                  refine XS.icmpNo X158.here hx rfl (hb hby at_331) rfl (teq hm186).2 ?_
                  show Steps p.tables e below (T158.setTop (mkF m 334 #[.val (.int p0), .val (.int p1), .val (.int p2), .val (.int p3), .val (.int p4), .val (.int p5), .val (.int ka), .val (.int kb), .val (.int c0), .val (.int c1), .val (.int la), .val (.int la), .val (.int b0), .val (.int b1), .val (.int lineB), .val (.int colB), .val (.ref r131), .val (.ref r133), .val (.ref b136), .val (.ref b147), .val (.int (((p0.toUInt32 >>> ((14 : Int32) &&& 31).toUInt32).toInt32) &&& (3 : Int32))), .val (.int te_), .unset] [])) _
                  refine XS.iloadN X158.here hx rfl (hb hby at_334) rfl ?_
                  show Steps p.tables e below (T158.setTop (mkF m 335 #[.val (.int p0), .val (.int p1), .val (.int p2), .val (.int p3), .val (.int p4), .val (.int p5), .val (.int ka), .val (.int kb), .val (.int c0), .val (.int c1), .val (.int la), .val (.int la), .val (.int b0), .val (.int b1), .val (.int lineB), .val (.int colB), .val (.ref r131), .val (.ref r133), .val (.ref b136), .val (.ref b147), .val (.int (((p0.toUInt32 >>> ((14 : Int32) &&& 31).toUInt32).toInt32) &&& (3 : Int32))), .val (.int te_), .unset] [(.int p3)])) _
                  refine XS.iload X158.here hx rfl (hb hby at_335) rfl ?_
                  show Steps p.tables e below (T158.setTop (mkF m 337 #[.val (.int p0), .val (.int p1), .val (.int p2), .val (.int p3), .val (.int p4), .val (.int p5), .val (.int ka), .val (.int kb), .val (.int c0), .val (.int c1), .val (.int la), .val (.int la), .val (.int b0), .val (.int b1), .val (.int lineB), .val (.int colB), .val (.ref r131), .val (.ref r133), .val (.ref b136), .val (.ref b147), .val (.int (((p0.toUInt32 >>> ((14 : Int32) &&& 31).toUInt32).toInt32) &&& (3 : Int32))), .val (.int te_), .unset] [(.int colB), (.int p3)])) _
                  refine XS.icmpNo X158.here hx rfl (hb hby at_337) rfl (teq hm187).2 ?_
                  show Steps p.tables e below (T158.setTop (mkF m 340 #[.val (.int p0), .val (.int p1), .val (.int p2), .val (.int p3), .val (.int p4), .val (.int p5), .val (.int ka), .val (.int kb), .val (.int c0), .val (.int c1), .val (.int la), .val (.int la), .val (.int b0), .val (.int b1), .val (.int lineB), .val (.int colB), .val (.ref r131), .val (.ref r133), .val (.ref b136), .val (.ref b147), .val (.int (((p0.toUInt32 >>> ((14 : Int32) &&& 31).toUInt32).toInt32) &&& (3 : Int32))), .val (.int te_), .unset] [])) _
                  refine XS.iconst X158.here hx rfl (hb hby at_340) ?_
                  show Steps p.tables e below (T158.setTop (mkF m 341 #[.val (.int p0), .val (.int p1), .val (.int p2), .val (.int p3), .val (.int p4), .val (.int p5), .val (.int ka), .val (.int kb), .val (.int c0), .val (.int c1), .val (.int la), .val (.int la), .val (.int b0), .val (.int b1), .val (.int lineB), .val (.int colB), .val (.ref r131), .val (.ref r133), .val (.ref b136), .val (.ref b147), .val (.int (((p0.toUInt32 >>> ((14 : Int32) &&& 31).toUInt32).toInt32) &&& (3 : Int32))), .val (.int te_), .unset] [(.int (1 : Int32))])) _
                  refine XS.goto X158.here hx rfl (pc0 := 341) (pc' := 345) rfl (hb hby at_341) (by decide) (by decide) ?_
                  show Steps p.tables e below (T158.setTop (mkF m 345 #[.val (.int p0), .val (.int p1), .val (.int p2), .val (.int p3), .val (.int p4), .val (.int p5), .val (.int ka), .val (.int kb), .val (.int c0), .val (.int c1), .val (.int la), .val (.int la), .val (.int b0), .val (.int b1), .val (.int lineB), .val (.int colB), .val (.ref r131), .val (.ref r133), .val (.ref b136), .val (.ref b147), .val (.int (((p0.toUInt32 >>> ((14 : Int32) &&& 31).toUInt32).toInt32) &&& (3 : Int32))), .val (.int te_), .unset] [(.int (1 : Int32))])) _
                  exact q
                ·
                  refine ⟨(0 : Int32), by rw [if_pos hm184, if_neg hm185, if_pos hm186, if_neg hm187], fun t q => k183 t (?_)⟩
                  refine XS.icmpNo X158.here hx rfl (hb hby at_320) rfl (teq hm184).2 ?_
                  show Steps p.tables e below (T158.setTop (mkF m 323 #[.val (.int p0), .val (.int p1), .val (.int p2), .val (.int p3), .val (.int p4), .val (.int p5), .val (.int ka), .val (.int kb), .val (.int c0), .val (.int c1), .val (.int la), .val (.int la), .val (.int b0), .val (.int b1), .val (.int lineB), .val (.int colB), .val (.ref r131), .val (.ref r133), .val (.ref b136), .val (.ref b147), .val (.int (((p0.toUInt32 >>> ((14 : Int32) &&& 31).toUInt32).toInt32) &&& (3 : Int32))), .val (.int te_), .unset] [])) _
                  refine XS.iload X158.here hx rfl (hb hby at_323) rfl ?_
                  show Steps p.tables e below (T158.setTop (mkF m 325 #[.val (.int p0), .val (.int p1), .val (.int p2), .val (.int p3), .val (.int p4), .val (.int p5), .val (.int ka), .val (.int kb), .val (.int c0), .val (.int c1), .val (.int la), .val (.int la), .val (.int b0), .val (.int b1), .val (.int lineB), .val (.int colB), .val (.ref r131), .val (.ref r133), .val (.ref b136), .val (.ref b147), .val (.int (((p0.toUInt32 >>> ((14 : Int32) &&& 31).toUInt32).toInt32) &&& (3 : Int32))), .val (.int te_), .unset] [(.int te_)])) _
                  refine XS.ifNo X158.here hx rfl (hb hby at_325) rfl ((if0 _ _).trans (feq hm185).1) ?_
                  show Steps p.tables e below (T158.setTop (mkF m 328 #[.val (.int p0), .val (.int p1), .val (.int p2), .val (.int p3), .val (.int p4), .val (.int p5), .val (.int ka), .val (.int kb), .val (.int c0), .val (.int c1), .val (.int la), .val (.int la), .val (.int b0), .val (.int b1), .val (.int lineB), .val (.int colB), .val (.ref r131), .val (.ref r133), .val (.ref b136), .val (.ref b147), .val (.int (((p0.toUInt32 >>> ((14 : Int32) &&& 31).toUInt32).toInt32) &&& (3 : Int32))), .val (.int te_), .unset] [])) _
                  refine XS.iloadN X158.here hx rfl (hb hby at_328) rfl ?_
                  show Steps p.tables e below (T158.setTop (mkF m 329 #[.val (.int p0), .val (.int p1), .val (.int p2), .val (.int p3), .val (.int p4), .val (.int p5), .val (.int ka), .val (.int kb), .val (.int c0), .val (.int c1), .val (.int la), .val (.int la), .val (.int b0), .val (.int b1), .val (.int lineB), .val (.int colB), .val (.ref r131), .val (.ref r133), .val (.ref b136), .val (.ref b147), .val (.int (((p0.toUInt32 >>> ((14 : Int32) &&& 31).toUInt32).toInt32) &&& (3 : Int32))), .val (.int te_), .unset] [(.int p2)])) _
                  refine XS.iload X158.here hx rfl (hb hby at_329) rfl ?_
                  show Steps p.tables e below (T158.setTop (mkF m 331 #[.val (.int p0), .val (.int p1), .val (.int p2), .val (.int p3), .val (.int p4), .val (.int p5), .val (.int ka), .val (.int kb), .val (.int c0), .val (.int c1), .val (.int la), .val (.int la), .val (.int b0), .val (.int b1), .val (.int lineB), .val (.int colB), .val (.ref r131), .val (.ref r133), .val (.ref b136), .val (.ref b147), .val (.int (((p0.toUInt32 >>> ((14 : Int32) &&& 31).toUInt32).toInt32) &&& (3 : Int32))), .val (.int te_), .unset] [(.int lineB), (.int p2)])) _
                  refine XS.icmpNo X158.here hx rfl (hb hby at_331) rfl (teq hm186).2 ?_
                  show Steps p.tables e below (T158.setTop (mkF m 334 #[.val (.int p0), .val (.int p1), .val (.int p2), .val (.int p3), .val (.int p4), .val (.int p5), .val (.int ka), .val (.int kb), .val (.int c0), .val (.int c1), .val (.int la), .val (.int la), .val (.int b0), .val (.int b1), .val (.int lineB), .val (.int colB), .val (.ref r131), .val (.ref r133), .val (.ref b136), .val (.ref b147), .val (.int (((p0.toUInt32 >>> ((14 : Int32) &&& 31).toUInt32).toInt32) &&& (3 : Int32))), .val (.int te_), .unset] [])) _
                  refine XS.iloadN X158.here hx rfl (hb hby at_334) rfl ?_
                  show Steps p.tables e below (T158.setTop (mkF m 335 #[.val (.int p0), .val (.int p1), .val (.int p2), .val (.int p3), .val (.int p4), .val (.int p5), .val (.int ka), .val (.int kb), .val (.int c0), .val (.int c1), .val (.int la), .val (.int la), .val (.int b0), .val (.int b1), .val (.int lineB), .val (.int colB), .val (.ref r131), .val (.ref r133), .val (.ref b136), .val (.ref b147), .val (.int (((p0.toUInt32 >>> ((14 : Int32) &&& 31).toUInt32).toInt32) &&& (3 : Int32))), .val (.int te_), .unset] [(.int p3)])) _
                  refine XS.iload X158.here hx rfl (hb hby at_335) rfl ?_
                  show Steps p.tables e below (T158.setTop (mkF m 337 #[.val (.int p0), .val (.int p1), .val (.int p2), .val (.int p3), .val (.int p4), .val (.int p5), .val (.int ka), .val (.int kb), .val (.int c0), .val (.int c1), .val (.int la), .val (.int la), .val (.int b0), .val (.int b1), .val (.int lineB), .val (.int colB), .val (.ref r131), .val (.ref r133), .val (.ref b136), .val (.ref b147), .val (.int (((p0.toUInt32 >>> ((14 : Int32) &&& 31).toUInt32).toInt32) &&& (3 : Int32))), .val (.int te_), .unset] [(.int colB), (.int p3)])) _
                  refine XS.icmpYes X158.here hx rfl (pc0 := 337) (pc' := 344) rfl (hb hby at_337) rfl (feq hm187).2 (by decide) (by decide) ?_
                  show Steps p.tables e below (T158.setTop (mkF m 344 #[.val (.int p0), .val (.int p1), .val (.int p2), .val (.int p3), .val (.int p4), .val (.int p5), .val (.int ka), .val (.int kb), .val (.int c0), .val (.int c1), .val (.int la), .val (.int la), .val (.int b0), .val (.int b1), .val (.int lineB), .val (.int colB), .val (.ref r131), .val (.ref r133), .val (.ref b136), .val (.ref b147), .val (.int (((p0.toUInt32 >>> ((14 : Int32) &&& 31).toUInt32).toInt32) &&& (3 : Int32))), .val (.int te_), .unset] [])) _
                  refine XS.iconst X158.here hx rfl (hb hby at_344) ?_
                  show Steps p.tables e below (T158.setTop (mkF m 345 #[.val (.int p0), .val (.int p1), .val (.int p2), .val (.int p3), .val (.int p4), .val (.int p5), .val (.int ka), .val (.int kb), .val (.int c0), .val (.int c1), .val (.int la), .val (.int la), .val (.int b0), .val (.int b1), .val (.int lineB), .val (.int colB), .val (.ref r131), .val (.ref r133), .val (.ref b136), .val (.ref b147), .val (.int (((p0.toUInt32 >>> ((14 : Int32) &&& 31).toUInt32).toInt32) &&& (3 : Int32))), .val (.int te_), .unset] [(.int (0 : Int32))])) _
                  exact q
              ·
                refine ⟨(0 : Int32), by rw [if_pos hm184, if_neg hm185, if_neg hm186], fun t q => k183 t (?_)⟩
                refine XS.icmpNo X158.here hx rfl (hb hby at_320) rfl (teq hm184).2 ?_
                show Steps p.tables e below (T158.setTop (mkF m 323 #[.val (.int p0), .val (.int p1), .val (.int p2), .val (.int p3), .val (.int p4), .val (.int p5), .val (.int ka), .val (.int kb), .val (.int c0), .val (.int c1), .val (.int la), .val (.int la), .val (.int b0), .val (.int b1), .val (.int lineB), .val (.int colB), .val (.ref r131), .val (.ref r133), .val (.ref b136), .val (.ref b147), .val (.int (((p0.toUInt32 >>> ((14 : Int32) &&& 31).toUInt32).toInt32) &&& (3 : Int32))), .val (.int te_), .unset] [])) _
                refine XS.iload X158.here hx rfl (hb hby at_323) rfl ?_
                show Steps p.tables e below (T158.setTop (mkF m 325 #[.val (.int p0), .val (.int p1), .val (.int p2), .val (.int p3), .val (.int p4), .val (.int p5), .val (.int ka), .val (.int kb), .val (.int c0), .val (.int c1), .val (.int la), .val (.int la), .val (.int b0), .val (.int b1), .val (.int lineB), .val (.int colB), .val (.ref r131), .val (.ref r133), .val (.ref b136), .val (.ref b147), .val (.int (((p0.toUInt32 >>> ((14 : Int32) &&& 31).toUInt32).toInt32) &&& (3 : Int32))), .val (.int te_), .unset] [(.int te_)])) _
                refine XS.ifNo X158.here hx rfl (hb hby at_325) rfl ((if0 _ _).trans (feq hm185).1) ?_
                show Steps p.tables e below (T158.setTop (mkF m 328 #[.val (.int p0), .val (.int p1), .val (.int p2), .val (.int p3), .val (.int p4), .val (.int p5), .val (.int ka), .val (.int kb), .val (.int c0), .val (.int c1), .val (.int la), .val (.int la), .val (.int b0), .val (.int b1), .val (.int lineB), .val (.int colB), .val (.ref r131), .val (.ref r133), .val (.ref b136), .val (.ref b147), .val (.int (((p0.toUInt32 >>> ((14 : Int32) &&& 31).toUInt32).toInt32) &&& (3 : Int32))), .val (.int te_), .unset] [])) _
                refine XS.iloadN X158.here hx rfl (hb hby at_328) rfl ?_
                show Steps p.tables e below (T158.setTop (mkF m 329 #[.val (.int p0), .val (.int p1), .val (.int p2), .val (.int p3), .val (.int p4), .val (.int p5), .val (.int ka), .val (.int kb), .val (.int c0), .val (.int c1), .val (.int la), .val (.int la), .val (.int b0), .val (.int b1), .val (.int lineB), .val (.int colB), .val (.ref r131), .val (.ref r133), .val (.ref b136), .val (.ref b147), .val (.int (((p0.toUInt32 >>> ((14 : Int32) &&& 31).toUInt32).toInt32) &&& (3 : Int32))), .val (.int te_), .unset] [(.int p2)])) _
                refine XS.iload X158.here hx rfl (hb hby at_329) rfl ?_
                show Steps p.tables e below (T158.setTop (mkF m 331 #[.val (.int p0), .val (.int p1), .val (.int p2), .val (.int p3), .val (.int p4), .val (.int p5), .val (.int ka), .val (.int kb), .val (.int c0), .val (.int c1), .val (.int la), .val (.int la), .val (.int b0), .val (.int b1), .val (.int lineB), .val (.int colB), .val (.ref r131), .val (.ref r133), .val (.ref b136), .val (.ref b147), .val (.int (((p0.toUInt32 >>> ((14 : Int32) &&& 31).toUInt32).toInt32) &&& (3 : Int32))), .val (.int te_), .unset] [(.int lineB), (.int p2)])) _
                refine XS.icmpYes X158.here hx rfl (pc0 := 331) (pc' := 344) rfl (hb hby at_331) rfl (feq hm186).2 (by decide) (by decide) ?_
                show Steps p.tables e below (T158.setTop (mkF m 344 #[.val (.int p0), .val (.int p1), .val (.int p2), .val (.int p3), .val (.int p4), .val (.int p5), .val (.int ka), .val (.int kb), .val (.int c0), .val (.int c1), .val (.int la), .val (.int la), .val (.int b0), .val (.int b1), .val (.int lineB), .val (.int colB), .val (.ref r131), .val (.ref r133), .val (.ref b136), .val (.ref b147), .val (.int (((p0.toUInt32 >>> ((14 : Int32) &&& 31).toUInt32).toInt32) &&& (3 : Int32))), .val (.int te_), .unset] [])) _
                refine XS.iconst X158.here hx rfl (hb hby at_344) ?_
                show Steps p.tables e below (T158.setTop (mkF m 345 #[.val (.int p0), .val (.int p1), .val (.int p2), .val (.int p3), .val (.int p4), .val (.int p5), .val (.int ka), .val (.int kb), .val (.int c0), .val (.int c1), .val (.int la), .val (.int la), .val (.int b0), .val (.int b1), .val (.int lineB), .val (.int colB), .val (.ref r131), .val (.ref r133), .val (.ref b136), .val (.ref b147), .val (.int (((p0.toUInt32 >>> ((14 : Int32) &&& 31).toUInt32).toInt32) &&& (3 : Int32))), .val (.int te_), .unset] [(.int (0 : Int32))])) _
                exact q
          ·
            refine ⟨(0 : Int32), by rw [if_neg hm184], fun t q => k183 t (?_)⟩
            refine XS.icmpYes X158.here hx rfl (pc0 := 320) (pc' := 344) rfl (hb hby at_320) rfl (feq hm184).2 (by decide) (by decide) ?_
            show Steps p.tables e below (T158.setTop (mkF m 344 #[.val (.int p0), .val (.int p1), .val (.int p2), .val (.int p3), .val (.int p4), .val (.int p5), .val (.int ka), .val (.int kb), .val (.int c0), .val (.int c1), .val (.int la), .val (.int la), .val (.int b0), .val (.int b1), .val (.int lineB), .val (.int colB), .val (.ref r131), .val (.ref r133), .val (.ref b136), .val (.ref b147), .val (.int (((p0.toUInt32 >>> ((14 : Int32) &&& 31).toUInt32).toInt32) &&& (3 : Int32))), .val (.int te_), .unset] [])) _
            refine XS.iconst X158.here hx rfl (hb hby at_344) ?_
            show Steps p.tables e below (T158.setTop (mkF m 345 #[.val (.int p0), .val (.int p1), .val (.int p2), .val (.int p3), .val (.int p4), .val (.int p5), .val (.int ka), .val (.int kb), .val (.int c0), .val (.int c1), .val (.int la), .val (.int la), .val (.int b0), .val (.int b1), .val (.int lineB), .val (.int colB), .val (.ref r131), .val (.ref r133), .val (.ref b136), .val (.ref b147), .val (.int (((p0.toUInt32 >>> ((14 : Int32) &&& 31).toUInt32).toInt32) &&& (3 : Int32))), .val (.int te_), .unset] [(.int (0 : Int32))])) _
            exact q
        have hT := own_txt la la c0 c1 b0 b1 r_la r_la r_c0 r_c1 r_b0 r_b1
        have hK := own_kinj HE ka kb r_ka r_kb
        have hE1 : own_te (own_kind en ka) (own_kind en kb) (own_len la) (own_len la) (own_xs la c0 c1) (own_xs la b0 b1) p2 lineB p3 colB = ex_ := own_fin hK hT hte_ hex_
        have hE2 : own_te (own_kind en kb) (own_kind en ka) (own_len la) (own_len la) (own_xs la b0 b1) (own_xs la c0 c1) lineB p2 colB p3 = ex_ := by rw [own_tesym]; exact hE1
        have hE3 : ¬ own_te (own_kind en ka) (own_kind en ka) (own_len la) (own_len la) (own_xs la c0 c1) (own_xs la c0 c1) p2 p2 p3 p3 = 0 := by rw [own_teE, if_pos ⟨rfl, ⟨rfl, rfl⟩, rfl, rfl⟩]; decide
        have F190 := ((E144.ext E147).keep K158)
        have F191 := ((F144_0.ext E147).keep K158 (ninS ne_b136_b147 nin0))
        have F192 := ((F144_1.ext E147).keep K158 (ninS ne_b136_b147 nin0))
        have F193 := ((F144_2.ext E147).keep K158 (ninS ne_b136_b147 nin0))
        have F194 := ((F144_3.ext E147).keep K158 (ninS ne_b136_b147 nin0))
        have F195 := ((F149.ext E147).keep K158)
        have F196 := (((Fc131.keep K133 nin0).ext E136).keep K144 (ninS ne_r131_b136 nin0))
        have F197 := ((F196.ext E147).keep K158 (ninS ne_r131_b147 nin0))
        have F198 := (((Fv131.keep K133 nin0).ext E136).keep K144 (ninS ne_r131_b136 nin0))
        have F199 := ((F198.ext E147).keep K158 (ninS ne_r131_b147 nin0))
        have F200 := ((F150.ext E147).keep K158 (ninS ne_rb131_b147 nin0))
        have P201 : own_tok Z T158.heap b136 (own_kind en ka) r131 rb131 kb131 (own_len la) (own_xs la c0 c1) p2 p3 := ⟨F190, F191, F192, F193, F194, F195, F197, F199, F200, (own_lenx la c0 c1)⟩
        have F202 := (F160.keep K158)
        have F203 := (((Fc133.ext E136).keep K144 (ninS ne_r133_b136 nin0)).ext E147)
        have F204 := (F203.keep K158 (ninS ne_r133_b147 nin0))
        have F205 := (((Fv133.ext E136).keep K144 (ninS ne_r133_b136 nin0)).ext E147)
        have F206 := (F205.keep K158 (ninS ne_r133_b147 nin0))
        have F207 := ((F152.ext E147).keep K158 (ninS ne_rb133_b147 nin0))
        have P208 : own_tok Z T158.heap b147 (own_kind en kb) r133 rb133 kb133 (own_len la) (own_xs la b0 b1) lineB colB := ⟨E158, F158_0, F158_1, F158_2, F158_3, F202, F204, F206, F207, (own_lenx la b0 b1)⟩
        have K209 : Keep h0 T158.heap [] := (K155.trans K158 (allS (P := fun x => x ∈ ([] : List Addr) ∨ h0.size ≤ x) (Or.inr sz_b147) all0))
        have O210 : Old Z n0 T158.heap := (O156.keep K158 (allS ge_b147 all0))
        obtain ⟨cq189, kq189, q189a, q189b, q189c⟩ := isOf hZ rfl F190
        obtain ⟨_, _, ⟨T189, L189, kk189, n189⟩, -, X189, ⟨Lc189, hQ189, l189, y189, z189⟩, st189⟩ := X158.virtualBack hx (y := (⟨"com/example/vetted_traces/vettedtraces/language/Token", "equals", "(Ljava/lang/Object;)Z"⟩ : MethodName)) (z := (⟨"com/example/vetted_traces/vettedtraces/language/Token", "equals", "(Ljava/lang/Object;)Z"⟩ : MethodName)) hown (mvT hZ (hw _ (List.mem_of_getElem? (i := 60) rfl))) (mvT hZ (hw _ (List.mem_of_getElem? (i := 61) rfl))) (notFace_of_selects (args := #[]) (mvT hZ (hw _ (List.mem_of_getElem? (i := 63) rfl)))) (mvT hZ (hw _ (List.mem_of_getElem? (i := 63) rfl))) (mvT hZ (hw _ (List.mem_of_getElem? (i := 62) rfl))) (by decide) (backOf (W := 0) (rmT1 l Z a0 hw [] b136 b147 (own_kind en ka) r131 rb131 kb131 (own_len la) (own_xs la c0 c1) p2 p3 (own_kind en kb) r133 rb133 kb133 (own_len la) (own_xs la b0 b1) lineB colB cs T158.heap n0 (Nat.le_trans Z0 K209.1) P201 P208 SC hcs O210) hZ (hw _ (List.mem_of_getElem? (i := 64) rfl)) (hw _ (List.mem_of_getElem? (i := 32) rfl)) (by decide) (by decide)) q189a q189c (g := (mkF m 351 #[.val (.int p0), .val (.int p1), .val (.int p2), .val (.int p3), .val (.int p4), .val (.int p5), .val (.int ka), .val (.int kb), .val (.int c0), .val (.int c1), .val (.int la), .val (.int la), .val (.int b0), .val (.int b1), .val (.int lineB), .val (.int colB), .val (.ref r131), .val (.ref r133), .val (.ref b136), .val (.ref b147), .val (.int (((p0.toUInt32 >>> ((14 : Int32) &&& 31).toUInt32).toInt32) &&& (3 : Int32))), .val (.int te_), .val (.int ex_)] [(.ref b147), (.ref b136)])) rfl (by rw [hml]; rfl) (Steps.refl _) (argsL := [(.ref b147)]) (rest := []) (lenOf own_pd5 rfl) rfl (by show 2 * 0 + _ ≤ _; exact Nat.le_of_eq rfl) (hb hby at_351) (fun _ _ => ⟨rfl, rfl, (by decide : 22 + 0 ≤ _), (by decide : 112 + 0 ≤ _)⟩)
        dsimp only [Pt.U, Pt.locs, Pt.cells, Pt.slots] at X189 l189 y189 z189 st189 hQ189
        subst l189 y189 z189
        obtain ⟨rfl, N189q, e189⟩ := hQ189
        have N189 := Fr.app N158 N189q
        have P212 : own_tok Z T158.heap b147 (own_kind en kb) r133 rb133 kb133 (own_len la) (own_xs la b0 b1) lineB colB := ⟨E158, F158_0, F158_1, F158_2, F158_3, F202, F204, F206, F207, (own_lenx la b0 b1)⟩
        have P213 : own_tok Z T158.heap b136 (own_kind en ka) r131 rb131 kb131 (own_len la) (own_xs la c0 c1) p2 p3 := ⟨F190, F191, F192, F193, F194, F195, F197, F199, F200, (own_lenx la c0 c1)⟩
        obtain ⟨cq211, kq211, q211a, q211b, q211c⟩ := isOf hZ e189 E158
        obtain ⟨_, _, ⟨T211, L211, kk211, n211⟩, -, X211, ⟨Lc211, hQ211, l211, y211, z211⟩, st211⟩ := X189.virtualBack hx (y := (⟨"com/example/vetted_traces/vettedtraces/language/Token", "equals", "(Ljava/lang/Object;)Z"⟩ : MethodName)) (z := (⟨"com/example/vetted_traces/vettedtraces/language/Token", "equals", "(Ljava/lang/Object;)Z"⟩ : MethodName)) hown (mvT hZ (hw _ (List.mem_of_getElem? (i := 60) rfl))) (mvT hZ (hw _ (List.mem_of_getElem? (i := 61) rfl))) (notFace_of_selects (args := #[]) (mvT hZ (hw _ (List.mem_of_getElem? (i := 63) rfl)))) (mvT hZ (hw _ (List.mem_of_getElem? (i := 63) rfl))) (mvT hZ (hw _ (List.mem_of_getElem? (i := 62) rfl))) (by decide) (backOf (W := 0) (rmT1 l Z a0 hw [] b147 b136 (own_kind en kb) r133 rb133 kb133 (own_len la) (own_xs la b0 b1) lineB colB (own_kind en ka) r131 rb131 kb131 (own_len la) (own_xs la c0 c1) p2 p3 cs T158.heap n0 (Nat.le_trans Z0 K209.1) P212 P213 SC hcs O210) hZ (hw _ (List.mem_of_getElem? (i := 64) rfl)) (hw _ (List.mem_of_getElem? (i := 32) rfl)) (by decide) (by decide)) q211a q211c (g := (mkF m 363 #[.val (.int p0), .val (.int p1), .val (.int p2), .val (.int p3), .val (.int p4), .val (.int p5), .val (.int ka), .val (.int kb), .val (.int c0), .val (.int c1), .val (.int la), .val (.int la), .val (.int b0), .val (.int b1), .val (.int lineB), .val (.int colB), .val (.ref r131), .val (.ref r133), .val (.ref b136), .val (.ref b147), .val (.int (((p0.toUInt32 >>> ((14 : Int32) &&& 31).toUInt32).toInt32) &&& (3 : Int32))), .val (.int te_), .val (.int ex_)] [(.ref b136), (.ref b147)])) rfl (by rw [hml]; rfl) (Steps.refl _) (argsL := [(.ref b136)]) (rest := []) (lenOf own_pd5 rfl) rfl (by show 2 * 0 + _ ≤ _; exact Nat.le_of_eq rfl) (hb hby at_363) (fun _ _ => ⟨rfl, e189, (by decide : 22 + 0 ≤ _), (by decide : 112 + 0 ≤ _)⟩)
        dsimp only [Pt.U, Pt.locs, Pt.cells, Pt.slots] at X211 l211 y211 z211 st211 hQ211
        subst l211 y211 z211
        obtain ⟨rfl, N211q, e211⟩ := hQ211
        have N211 := Fr.app N189 N211q
        have k214 : own_To p e below T211 (mkF m 373 #[.val (.int p0), .val (.int p1), .val (.int p2), .val (.int p3), .val (.int p4), .val (.int p5), .val (.int ka), .val (.int kb), .val (.int c0), .val (.int c1), .val (.int la), .val (.int la), .val (.int b0), .val (.int b1), .val (.int lineB), .val (.int colB), .val (.ref r131), .val (.ref r133), .val (.ref b136), .val (.ref b147), .val (.int (((p0.toUInt32 >>> ((14 : Int32) &&& 31).toUInt32).toInt32) &&& (3 : Int32))), .val (.int te_), .val (.int ex_)] [(.ref b136)]) s₁ (mkF m 0 #[.val (.int p0), .val (.int p1), .val (.int p2), .val (.int p3), .val (.int p4), .val (.int p5), .unset, .unset, .unset, .unset, .unset, .unset, .unset, .unset, .unset, .unset, .unset, .unset, .unset, .unset, .unset, .unset, .unset] []) := fun t q => k188 t (by
          refine XS.istore X158.here hx rfl (hb hby at_345) rfl (l' := #[.val (.int p0), .val (.int p1), .val (.int p2), .val (.int p3), .val (.int p4), .val (.int p5), .val (.int ka), .val (.int kb), .val (.int c0), .val (.int c1), .val (.int la), .val (.int la), .val (.int b0), .val (.int b1), .val (.int lineB), .val (.int colB), .val (.ref r131), .val (.ref r133), .val (.ref b136), .val (.ref b147), .val (.int (((p0.toUInt32 >>> ((14 : Int32) &&& 31).toUInt32).toInt32) &&& (3 : Int32))), .val (.int te_), .val (.int ex_)]) rfl ?_
          show Steps p.tables e below (T158.setTop (mkF m 347 #[.val (.int p0), .val (.int p1), .val (.int p2), .val (.int p3), .val (.int p4), .val (.int p5), .val (.int ka), .val (.int kb), .val (.int c0), .val (.int c1), .val (.int la), .val (.int la), .val (.int b0), .val (.int b1), .val (.int lineB), .val (.int colB), .val (.ref r131), .val (.ref r133), .val (.ref b136), .val (.ref b147), .val (.int (((p0.toUInt32 >>> ((14 : Int32) &&& 31).toUInt32).toInt32) &&& (3 : Int32))), .val (.int te_), .val (.int ex_)] [])) _
          refine XS.aload X158.here hx rfl (hb hby at_347) rfl rfl ?_
          show Steps p.tables e below (T158.setTop (mkF m 349 #[.val (.int p0), .val (.int p1), .val (.int p2), .val (.int p3), .val (.int p4), .val (.int p5), .val (.int ka), .val (.int kb), .val (.int c0), .val (.int c1), .val (.int la), .val (.int la), .val (.int b0), .val (.int b1), .val (.int lineB), .val (.int colB), .val (.ref r131), .val (.ref r133), .val (.ref b136), .val (.ref b147), .val (.int (((p0.toUInt32 >>> ((14 : Int32) &&& 31).toUInt32).toInt32) &&& (3 : Int32))), .val (.int te_), .val (.int ex_)] [(.ref b136)])) _
          refine XS.aload X158.here hx rfl (hb hby at_349) rfl rfl ?_
          show Steps p.tables e below (T158.setTop (mkF m 351 #[.val (.int p0), .val (.int p1), .val (.int p2), .val (.int p3), .val (.int p4), .val (.int p5), .val (.int ka), .val (.int kb), .val (.int c0), .val (.int c1), .val (.int la), .val (.int la), .val (.int b0), .val (.int b1), .val (.int lineB), .val (.int colB), .val (.ref r131), .val (.ref r133), .val (.ref b136), .val (.ref b147), .val (.int (((p0.toUInt32 >>> ((14 : Int32) &&& 31).toUInt32).toInt32) &&& (3 : Int32))), .val (.int te_), .val (.int ex_)] [(.ref b147), (.ref b136)])) _
          refine st189.trans ?_
          show Steps p.tables e below (T189.setTop (mkF m 354 #[.val (.int p0), .val (.int p1), .val (.int p2), .val (.int p3), .val (.int p4), .val (.int p5), .val (.int ka), .val (.int kb), .val (.int c0), .val (.int c1), .val (.int la), .val (.int la), .val (.int b0), .val (.int b1), .val (.int lineB), .val (.int colB), .val (.ref r131), .val (.ref r133), .val (.ref b136), .val (.ref b147), .val (.int (((p0.toUInt32 >>> ((14 : Int32) &&& 31).toUInt32).toInt32) &&& (3 : Int32))), .val (.int te_), .val (.int ex_)] [(.int (own_te (own_kind en ka) (own_kind en kb) (own_len la) (own_len la) (own_xs la c0 c1) (own_xs la b0 b1) p2 lineB p3 colB))])) _
          refine XS.iload X189.here hx rfl (hb hby at_354) rfl ?_
          show Steps p.tables e below (T189.setTop (mkF m 356 #[.val (.int p0), .val (.int p1), .val (.int p2), .val (.int p3), .val (.int p4), .val (.int p5), .val (.int ka), .val (.int kb), .val (.int c0), .val (.int c1), .val (.int la), .val (.int la), .val (.int b0), .val (.int b1), .val (.int lineB), .val (.int colB), .val (.ref r131), .val (.ref r133), .val (.ref b136), .val (.ref b147), .val (.int (((p0.toUInt32 >>> ((14 : Int32) &&& 31).toUInt32).toInt32) &&& (3 : Int32))), .val (.int te_), .val (.int ex_)] [(.int ex_), (.int (own_te (own_kind en ka) (own_kind en kb) (own_len la) (own_len la) (own_xs la c0 c1) (own_xs la b0 b1) p2 lineB p3 colB))])) _
          refine XS.icmpNo X189.here hx rfl (hb hby at_356) rfl (teq hE1).2 ?_
          show Steps p.tables e below (T189.setTop (mkF m 359 #[.val (.int p0), .val (.int p1), .val (.int p2), .val (.int p3), .val (.int p4), .val (.int p5), .val (.int ka), .val (.int kb), .val (.int c0), .val (.int c1), .val (.int la), .val (.int la), .val (.int b0), .val (.int b1), .val (.int lineB), .val (.int colB), .val (.ref r131), .val (.ref r133), .val (.ref b136), .val (.ref b147), .val (.int (((p0.toUInt32 >>> ((14 : Int32) &&& 31).toUInt32).toInt32) &&& (3 : Int32))), .val (.int te_), .val (.int ex_)] [])) _
          refine XS.aload X189.here hx rfl (hb hby at_359) rfl rfl ?_
          show Steps p.tables e below (T189.setTop (mkF m 361 #[.val (.int p0), .val (.int p1), .val (.int p2), .val (.int p3), .val (.int p4), .val (.int p5), .val (.int ka), .val (.int kb), .val (.int c0), .val (.int c1), .val (.int la), .val (.int la), .val (.int b0), .val (.int b1), .val (.int lineB), .val (.int colB), .val (.ref r131), .val (.ref r133), .val (.ref b136), .val (.ref b147), .val (.int (((p0.toUInt32 >>> ((14 : Int32) &&& 31).toUInt32).toInt32) &&& (3 : Int32))), .val (.int te_), .val (.int ex_)] [(.ref b147)])) _
          refine XS.aload X189.here hx rfl (hb hby at_361) rfl rfl ?_
          show Steps p.tables e below (T189.setTop (mkF m 363 #[.val (.int p0), .val (.int p1), .val (.int p2), .val (.int p3), .val (.int p4), .val (.int p5), .val (.int ka), .val (.int kb), .val (.int c0), .val (.int c1), .val (.int la), .val (.int la), .val (.int b0), .val (.int b1), .val (.int lineB), .val (.int colB), .val (.ref r131), .val (.ref r133), .val (.ref b136), .val (.ref b147), .val (.int (((p0.toUInt32 >>> ((14 : Int32) &&& 31).toUInt32).toInt32) &&& (3 : Int32))), .val (.int te_), .val (.int ex_)] [(.ref b136), (.ref b147)])) _
          refine st211.trans ?_
          show Steps p.tables e below (T211.setTop (mkF m 366 #[.val (.int p0), .val (.int p1), .val (.int p2), .val (.int p3), .val (.int p4), .val (.int p5), .val (.int ka), .val (.int kb), .val (.int c0), .val (.int c1), .val (.int la), .val (.int la), .val (.int b0), .val (.int b1), .val (.int lineB), .val (.int colB), .val (.ref r131), .val (.ref r133), .val (.ref b136), .val (.ref b147), .val (.int (((p0.toUInt32 >>> ((14 : Int32) &&& 31).toUInt32).toInt32) &&& (3 : Int32))), .val (.int te_), .val (.int ex_)] [(.int (own_te (own_kind en kb) (own_kind en ka) (own_len la) (own_len la) (own_xs la b0 b1) (own_xs la c0 c1) lineB p2 colB p3))])) _
          refine XS.iload X211.here hx rfl (hb hby at_366) rfl ?_
          show Steps p.tables e below (T211.setTop (mkF m 368 #[.val (.int p0), .val (.int p1), .val (.int p2), .val (.int p3), .val (.int p4), .val (.int p5), .val (.int ka), .val (.int kb), .val (.int c0), .val (.int c1), .val (.int la), .val (.int la), .val (.int b0), .val (.int b1), .val (.int lineB), .val (.int colB), .val (.ref r131), .val (.ref r133), .val (.ref b136), .val (.ref b147), .val (.int (((p0.toUInt32 >>> ((14 : Int32) &&& 31).toUInt32).toInt32) &&& (3 : Int32))), .val (.int te_), .val (.int ex_)] [(.int ex_), (.int (own_te (own_kind en kb) (own_kind en ka) (own_len la) (own_len la) (own_xs la b0 b1) (own_xs la c0 c1) lineB p2 colB p3))])) _
          refine XS.icmpNo X211.here hx rfl (hb hby at_368) rfl (teq hE2).2 ?_
          show Steps p.tables e below (T211.setTop (mkF m 371 #[.val (.int p0), .val (.int p1), .val (.int p2), .val (.int p3), .val (.int p4), .val (.int p5), .val (.int ka), .val (.int kb), .val (.int c0), .val (.int c1), .val (.int la), .val (.int la), .val (.int b0), .val (.int b1), .val (.int lineB), .val (.int colB), .val (.ref r131), .val (.ref r133), .val (.ref b136), .val (.ref b147), .val (.int (((p0.toUInt32 >>> ((14 : Int32) &&& 31).toUInt32).toInt32) &&& (3 : Int32))), .val (.int te_), .val (.int ex_)] [])) _
          refine XS.aload X211.here hx rfl (hb hby at_371) rfl rfl ?_
          show Steps p.tables e below (T211.setTop (mkF m 373 #[.val (.int p0), .val (.int p1), .val (.int p2), .val (.int p3), .val (.int p4), .val (.int p5), .val (.int ka), .val (.int kb), .val (.int c0), .val (.int c1), .val (.int la), .val (.int la), .val (.int b0), .val (.int b1), .val (.int lineB), .val (.int colB), .val (.ref r131), .val (.ref r133), .val (.ref b136), .val (.ref b147), .val (.int (((p0.toUInt32 >>> ((14 : Int32) &&& 31).toUInt32).toInt32) &&& (3 : Int32))), .val (.int te_), .val (.int ex_)] [(.ref b136)])) _
          exact q)
        have P216 : own_tok Z T158.heap b136 (own_kind en ka) r131 rb131 kb131 (own_len la) (own_xs la c0 c1) p2 p3 := ⟨F190, F191, F192, F193, F194, F195, F197, F199, F200, (own_lenx la c0 c1)⟩
        obtain ⟨cq215, kq215, q215a, q215b, q215c⟩ := isOf hZ e211 F190
        obtain ⟨_, _, ⟨T215, L215, kk215, n215⟩, -, X215, ⟨Lc215, hQ215, l215, y215, z215⟩, st215⟩ := X211.virtualBack hx (y := (⟨"com/example/vetted_traces/vettedtraces/language/Token", "equals", "(Ljava/lang/Object;)Z"⟩ : MethodName)) (z := (⟨"com/example/vetted_traces/vettedtraces/language/Token", "equals", "(Ljava/lang/Object;)Z"⟩ : MethodName)) hown (mvT hZ (hw _ (List.mem_of_getElem? (i := 60) rfl))) (mvT hZ (hw _ (List.mem_of_getElem? (i := 61) rfl))) (notFace_of_selects (args := #[]) (mvT hZ (hw _ (List.mem_of_getElem? (i := 63) rfl)))) (mvT hZ (hw _ (List.mem_of_getElem? (i := 63) rfl))) (mvT hZ (hw _ (List.mem_of_getElem? (i := 62) rfl))) (by decide) (backOf (W := 0) (rmT1 l Z a0 hw [] b136 b136 (own_kind en ka) r131 rb131 kb131 (own_len la) (own_xs la c0 c1) p2 p3 (own_kind en ka) r131 rb131 kb131 (own_len la) (own_xs la c0 c1) p2 p3 cs T158.heap n0 (Nat.le_trans Z0 K209.1) P216 P216 SC hcs O210) hZ (hw _ (List.mem_of_getElem? (i := 64) rfl)) (hw _ (List.mem_of_getElem? (i := 32) rfl)) (by decide) (by decide)) q215a q215c (g := (mkF m 375 #[.val (.int p0), .val (.int p1), .val (.int p2), .val (.int p3), .val (.int p4), .val (.int p5), .val (.int ka), .val (.int kb), .val (.int c0), .val (.int c1), .val (.int la), .val (.int la), .val (.int b0), .val (.int b1), .val (.int lineB), .val (.int colB), .val (.ref r131), .val (.ref r133), .val (.ref b136), .val (.ref b147), .val (.int (((p0.toUInt32 >>> ((14 : Int32) &&& 31).toUInt32).toInt32) &&& (3 : Int32))), .val (.int te_), .val (.int ex_)] [(.ref b136), (.ref b136)])) rfl (by rw [hml]; rfl) (Steps.refl _) (argsL := [(.ref b136)]) (rest := []) (lenOf own_pd5 rfl) rfl (by show 2 * 0 + _ ≤ _; exact Nat.le_of_eq rfl) (hb hby at_375) (fun _ _ => ⟨rfl, e211, (by decide : 22 + 0 ≤ _), (by decide : 112 + 0 ≤ _)⟩)
        dsimp only [Pt.U, Pt.locs, Pt.cells, Pt.slots] at X215 l215 y215 z215 st215 hQ215
        subst l215 y215 z215
        obtain ⟨rfl, N215q, e215⟩ := hQ215
        have N215 := Fr.app N211 N215q
        have k217 : own_To p e below T215 (mkF m 386 #[.val (.int p0), .val (.int p1), .val (.int p2), .val (.int p3), .val (.int p4), .val (.int p5), .val (.int ka), .val (.int kb), .val (.int c0), .val (.int c1), .val (.int la), .val (.int la), .val (.int b0), .val (.int b1), .val (.int lineB), .val (.int colB), .val (.ref r131), .val (.ref r133), .val (.ref b136), .val (.ref b147), .val (.int (((p0.toUInt32 >>> ((14 : Int32) &&& 31).toUInt32).toInt32) &&& (3 : Int32))), .val (.int te_), .val (.int ex_)] [(.int (1 : Int32))]) s₁ (mkF m 0 #[.val (.int p0), .val (.int p1), .val (.int p2), .val (.int p3), .val (.int p4), .val (.int p5), .unset, .unset, .unset, .unset, .unset, .unset, .unset, .unset, .unset, .unset, .unset, .unset, .unset, .unset, .unset, .unset, .unset] []) := fun t q => k214 t (by
          refine XS.aload X211.here hx rfl (hb hby at_373) rfl rfl ?_
          show Steps p.tables e below (T211.setTop (mkF m 375 #[.val (.int p0), .val (.int p1), .val (.int p2), .val (.int p3), .val (.int p4), .val (.int p5), .val (.int ka), .val (.int kb), .val (.int c0), .val (.int c1), .val (.int la), .val (.int la), .val (.int b0), .val (.int b1), .val (.int lineB), .val (.int colB), .val (.ref r131), .val (.ref r133), .val (.ref b136), .val (.ref b147), .val (.int (((p0.toUInt32 >>> ((14 : Int32) &&& 31).toUInt32).toInt32) &&& (3 : Int32))), .val (.int te_), .val (.int ex_)] [(.ref b136), (.ref b136)])) _
          refine st215.trans ?_
          show Steps p.tables e below (T215.setTop (mkF m 378 #[.val (.int p0), .val (.int p1), .val (.int p2), .val (.int p3), .val (.int p4), .val (.int p5), .val (.int ka), .val (.int kb), .val (.int c0), .val (.int c1), .val (.int la), .val (.int la), .val (.int b0), .val (.int b1), .val (.int lineB), .val (.int colB), .val (.ref r131), .val (.ref r133), .val (.ref b136), .val (.ref b147), .val (.int (((p0.toUInt32 >>> ((14 : Int32) &&& 31).toUInt32).toInt32) &&& (3 : Int32))), .val (.int te_), .val (.int ex_)] [(.int (own_te (own_kind en ka) (own_kind en ka) (own_len la) (own_len la) (own_xs la c0 c1) (own_xs la c0 c1) p2 p2 p3 p3))])) _
          refine XS.ifNo X215.here hx rfl (hb hby at_378) rfl ((if0 _ _).trans (feq hE3).1) ?_
          show Steps p.tables e below (T215.setTop (mkF m 381 #[.val (.int p0), .val (.int p1), .val (.int p2), .val (.int p3), .val (.int p4), .val (.int p5), .val (.int ka), .val (.int kb), .val (.int c0), .val (.int c1), .val (.int la), .val (.int la), .val (.int b0), .val (.int b1), .val (.int lineB), .val (.int colB), .val (.ref r131), .val (.ref r133), .val (.ref b136), .val (.ref b147), .val (.int (((p0.toUInt32 >>> ((14 : Int32) &&& 31).toUInt32).toInt32) &&& (3 : Int32))), .val (.int te_), .val (.int ex_)] [])) _
          refine XS.iconst X215.here hx rfl (hb hby at_381) ?_
          show Steps p.tables e below (T215.setTop (mkF m 382 #[.val (.int p0), .val (.int p1), .val (.int p2), .val (.int p3), .val (.int p4), .val (.int p5), .val (.int ka), .val (.int kb), .val (.int c0), .val (.int c1), .val (.int la), .val (.int la), .val (.int b0), .val (.int b1), .val (.int lineB), .val (.int colB), .val (.ref r131), .val (.ref r133), .val (.ref b136), .val (.ref b147), .val (.int (((p0.toUInt32 >>> ((14 : Int32) &&& 31).toUInt32).toInt32) &&& (3 : Int32))), .val (.int te_), .val (.int ex_)] [(.int (1 : Int32))])) _
          refine XS.goto X215.here hx rfl (pc0 := 382) (pc' := 386) rfl (hb hby at_382) (by decide) (by decide) ?_
          show Steps p.tables e below (T215.setTop (mkF m 386 #[.val (.int p0), .val (.int p1), .val (.int p2), .val (.int p3), .val (.int p4), .val (.int p5), .val (.int ka), .val (.int kb), .val (.int c0), .val (.int c1), .val (.int la), .val (.int la), .val (.int b0), .val (.int b1), .val (.int lineB), .val (.int colB), .val (.ref r131), .val (.ref r133), .val (.ref b136), .val (.ref b147), .val (.int (((p0.toUInt32 >>> ((14 : Int32) &&& 31).toUInt32).toInt32) &&& (3 : Int32))), .val (.int te_), .val (.int ex_)] [(.int (1 : Int32))])) _
          exact q)
        have hCe := CRl158.trans (CHv.at (vm0 := T158.vm) X215 hZ hEL CHl158)
        obtain ⟨fs, hr, hrun, hended, hEnd⟩ := Stand.leaveW (s := s) (vm₁ := T158.vm) X215 hSn158 (by rw [e215]; exact (Nat.le_refl _)) (v := some (.int (1 : Int32))) (fun h => by rw [Bd.returns] at h; cases h)
        refine ⟨_, _, k0 _ (k217 _ ?_), hrun, hended, _, _, rfl, ?_, ?_, hEnd.1, hEnd.2.1, hEnd.2.2.1, hEnd.2.2.2.mono (by decide) (by decide)⟩
        · show Steps p.tables e below (T215.setTop (mkF m 386 #[.val (.int p0), .val (.int p1), .val (.int p2), .val (.int p3), .val (.int p4), .val (.int p5), .val (.int ka), .val (.int kb), .val (.int c0), .val (.int c1), .val (.int la), .val (.int la), .val (.int b0), .val (.int b1), .val (.int lineB), .val (.int colB), .val (.ref r131), .val (.ref r133), .val (.ref b136), .val (.ref b147), .val (.int (((p0.toUInt32 >>> ((14 : Int32) &&& 31).toUInt32).toInt32) &&& (3 : Int32))), .val (.int te_), .val (.int ex_)] [(.int (1 : Int32))])) _
          exact retN X215 hx (t := .boolean) Bd.returns (by simp) (hb hby at_386) hr
        · show Q0 Z p0 p1 p2 p3 p4 p5 en cs h0 n0 _ T215.heap _
          rw [e215]
          exact ⟨rfl, N215⟩
        · show CHr Z own_EL s.vm s.heap T215.vm T215.heap
          rw [hh, e215]; exact hCe
theorem own_ord {s : State} {args : Array Value} {t : Term} {x : Addr} {k : Int32} (ev : t.eval args s none [] s = some (.ref x)) (h : (Jvm.Cond.eq (Term.field t "java/lang/Enum" "ordinal" "I") (Term.int k)).value args s none s [] = some true) : Fld s s.heap x "java/lang/Enum" "ordinal" "I" (.int k) :=
  Fld.start (by rw [← fld_at ev]; exact Cond.eq_int (by simp [Cond.holds, h]) (Term.int_eval k))
set_option maxRecDepth 65536 in
set_option maxHeartbeats 40000000 in
theorem comes_1 {Post : Tables → Env → Array Value → State → Outcome → State → Prop} (hpost : ∀ tb e args s v u, (limb_1_1.after args s (.returned v) u = true ∧ limb_1_2.after args s (.returned v) u = true ∧ True) → ReturnedEndW s (.returned v) u (Jvm.fieldLocs frame_1_writes args s ++ Jvm.arrayLocs frame_1_arrays args s ++ Jvm.staticLocs frame_1_statics s) 32 3200 → Post tb e args s (.returned v) u) :
    ArmFor flags0 classFile x code maxLocals ret World_1 tables_1 room_1 Calls_1 rest_1 Pre_1 Post := by
  intro l hfl _ _ p e ha hc hk s m args below hf hA hF happ hP
  obtain ⟨hcalls, hrest, hpre⟩ := hP
  obtain ⟨-, -, -, hnamed, -, -, -, hat⟩ := (Spec.applies_iff hf).mp happ
  obtain ⟨hg, hn⟩ := and_e (Cond.before_iff.mp (show (Jvm.Cond.and given_1 narrow_1).before args s = true from hpre))
  obtain ⟨hgc, hg0⟩ := and_e hg
  obtain ⟨ga0, hg1⟩ := and_e hg0
  obtain ⟨ga1, hg2⟩ := and_e hg1
  obtain ⟨ga2, hg3⟩ := and_e hg2
  obtain ⟨ga3, hg4⟩ := and_e hg3
  obtain ⟨ga4, hg5⟩ := and_e hg4
  obtain ⟨w0, w1, w2, w3, w4, w5, rfl⟩ : ∃ w0 w1 w2 w3 w4 w5 : Value, args = #[w0, w1, w2, w3, w4, w5] := by
    have hs : args.size = 6 := by simpa [Cond.value, given_1] using hgc
    obtain ⟨L⟩ := args
    match L, hs with
    | [w0, w1, w2, w3, w4, w5], _ => exact ⟨w0, w1, w2, w3, w4, w5, rfl⟩
  have hw := fun d (hd : d ∈ tables_1) => atoms_spec (ws := Jvm.Cond.code x code maxLocals ret :: tables_1) hat d (List.mem_cons_of_mem _ hd)
  have hfit : Fit s := fun {y c} hc i hi => by
    obtain ⟨ha, rfl⟩ := Array.getElem?_eq_some_iff.mp hc
    have q := List.all_eq_true.mp ((Array.all_eq_true_iff_forall_mem.mp hF) _ (Array.getElem_mem ha)) i (List.mem_range.mpr hi)
    simpa [Array.getElem?_eq_getElem hi] using q
  obtain ⟨hsets, hown0⟩ := atoms_of _ (rest_1_c_eq ▸ (show rest_1_c.before _ s = true from hrest))
  have hr0 := Cond.before_iff.mp hown0
  obtain ⟨i0, ei0⟩ := is_v ga0
  obtain rfl : w0 = (.int i0) := Option.some.inj ei0
  obtain ⟨i1, ei1⟩ := is_v ga1
  obtain rfl : w1 = (.int i1) := Option.some.inj ei1
  obtain ⟨i2, ei2⟩ := is_v ga2
  obtain rfl : w2 = (.int i2) := Option.some.inj ei2
  obtain ⟨i3, ei3⟩ := is_v ga3
  obtain rfl : w3 = (.int i3) := Option.some.inj ei3
  obtain ⟨i4, ei4⟩ := is_v ga4
  obtain rfl : w4 = (.int i4) := Option.some.inj ei4
  obtain ⟨i5, ei5⟩ := is_v hg5
  obtain rfl : w5 = (.int i5) := Option.some.inj ei5
  obtain ⟨c0, hn0⟩ := and_e hn
  obtain ⟨c1, hn1⟩ := and_e hn0
  obtain ⟨c2, hn2⟩ := and_e hn1
  obtain ⟨c3, hn3⟩ := and_e hn2
  obtain ⟨c4, hn4⟩ := and_e hn3
  obtain ⟨c5, hn5⟩ := and_e hn4
  obtain ⟨c6, hn6⟩ := and_e hn5
  obtain ⟨e0, v0⟩ := exa_v c0
  have x0 := Exa.start v0 c0
  have s0 := Sta.start v0 (Or.inr ⟨(hw _ (List.mem_of_getElem? (i := 37) rfl)), (hw _ (List.mem_of_getElem? (i := 38) rfl))⟩)
  have o0 := own_ord v0 c5
  obtain ⟨e1, v1⟩ := exa_v c1
  have x1 := Exa.start v1 c1
  have s1 := Sta.start v1 (Or.inr ⟨(hw _ (List.mem_of_getElem? (i := 37) rfl)), (hw _ (List.mem_of_getElem? (i := 79) rfl))⟩)
  have o1 := own_ord v1 c6
  obtain ⟨e2, v2⟩ := exa_v c3
  have x2 := Exa.start v2 c3
  have s2 := Sta.start v2 (Or.inr ⟨(hw _ (List.mem_of_getElem? (i := 37) rfl)), (hw _ (List.mem_of_getElem? (i := 93) rfl))⟩)
  have o2 := own_ord v2 hn6
  obtain ⟨e3, v3⟩ := exa_v c2
  have x3 := Exa.start v3 c2
  have s3 := Sta.start v3 (Or.inr ⟨(hw _ (List.mem_of_getElem? (i := 37) rfl)), (hw _ (List.mem_of_getElem? (i := 91) rfl))⟩)
  have o3 := own_ord v3 c4
  have HE : own_en s (fun i => match i with | 0 => e0 | 1 => e1 | 2 => e2 | _ => e3) := ⟨⟨s0, s1, s2, s3⟩, fun i hi => match i, hi with | 0, _ => x0 | 1, _ => x1 | 2, _ => x2 | 3, _ => x3, fun i hi => match i, hi with | 0, _ => o0 | 1, _ => o1 | 2, _ => o2 | 3, _ => o3⟩
  obtain ⟨cs, ecs⟩ := is_v (Cond.before_iff.mp (hsets _ (List.mem_of_getElem? (i := 1) rfl)))
  have SC := Sta.start ecs (Or.inl (hsets _ (List.mem_of_getElem? (i := 0) rfl)))
  have hcs : ¬ cs = (0 : Int32) := gotF (Cond.eq_ints ecs (Term.int_eval 0)) (by have q := not_v (Cond.before_iff.mp (hsets _ (List.mem_of_getElem? (i := 2) rfl))); exact q)
  have hEL := own_EW s _ hw
  have hCH : CHv s own_EL s.vm s.heap := CHv.start hEL (fun p hp => hcalls.1 p hp) (hsets _ (List.mem_of_getElem? (i := 2) rfl)) (hw _ (List.mem_of_getElem? (i := 23) rfl)) (hw _ (List.mem_of_getElem? (i := 9) rfl))
  obtain ⟨n, o, h1, h2, h3, _, L, rfl, ⟨rfl, N⟩, -, hq⟩ := rm0 l s _ hw tables_1 i0 i1 i2 i3 i4 i5 _ cs s.heap s.heap.size (Nat.le_refl _) HE SC hcs (Old.start s) hEL p e ha hc hk s m _ below hf ((Spec.applies_iff_loose hf).mp happ).1 ⟨rfl, State.Warmed39.refl s, rfl, hCH⟩ trivial
  refine ⟨n, _, h1, h2, h3, hpost _ _ _ _ _ _ ⟨Cond.after_iff.mpr rfl, Cond.after_iff.mpr (eq_i res_at (Term.int_eval (1)) rfl), trivial⟩ ⟨hq.1, hq.2.1, hq.2.2.1, (hq.2.2.2.sift fun y hy => Or.inr (N y hy)).mono (by decide) (by decide)⟩⟩
theorem main_1_1 : Claimed_1_1 := comes_1 fun _ _ _ _ _ _ h hF => ⟨h.1, hF⟩
theorem main_1_2 : Claimed_1_2 := comes_1 fun _ _ _ _ _ _ h hF => ⟨h.2.1, hF⟩
end Jvm.Pilot.@@N@@
namespace Jvm.Pilot.@@N@@
open Jvm Jvm.ClassFile Sem Op Lib Jvm.Free Jvm.Stand Jvm.Pilot.@@N@@.Jvm.D
/-! MADE BY PROGRAM (witnessworld.py) out of the Statement's table words and the real class files: 24 classes; the members and pool entries that the words name. The judged class is class 1, her method 3. -/
namespace start1
open Jvm.ClassFile
def u (s : String) : CpInfo := .utf8 (stringToUtf16 s)
/-- a pool by its gaps: so many unusable entries, then the entry; so many at the end -/
def gap : Nat → List CpInfo → List CpInfo
  | 0, r => r
  | n + 1, r => .unusable :: gap n r
def poolList (es : List (Nat × CpInfo)) (last : Nat) : List CpInfo := es.foldr (fun e r => gap e.1 (e.2 :: r)) (gap last [])
def pool (es : List (Nat × CpInfo)) (last : Nat) : Array CpInfo := ⟨poolList es last⟩
def fileOf (pool : Array CpInfo) (this : Nat) (attrs : Array Attribute := #[]) (ms : Array MethodInfo := #[]) (fl : Nat := 33) (sup : Nat := 0) (ifs : Array Nat := #[]) (fds : Array FieldInfo := #[]) : ClassFile where
  minorVersion := 0
  majorVersion := 65
  constantPool := pool
  accessFlags := fl
  thisClass := this
  superClass := sup
  interfaces := ifs
  fields := fds
  methods := ms
  attributes := attrs
def plain (name : String) (sup : Option ClassId) : Class where
  name := name
  kind := .ordinary
  loader := none
  accessFlags := 33
  super := sup
  interfaces := #[]
  cf := none
  fields := #[]
  methods := #[]
  instanceTypes := #[]
  staticTypes := #[]
  resolved := #[]
  callSites := []
  init := .initialized
  statics := none
  mirror := none

def pool0 : Array CpInfo := pool [(5, u "<init>"), (0, u "()V"), (1, .class_ 10), (1, u "java/lang/Object")] 113

def k0c0 : Code := { maxStack := 0, maxLocals := 1, code := object_method_1_code, exceptionTable := #[], attributes := #[] }
def k0m0 : Method := { name := "<init>", desc := "()V", sig := { parameters := [], returnType := none }, accessFlags := 1, code := some k0c0 }
/-- java/lang/Object -/
def k0 : Class := { plain "java/lang/Object" none with
  accessFlags := 33
  interfaces := #[]
  cf := some (fileOf pool0 8 #[] #[{ accessFlags := 1, nameIndex := 5, descriptorIndex := 6, attributes := #[] }] 33 0 #[] #[])
  fields := #[]
  methods := #[k0m0]
  instanceTypes := #[]
  staticTypes := #[]
  resolved := Array.replicate 124 none
  statics := none }

def pool1 : Array CpInfo := pool [(2, .class_ 4), (1, u "java/lang/Object"), (0, u "<init>"), (0, u "()V"), (0, .fieldref 8 9), (0, .class_ 10), (0, .nameAndType 11 12), (0, u "com/example/vetted_traces/vettedtraces/language/TokenKind"), (0, u "NAME"), (0, u "Lcom/example/vetted_traces/vettedtraces/language/TokenKind;"), (0, .fieldref 8 14), (0, .nameAndType 15 12), (0, u "INTEGER"), (0, .fieldref 8 17), (0, .nameAndType 18 12), (0, u "PLUS"), (0, .fieldref 8 20), (0, .nameAndType 21 12), (0, u "END"), (0, .class_ 23), (0, u "java/lang/String"), (0, .methodref 22 25), (0, .nameAndType 5 26), (0, u "([C)V"), (0, .methodref 28 29), (0, .class_ 30), (0, .nameAndType 31 32), (0, u "java/lang/Math"), (0, u "min"), (0, u "(II)I"), (0, .methodref 34 35), (0, .class_ 36), (0, .nameAndType 37 38), (0, u "com/example/vetted_traces/vettedtraces/language/TokenEqualsPinLaw"), (0, u "str"), (0, u "(ICC)Ljava/lang/String;"), (0, .class_ 40), (0, u "com/example/vetted_traces/vettedtraces/language/Token"), (0, .methodref 34 42), (0, .nameAndType 43 44), (0, u "kind"), (0, u "(I)Lcom/example/vetted_traces/vettedtraces/language/TokenKind;"), (0, .methodref 39 46), (0, .nameAndType 5 47), (0, u "(Lcom/example/vetted_traces/vettedtraces/language/TokenKind;Ljava/lang/String;II)V"), (0, .methodref 39 49), (0, .nameAndType 50 51), (0, u "equals"), (0, u "(Ljava/lang/Object;)Z"), (3, u "law"), (0, u "(IIIIII)Z")] 2

def k1m0 : Method := { name := "<init>", desc := "()V", sig := { parameters := [], returnType := none }, accessFlags := 1, code := none }
def k1c1 : Code := { maxStack := 1, maxLocals := 1, code := method_2_code, exceptionTable := #[], attributes := #[] }
def k1m1 : Method := { name := "kind", desc := "(I)Lcom/example/vetted_traces/vettedtraces/language/TokenKind;", sig := { parameters := [.int], returnType := some (.object "com/example/vetted_traces/vettedtraces/language/TokenKind") }, accessFlags := 10, code := some k1c1 }
def k1c2 : Code := { maxStack := 6, maxLocals := 3, code := method_3_code, exceptionTable := #[], attributes := #[] }
def k1m2 : Method := { name := "str", desc := "(ICC)Ljava/lang/String;", sig := { parameters := [.int, .char, .char], returnType := some (.object "java/lang/String") }, accessFlags := 10, code := some k1c2 }
def k1c3 : Code := { maxStack := 6, maxLocals := 23, code := code, exceptionTable := #[], attributes := #[] }
def k1m3 : Method := { name := "law", desc := "(IIIIII)Z", sig := { parameters := [.int, .int, .int, .int, .int, .int], returnType := some .boolean }, accessFlags := 9, code := some k1c3 }
/-- com/example/vetted_traces/vettedtraces/language/TokenEqualsPinLaw -/
def k1 : Class := { plain "com/example/vetted_traces/vettedtraces/language/TokenEqualsPinLaw" (some 0) with
  accessFlags := 49
  interfaces := #[]
  cf := some (fileOf pool1 34 #[] #[{ accessFlags := 1, nameIndex := 5, descriptorIndex := 6, attributes := #[] }, { accessFlags := 10, nameIndex := 43, descriptorIndex := 44, attributes := #[] }, { accessFlags := 10, nameIndex := 37, descriptorIndex := 38, attributes := #[] }, { accessFlags := 9, nameIndex := 55, descriptorIndex := 56, attributes := #[] }] 49 2 #[] #[])
  fields := #[]
  methods := #[k1m0, k1m1, k1m2, k1m3]
  instanceTypes := #[]
  staticTypes := #[]
  resolved := Array.replicate 59 none
  statics := none }

def pool2 : Array CpInfo := pool [(1, .class_ 2), (0, u "java/lang/Math"), (1, .class_ 6), (1, u "java/lang/Object"), (0, u "<init>"), (0, u "()V"), (89, .class_ 100), (1, u "java/lang/Math$RandomNumberGeneratorHolder"), (71, u "negativeZeroFloatBits"), (0, u "J"), (2, u "negativeZeroDoubleBits"), (24, u "min"), (43, u "$assertionsDisabled"), (0, u "Z"), (88, u "(II)I"), (2, u "twoToTheDoubleScaleDown"), (0, u "D"), (4, u "twoToTheDoubleScaleUp"), (9, u "E"), (3, u "PI"), (2, u "TAU"), (2, u "DEGREES_TO_RADIANS"), (0, u "RADIANS_TO_DEGREES")] 94

def k2m0 : Method := { name := "<init>", desc := "()V", sig := { parameters := [], returnType := none }, accessFlags := 2, code := none }
def k2c1 : Code := { maxStack := 2, maxLocals := 2, code := jdk_29_method_69_code, exceptionTable := #[], attributes := #[] }
def k2m1 : Method := { name := "min", desc := "(II)I", sig := { parameters := [.int, .int], returnType := some .int }, accessFlags := 9, code := some k2c1 }
/-- java/lang/Math -/
def k2 : Class := { plain "java/lang/Math" (some 0) with
  accessFlags := 49
  interfaces := #[]
  cf := some (fileOf pool2 1 #[.nestMembers #[98]] #[{ accessFlags := 2, nameIndex := 7, descriptorIndex := 8, attributes := #[] }, { accessFlags := 9, nameIndex := 201, descriptorIndex := 335, attributes := #[] }] 49 4 #[] #[{ accessFlags := 25, nameIndex := 354, descriptorIndex := 339, attributes := #[] }, { accessFlags := 25, nameIndex := 358, descriptorIndex := 339, attributes := #[] }, { accessFlags := 25, nameIndex := 361, descriptorIndex := 339, attributes := #[] }, { accessFlags := 26, nameIndex := 364, descriptorIndex := 339, attributes := #[] }, { accessFlags := 26, nameIndex := 365, descriptorIndex := 339, attributes := #[] }, { accessFlags := 26, nameIndex := 172, descriptorIndex := 173, attributes := #[] }, { accessFlags := 26, nameIndex := 176, descriptorIndex := 173, attributes := #[] }, { accessFlags := 8, nameIndex := 344, descriptorIndex := 339, attributes := #[] }, { accessFlags := 8, nameIndex := 338, descriptorIndex := 339, attributes := #[] }, { accessFlags := 4120, nameIndex := 245, descriptorIndex := 246, attributes := #[] }])
  fields := #[{ name := "E", type := .double, accessFlags := 25, slot := 0, constantValue := 0 }, { name := "PI", type := .double, accessFlags := 25, slot := 1, constantValue := 0 }, { name := "TAU", type := .double, accessFlags := 25, slot := 2, constantValue := 0 }, { name := "DEGREES_TO_RADIANS", type := .double, accessFlags := 26, slot := 3, constantValue := 0 }, { name := "RADIANS_TO_DEGREES", type := .double, accessFlags := 26, slot := 4, constantValue := 0 }, { name := "negativeZeroFloatBits", type := .long, accessFlags := 26, slot := 5, constantValue := 0 }, { name := "negativeZeroDoubleBits", type := .long, accessFlags := 26, slot := 6, constantValue := 0 }, { name := "twoToTheDoubleScaleUp", type := .double, accessFlags := 8, slot := 7, constantValue := 0 }, { name := "twoToTheDoubleScaleDown", type := .double, accessFlags := 8, slot := 8, constantValue := 0 }, { name := "$assertionsDisabled", type := .boolean, accessFlags := 4120, slot := 9, constantValue := 0 }]
  methods := #[k2m0, k2m1]
  instanceTypes := #[]
  staticTypes := #[.double, .double, .double, .double, .double, .long, .long, .double, .double, .boolean]
  resolved := Array.replicate 460 none
  statics := none }

def pool3 : Array CpInfo := pool [(1, .class_ 2), (0, u "java/io/Serializable"), (0, .class_ 4), (0, u "java/lang/Object")] 2

/-- java/io/Serializable -/
def k3 : Class := { plain "java/io/Serializable" (some 0) with
  accessFlags := 1537
  interfaces := #[]
  cf := some (fileOf pool3 1 #[] #[] 1537 3 #[] #[])
  fields := #[]
  methods := #[]
  instanceTypes := #[]
  staticTypes := #[]
  resolved := Array.replicate 7 none
  statics := none }

def pool4 : Array CpInfo := pool [(1, .class_ 2), (0, u "java/lang/Comparable"), (0, .class_ 4), (0, u "java/lang/Object")] 7

/-- java/lang/Comparable -/
def k4 : Class := { plain "java/lang/Comparable" (some 0) with
  accessFlags := 1537
  interfaces := #[]
  cf := some (fileOf pool4 1 #[] #[] 1537 3 #[] #[])
  fields := #[]
  methods := #[]
  instanceTypes := #[]
  staticTypes := #[]
  resolved := Array.replicate 12 none
  statics := none }

def pool5 : Array CpInfo := pool [(2, .class_ 4), (1, u "java/lang/CharSequence"), (42, .class_ 48), (0, u "java/lang/CharSequence$1CodePointIterator"), (10, .class_ 60), (0, u "java/lang/CharSequence$1CharIterator"), (5, .class_ 67), (0, u "java/lang/Object")] 63

/-- java/lang/CharSequence -/
def k5 : Class := { plain "java/lang/CharSequence" (some 0) with
  accessFlags := 1537
  interfaces := #[]
  cf := some (fileOf pool5 2 #[.nestMembers #[47, 59]] #[] 1537 66 #[] #[])
  fields := #[]
  methods := #[]
  instanceTypes := #[]
  staticTypes := #[]
  resolved := Array.replicate 131 none
  statics := none }

def pool6 : Array CpInfo := pool [(1, .class_ 2), (0, u "java/lang/constant/Constable"), (0, .class_ 4), (0, u "java/lang/Object")] 6

/-- java/lang/constant/Constable -/
def k6 : Class := { plain "java/lang/constant/Constable" (some 0) with
  accessFlags := 1537
  interfaces := #[]
  cf := some (fileOf pool6 1 #[] #[] 1537 3 #[] #[])
  fields := #[]
  methods := #[]
  instanceTypes := #[]
  staticTypes := #[]
  resolved := Array.replicate 11 none
  statics := none }

def pool7 : Array CpInfo := pool [(1, .class_ 2), (0, u "java/lang/constant/ConstantDesc"), (0, .class_ 4), (0, u "java/lang/Object")] 32

/-- java/lang/constant/ConstantDesc -/
def k7 : Class := { plain "java/lang/constant/ConstantDesc" (some 0) with
  accessFlags := 1537
  interfaces := #[]
  cf := some (fileOf pool7 1 #[] #[] 1537 3 #[] #[])
  fields := #[]
  methods := #[]
  instanceTypes := #[]
  staticTypes := #[]
  resolved := Array.replicate 37 none
  statics := none }

def pool8 : Array CpInfo := pool [(1, .methodref 2 3), (0, .class_ 4), (0, .nameAndType 5 6), (0, u "java/lang/Object"), (0, u "<init>"), (0, u "()V"), (0, .string 8), (0, u ""), (0, .fieldref 10 11), (0, .class_ 12), (0, .nameAndType 13 14), (0, u "java/lang/String"), (0, u "value"), (0, u "[B"), (0, .fieldref 10 16), (0, .nameAndType 17 18), (0, u "coder"), (0, u "B"), (2, u "hash"), (0, u "I"), (2, u "hashIsZero"), (0, u "Z"), (0, .methodref 10 28), (0, .nameAndType 5 29), (0, u "([CIILjava/lang/Void;)V"), (8, .fieldref 10 39), (0, .nameAndType 40 26), (0, u "COMPACT_STRINGS"), (1, .class_ 44), (1, u "java/lang/StringUTF16"), (0, u "compress"), (1, .methodref 42 48), (0, .nameAndType 49 50), (0, u "coderFromArrayLen"), (0, u "([BI)B"), (56, .class_ 109), (1, u "java/lang/StringLatin1"), (67, .methodref 42 178), (0, .nameAndType 45 179), (0, u "([CII)[B"), (361, .methodref 107 542), (0, .nameAndType 543 544), (0, u "equals"), (0, u "([B[B)Z"), (28, u "(Ljava/lang/Object;)Z"), (1, .class_ 576), (0, u "java/lang/CharSequence"), (22, u "CASE_INSENSITIVE_ORDER"), (0, u "Ljava/util/Comparator;"), (409, u "([C)V"), (90, u "serialPersistentFields"), (0, u "[Ljava/io/ObjectStreamField;"), (0, .class_ 1104), (0, u "java/lang/String$CaseInsensitiveComparator"), (1, .class_ 1107), (0, u "java/io/Serializable"), (0, .class_ 1109), (0, u "java/lang/Comparable"), (0, .class_ 1111), (0, u "java/lang/constant/Constable"), (0, .class_ 1113), (0, u "java/lang/constant/ConstantDesc"), (2, u "serialVersionUID"), (0, u "J"), (3, u "REPL"), (0, u "C"), (2, u "LATIN1"), (1, u "UTF16")] 323

def k8m0 : Method := { name := "<init>", desc := "()V", sig := { parameters := [], returnType := none }, accessFlags := 1, code := none }
def k8c1 : Code := { maxStack := 5, maxLocals := 2, code := jdk_42_method_3_code, exceptionTable := #[], attributes := #[] }
def k8m1 : Method := { name := "<init>", desc := "([C)V", sig := { parameters := [(.array .char)], returnType := none }, accessFlags := 1, code := some k8c1 }
def k8c2 : Code := { maxStack := 2, maxLocals := 3, code := jdk_42_method_66_code, exceptionTable := #[], attributes := #[] }
def k8m2 : Method := { name := "equals", desc := "(Ljava/lang/Object;)Z", sig := { parameters := [(.object "java/lang/Object")], returnType := some .boolean }, accessFlags := 1, code := some k8c2 }
def k8c3 : Code := { maxStack := 4, maxLocals := 6, code := jdk_42_method_149_code, exceptionTable := #[], attributes := #[] }
def k8m3 : Method := { name := "<init>", desc := "([CIILjava/lang/Void;)V", sig := { parameters := [(.array .char), .int, .int, (.object "java/lang/Void")], returnType := none }, accessFlags := 2, code := some k8c3 }
/-- java/lang/String -/
def k8 : Class := { plain "java/lang/String" (some 0) with
  accessFlags := 49
  interfaces := #[3, 4, 5, 6, 7]
  cf := some (fileOf pool8 10 #[.nestMembers #[1103]] #[{ accessFlags := 1, nameIndex := 5, descriptorIndex := 6, attributes := #[] }, { accessFlags := 1, nameIndex := 5, descriptorIndex := 1010, attributes := #[] }, { accessFlags := 1, nameIndex := 543, descriptorIndex := 573, attributes := #[] }, { accessFlags := 2, nameIndex := 5, descriptorIndex := 29, attributes := #[] }] 49 2 #[1106, 1108, 575, 1110, 1112] #[{ accessFlags := 18, nameIndex := 13, descriptorIndex := 14, attributes := #[] }, { accessFlags := 18, nameIndex := 17, descriptorIndex := 18, attributes := #[] }, { accessFlags := 2, nameIndex := 21, descriptorIndex := 22, attributes := #[] }, { accessFlags := 2, nameIndex := 25, descriptorIndex := 26, attributes := #[] }, { accessFlags := 26, nameIndex := 1116, descriptorIndex := 1117, attributes := #[] }, { accessFlags := 24, nameIndex := 40, descriptorIndex := 26, attributes := #[] }, { accessFlags := 26, nameIndex := 1101, descriptorIndex := 1102, attributes := #[] }, { accessFlags := 26, nameIndex := 1121, descriptorIndex := 1122, attributes := #[] }, { accessFlags := 25, nameIndex := 599, descriptorIndex := 600, attributes := #[] }, { accessFlags := 24, nameIndex := 1125, descriptorIndex := 18, attributes := #[] }, { accessFlags := 24, nameIndex := 1127, descriptorIndex := 18, attributes := #[] }])
  fields := #[{ name := "value", type := (.array .byte), accessFlags := 18, slot := 0, constantValue := 0 }, { name := "coder", type := .byte, accessFlags := 18, slot := 1, constantValue := 0 }, { name := "hash", type := .int, accessFlags := 2, slot := 2, constantValue := 0 }, { name := "hashIsZero", type := .boolean, accessFlags := 2, slot := 3, constantValue := 0 }, { name := "serialVersionUID", type := .long, accessFlags := 26, slot := 0, constantValue := 0 }, { name := "COMPACT_STRINGS", type := .boolean, accessFlags := 24, slot := 1, constantValue := 0 }, { name := "serialPersistentFields", type := (.array (.object "java/io/ObjectStreamField")), accessFlags := 26, slot := 2, constantValue := 0 }, { name := "REPL", type := .char, accessFlags := 26, slot := 3, constantValue := 0 }, { name := "CASE_INSENSITIVE_ORDER", type := (.object "java/util/Comparator"), accessFlags := 25, slot := 4, constantValue := 0 }, { name := "LATIN1", type := .byte, accessFlags := 24, slot := 5, constantValue := 0 }, { name := "UTF16", type := .byte, accessFlags := 24, slot := 6, constantValue := 0 }]
  methods := #[k8m0, k8m1, k8m2, k8m3]
  instanceTypes := #[(.array .byte), .byte, .int, .boolean]
  staticTypes := #[.long, .boolean, (.array (.object "java/io/ObjectStreamField")), .char, (.object "java/util/Comparator"), .byte, .byte]
  resolved := Array.replicate 1451 none
  statics := some 0 }

def pool9 : Array CpInfo := pool [(1, .methodref 2 3), (0, .class_ 4), (0, .nameAndType 5 6), (0, u "java/lang/Object"), (0, u "<init>"), (0, u "()V"), (0, .string 8), (0, u "kind"), (0, .methodref 10 11), (0, .class_ 12), (0, .nameAndType 13 14), (0, u "java/util/Objects"), (0, u "requireNonNull"), (0, u "(Ljava/lang/Object;Ljava/lang/String;)Ljava/lang/Object;"), (0, .class_ 16), (0, u "com/example/vetted_traces/vettedtraces/language/TokenKind"), (0, .fieldref 18 19), (0, .class_ 20), (0, .nameAndType 8 21), (0, u "com/example/vetted_traces/vettedtraces/language/Token"), (0, u "Lcom/example/vetted_traces/vettedtraces/language/TokenKind;"), (0, .string 23), (0, u "text"), (0, .class_ 25), (0, u "java/lang/String"), (0, .fieldref 18 27), (0, .nameAndType 23 28), (0, u "Ljava/lang/String;"), (0, .fieldref 18 30), (0, .nameAndType 31 32), (0, u "line"), (0, u "I"), (0, .fieldref 18 34), (0, .nameAndType 35 32), (0, u "column"), (0, .methodref 24 37), (0, .nameAndType 38 39), (0, u "equals"), (0, u "(Ljava/lang/Object;)Z"), (17, u "(Lcom/example/vetted_traces/vettedtraces/language/TokenKind;Ljava/lang/String;II)V")] 25

def k9c0 : Code := { maxStack := 3, maxLocals := 5, code := prog_76_method_1_code, exceptionTable := #[], attributes := #[] }
def k9m0 : Method := { name := "<init>", desc := "(Lcom/example/vetted_traces/vettedtraces/language/TokenKind;Ljava/lang/String;II)V", sig := { parameters := [(.object "com/example/vetted_traces/vettedtraces/language/TokenKind"), (.object "java/lang/String"), .int, .int], returnType := none }, accessFlags := 1, code := some k9c0 }
def k9c1 : Code := { maxStack := 2, maxLocals := 3, code := prog_76_method_6_code, exceptionTable := #[], attributes := #[] }
def k9m1 : Method := { name := "equals", desc := "(Ljava/lang/Object;)Z", sig := { parameters := [(.object "java/lang/Object")], returnType := some .boolean }, accessFlags := 1, code := some k9c1 }
/-- com/example/vetted_traces/vettedtraces/language/Token -/
def k9 : Class := { plain "com/example/vetted_traces/vettedtraces/language/Token" (some 0) with
  accessFlags := 33
  interfaces := #[]
  cf := some (fileOf pool9 18 #[] #[{ accessFlags := 1, nameIndex := 5, descriptorIndex := 57, attributes := #[] }, { accessFlags := 1, nameIndex := 38, descriptorIndex := 39, attributes := #[] }] 33 2 #[] #[{ accessFlags := 18, nameIndex := 8, descriptorIndex := 21, attributes := #[] }, { accessFlags := 18, nameIndex := 23, descriptorIndex := 28, attributes := #[] }, { accessFlags := 18, nameIndex := 31, descriptorIndex := 32, attributes := #[] }, { accessFlags := 18, nameIndex := 35, descriptorIndex := 32, attributes := #[] }])
  fields := #[{ name := "kind", type := (.object "com/example/vetted_traces/vettedtraces/language/TokenKind"), accessFlags := 18, slot := 0, constantValue := 0 }, { name := "text", type := (.object "java/lang/String"), accessFlags := 18, slot := 1, constantValue := 0 }, { name := "line", type := .int, accessFlags := 18, slot := 2, constantValue := 0 }, { name := "column", type := .int, accessFlags := 18, slot := 3, constantValue := 0 }]
  methods := #[k9m0, k9m1]
  instanceTypes := #[(.object "com/example/vetted_traces/vettedtraces/language/TokenKind"), (.object "java/lang/String"), .int, .int]
  staticTypes := #[]
  resolved := Array.replicate 83 none
  statics := none }

def pool10 : Array CpInfo := pool [(2, .class_ 4), (1, u "java/lang/Enum"), (0, u "name"), (0, u "Ljava/lang/String;"), (2, u "ordinal"), (0, u "I"), (1, .class_ 14), (1, u "java/lang/Object"), (4, u "hash"), (86, .class_ 108), (1, u "java/lang/Enum$EnumDesc"), (2, .class_ 112), (0, u "java/lang/constant/Constable"), (0, .class_ 114), (0, u "java/lang/Comparable"), (0, .class_ 116), (0, u "java/io/Serializable")] 87

/-- java/lang/Enum -/
def k10 : Class := { plain "java/lang/Enum" (some 0) with
  accessFlags := 1057
  interfaces := #[6, 4, 3]
  cf := some (fileOf pool10 2 #[.nestMembers #[106]] #[] 1057 12 #[111, 113, 115] #[{ accessFlags := 18, nameIndex := 5, descriptorIndex := 6, attributes := #[] }, { accessFlags := 18, nameIndex := 9, descriptorIndex := 10, attributes := #[] }, { accessFlags := 2, nameIndex := 19, descriptorIndex := 10, attributes := #[] }])
  fields := #[{ name := "name", type := (.object "java/lang/String"), accessFlags := 18, slot := 0, constantValue := 0 }, { name := "ordinal", type := .int, accessFlags := 18, slot := 1, constantValue := 0 }, { name := "hash", type := .int, accessFlags := 2, slot := 2, constantValue := 0 }]
  methods := #[]
  instanceTypes := #[(.object "java/lang/String"), .int, .int]
  staticTypes := #[]
  resolved := Array.replicate 204 none
  statics := none }

def pool11 : Array CpInfo := pool [(1, .class_ 2), (0, u "com/example/vetted_traces/vettedtraces/language/TokenKind"), (2, u "NAME"), (0, u "Lcom/example/vetted_traces/vettedtraces/language/TokenKind;"), (2, u "INTEGER"), (2, u "PROGRAM"), (2, u "VAR"), (2, u "INT"), (2, u "BOOL"), (2, u "HAVOC"), (2, u "ASSUME"), (2, u "OBSERVE"), (2, u "IF"), (2, u "ELSE"), (2, u "WHILE"), (2, u "LOOP"), (2, u "EITHER"), (2, u "OR"), (2, u "CHECK"), (2, u "FORALL"), (2, u "EXISTS"), (2, u "IN"), (2, u "ALWAYS"), (2, u "TRUE"), (2, u "FALSE"), (2, u "LEFT_BRACE"), (2, u "RIGHT_BRACE"), (2, u "LEFT_PAREN"), (2, u "RIGHT_PAREN"), (2, u "COLON"), (2, u "SEMICOLON"), (2, u "COMMA"), (2, u "DOT"), (2, u "ASSIGN"), (2, u "IMPLIES"), (2, u "LOGICAL_OR"), (2, u "LOGICAL_AND"), (2, u "NOT"), (2, u "EQUAL"), (2, u "NOT_EQUAL"), (2, u "LESS"), (2, u "LESS_EQUAL"), (2, u "GREATER"), (2, u "GREATER_EQUAL"), (2, u "PLUS"), (2, u "MINUS"), (2, u "TIMES"), (2, u "DIVIDE"), (2, u "REMAINDER"), (2, u "END"), (2, u "$VALUES"), (0, u "[Lcom/example/vetted_traces/vettedtraces/language/TokenKind;"), (6, .class_ 157), (1, u "java/lang/Enum"), (8, u "spelling"), (0, u "Ljava/lang/String;")] 170

/-- com/example/vetted_traces/vettedtraces/language/TokenKind -/
def k11 : Class := { plain "com/example/vetted_traces/vettedtraces/language/TokenKind" (some 10) with
  accessFlags := 16433
  interfaces := #[]
  cf := some (fileOf pool11 1 #[] #[] 16433 155 #[] #[{ accessFlags := 16409, nameIndex := 5, descriptorIndex := 6, attributes := #[] }, { accessFlags := 16409, nameIndex := 9, descriptorIndex := 6, attributes := #[] }, { accessFlags := 16409, nameIndex := 12, descriptorIndex := 6, attributes := #[] }, { accessFlags := 16409, nameIndex := 15, descriptorIndex := 6, attributes := #[] }, { accessFlags := 16409, nameIndex := 18, descriptorIndex := 6, attributes := #[] }, { accessFlags := 16409, nameIndex := 21, descriptorIndex := 6, attributes := #[] }, { accessFlags := 16409, nameIndex := 24, descriptorIndex := 6, attributes := #[] }, { accessFlags := 16409, nameIndex := 27, descriptorIndex := 6, attributes := #[] }, { accessFlags := 16409, nameIndex := 30, descriptorIndex := 6, attributes := #[] }, { accessFlags := 16409, nameIndex := 33, descriptorIndex := 6, attributes := #[] }, { accessFlags := 16409, nameIndex := 36, descriptorIndex := 6, attributes := #[] }, { accessFlags := 16409, nameIndex := 39, descriptorIndex := 6, attributes := #[] }, { accessFlags := 16409, nameIndex := 42, descriptorIndex := 6, attributes := #[] }, { accessFlags := 16409, nameIndex := 45, descriptorIndex := 6, attributes := #[] }, { accessFlags := 16409, nameIndex := 48, descriptorIndex := 6, attributes := #[] }, { accessFlags := 16409, nameIndex := 51, descriptorIndex := 6, attributes := #[] }, { accessFlags := 16409, nameIndex := 54, descriptorIndex := 6, attributes := #[] }, { accessFlags := 16409, nameIndex := 57, descriptorIndex := 6, attributes := #[] }, { accessFlags := 16409, nameIndex := 60, descriptorIndex := 6, attributes := #[] }, { accessFlags := 16409, nameIndex := 63, descriptorIndex := 6, attributes := #[] }, { accessFlags := 16409, nameIndex := 66, descriptorIndex := 6, attributes := #[] }, { accessFlags := 16409, nameIndex := 69, descriptorIndex := 6, attributes := #[] }, { accessFlags := 16409, nameIndex := 72, descriptorIndex := 6, attributes := #[] }, { accessFlags := 16409, nameIndex := 75, descriptorIndex := 6, attributes := #[] }, { accessFlags := 16409, nameIndex := 78, descriptorIndex := 6, attributes := #[] }, { accessFlags := 16409, nameIndex := 81, descriptorIndex := 6, attributes := #[] }, { accessFlags := 16409, nameIndex := 84, descriptorIndex := 6, attributes := #[] }, { accessFlags := 16409, nameIndex := 87, descriptorIndex := 6, attributes := #[] }, { accessFlags := 16409, nameIndex := 90, descriptorIndex := 6, attributes := #[] }, { accessFlags := 16409, nameIndex := 93, descriptorIndex := 6, attributes := #[] }, { accessFlags := 16409, nameIndex := 96, descriptorIndex := 6, attributes := #[] }, { accessFlags := 16409, nameIndex := 99, descriptorIndex := 6, attributes := #[] }, { accessFlags := 16409, nameIndex := 102, descriptorIndex := 6, attributes := #[] }, { accessFlags := 16409, nameIndex := 105, descriptorIndex := 6, attributes := #[] }, { accessFlags := 16409, nameIndex := 108, descriptorIndex := 6, attributes := #[] }, { accessFlags := 16409, nameIndex := 111, descriptorIndex := 6, attributes := #[] }, { accessFlags := 16409, nameIndex := 114, descriptorIndex := 6, attributes := #[] }, { accessFlags := 16409, nameIndex := 117, descriptorIndex := 6, attributes := #[] }, { accessFlags := 16409, nameIndex := 120, descriptorIndex := 6, attributes := #[] }, { accessFlags := 16409, nameIndex := 123, descriptorIndex := 6, attributes := #[] }, { accessFlags := 16409, nameIndex := 126, descriptorIndex := 6, attributes := #[] }, { accessFlags := 16409, nameIndex := 129, descriptorIndex := 6, attributes := #[] }, { accessFlags := 16409, nameIndex := 132, descriptorIndex := 6, attributes := #[] }, { accessFlags := 16409, nameIndex := 135, descriptorIndex := 6, attributes := #[] }, { accessFlags := 16409, nameIndex := 138, descriptorIndex := 6, attributes := #[] }, { accessFlags := 16409, nameIndex := 141, descriptorIndex := 6, attributes := #[] }, { accessFlags := 16409, nameIndex := 144, descriptorIndex := 6, attributes := #[] }, { accessFlags := 18, nameIndex := 166, descriptorIndex := 167, attributes := #[] }, { accessFlags := 4122, nameIndex := 147, descriptorIndex := 148, attributes := #[] }])
  fields := #[{ name := "NAME", type := (.object "com/example/vetted_traces/vettedtraces/language/TokenKind"), accessFlags := 16409, slot := 0, constantValue := 0 }, { name := "INTEGER", type := (.object "com/example/vetted_traces/vettedtraces/language/TokenKind"), accessFlags := 16409, slot := 1, constantValue := 0 }, { name := "PROGRAM", type := (.object "com/example/vetted_traces/vettedtraces/language/TokenKind"), accessFlags := 16409, slot := 2, constantValue := 0 }, { name := "VAR", type := (.object "com/example/vetted_traces/vettedtraces/language/TokenKind"), accessFlags := 16409, slot := 3, constantValue := 0 }, { name := "INT", type := (.object "com/example/vetted_traces/vettedtraces/language/TokenKind"), accessFlags := 16409, slot := 4, constantValue := 0 }, { name := "BOOL", type := (.object "com/example/vetted_traces/vettedtraces/language/TokenKind"), accessFlags := 16409, slot := 5, constantValue := 0 }, { name := "HAVOC", type := (.object "com/example/vetted_traces/vettedtraces/language/TokenKind"), accessFlags := 16409, slot := 6, constantValue := 0 }, { name := "ASSUME", type := (.object "com/example/vetted_traces/vettedtraces/language/TokenKind"), accessFlags := 16409, slot := 7, constantValue := 0 }, { name := "OBSERVE", type := (.object "com/example/vetted_traces/vettedtraces/language/TokenKind"), accessFlags := 16409, slot := 8, constantValue := 0 }, { name := "IF", type := (.object "com/example/vetted_traces/vettedtraces/language/TokenKind"), accessFlags := 16409, slot := 9, constantValue := 0 }, { name := "ELSE", type := (.object "com/example/vetted_traces/vettedtraces/language/TokenKind"), accessFlags := 16409, slot := 10, constantValue := 0 }, { name := "WHILE", type := (.object "com/example/vetted_traces/vettedtraces/language/TokenKind"), accessFlags := 16409, slot := 11, constantValue := 0 }, { name := "LOOP", type := (.object "com/example/vetted_traces/vettedtraces/language/TokenKind"), accessFlags := 16409, slot := 12, constantValue := 0 }, { name := "EITHER", type := (.object "com/example/vetted_traces/vettedtraces/language/TokenKind"), accessFlags := 16409, slot := 13, constantValue := 0 }, { name := "OR", type := (.object "com/example/vetted_traces/vettedtraces/language/TokenKind"), accessFlags := 16409, slot := 14, constantValue := 0 }, { name := "CHECK", type := (.object "com/example/vetted_traces/vettedtraces/language/TokenKind"), accessFlags := 16409, slot := 15, constantValue := 0 }, { name := "FORALL", type := (.object "com/example/vetted_traces/vettedtraces/language/TokenKind"), accessFlags := 16409, slot := 16, constantValue := 0 }, { name := "EXISTS", type := (.object "com/example/vetted_traces/vettedtraces/language/TokenKind"), accessFlags := 16409, slot := 17, constantValue := 0 }, { name := "IN", type := (.object "com/example/vetted_traces/vettedtraces/language/TokenKind"), accessFlags := 16409, slot := 18, constantValue := 0 }, { name := "ALWAYS", type := (.object "com/example/vetted_traces/vettedtraces/language/TokenKind"), accessFlags := 16409, slot := 19, constantValue := 0 }, { name := "TRUE", type := (.object "com/example/vetted_traces/vettedtraces/language/TokenKind"), accessFlags := 16409, slot := 20, constantValue := 0 }, { name := "FALSE", type := (.object "com/example/vetted_traces/vettedtraces/language/TokenKind"), accessFlags := 16409, slot := 21, constantValue := 0 }, { name := "LEFT_BRACE", type := (.object "com/example/vetted_traces/vettedtraces/language/TokenKind"), accessFlags := 16409, slot := 22, constantValue := 0 }, { name := "RIGHT_BRACE", type := (.object "com/example/vetted_traces/vettedtraces/language/TokenKind"), accessFlags := 16409, slot := 23, constantValue := 0 }, { name := "LEFT_PAREN", type := (.object "com/example/vetted_traces/vettedtraces/language/TokenKind"), accessFlags := 16409, slot := 24, constantValue := 0 }, { name := "RIGHT_PAREN", type := (.object "com/example/vetted_traces/vettedtraces/language/TokenKind"), accessFlags := 16409, slot := 25, constantValue := 0 }, { name := "COLON", type := (.object "com/example/vetted_traces/vettedtraces/language/TokenKind"), accessFlags := 16409, slot := 26, constantValue := 0 }, { name := "SEMICOLON", type := (.object "com/example/vetted_traces/vettedtraces/language/TokenKind"), accessFlags := 16409, slot := 27, constantValue := 0 }, { name := "COMMA", type := (.object "com/example/vetted_traces/vettedtraces/language/TokenKind"), accessFlags := 16409, slot := 28, constantValue := 0 }, { name := "DOT", type := (.object "com/example/vetted_traces/vettedtraces/language/TokenKind"), accessFlags := 16409, slot := 29, constantValue := 0 }, { name := "ASSIGN", type := (.object "com/example/vetted_traces/vettedtraces/language/TokenKind"), accessFlags := 16409, slot := 30, constantValue := 0 }, { name := "IMPLIES", type := (.object "com/example/vetted_traces/vettedtraces/language/TokenKind"), accessFlags := 16409, slot := 31, constantValue := 0 }, { name := "LOGICAL_OR", type := (.object "com/example/vetted_traces/vettedtraces/language/TokenKind"), accessFlags := 16409, slot := 32, constantValue := 0 }, { name := "LOGICAL_AND", type := (.object "com/example/vetted_traces/vettedtraces/language/TokenKind"), accessFlags := 16409, slot := 33, constantValue := 0 }, { name := "NOT", type := (.object "com/example/vetted_traces/vettedtraces/language/TokenKind"), accessFlags := 16409, slot := 34, constantValue := 0 }, { name := "EQUAL", type := (.object "com/example/vetted_traces/vettedtraces/language/TokenKind"), accessFlags := 16409, slot := 35, constantValue := 0 }, { name := "NOT_EQUAL", type := (.object "com/example/vetted_traces/vettedtraces/language/TokenKind"), accessFlags := 16409, slot := 36, constantValue := 0 }, { name := "LESS", type := (.object "com/example/vetted_traces/vettedtraces/language/TokenKind"), accessFlags := 16409, slot := 37, constantValue := 0 }, { name := "LESS_EQUAL", type := (.object "com/example/vetted_traces/vettedtraces/language/TokenKind"), accessFlags := 16409, slot := 38, constantValue := 0 }, { name := "GREATER", type := (.object "com/example/vetted_traces/vettedtraces/language/TokenKind"), accessFlags := 16409, slot := 39, constantValue := 0 }, { name := "GREATER_EQUAL", type := (.object "com/example/vetted_traces/vettedtraces/language/TokenKind"), accessFlags := 16409, slot := 40, constantValue := 0 }, { name := "PLUS", type := (.object "com/example/vetted_traces/vettedtraces/language/TokenKind"), accessFlags := 16409, slot := 41, constantValue := 0 }, { name := "MINUS", type := (.object "com/example/vetted_traces/vettedtraces/language/TokenKind"), accessFlags := 16409, slot := 42, constantValue := 0 }, { name := "TIMES", type := (.object "com/example/vetted_traces/vettedtraces/language/TokenKind"), accessFlags := 16409, slot := 43, constantValue := 0 }, { name := "DIVIDE", type := (.object "com/example/vetted_traces/vettedtraces/language/TokenKind"), accessFlags := 16409, slot := 44, constantValue := 0 }, { name := "REMAINDER", type := (.object "com/example/vetted_traces/vettedtraces/language/TokenKind"), accessFlags := 16409, slot := 45, constantValue := 0 }, { name := "END", type := (.object "com/example/vetted_traces/vettedtraces/language/TokenKind"), accessFlags := 16409, slot := 46, constantValue := 0 }, { name := "spelling", type := (.object "java/lang/String"), accessFlags := 18, slot := 3, constantValue := 0 }, { name := "$VALUES", type := (.array (.object "com/example/vetted_traces/vettedtraces/language/TokenKind")), accessFlags := 4122, slot := 47, constantValue := 0 }]
  methods := #[]
  instanceTypes := #[(.object "java/lang/String"), .int, .int, (.object "java/lang/String")]
  staticTypes := #[(.object "com/example/vetted_traces/vettedtraces/language/TokenKind"), (.object "com/example/vetted_traces/vettedtraces/language/TokenKind"), (.object "com/example/vetted_traces/vettedtraces/language/TokenKind"), (.object "com/example/vetted_traces/vettedtraces/language/TokenKind"), (.object "com/example/vetted_traces/vettedtraces/language/TokenKind"), (.object "com/example/vetted_traces/vettedtraces/language/TokenKind"), (.object "com/example/vetted_traces/vettedtraces/language/TokenKind"), (.object "com/example/vetted_traces/vettedtraces/language/TokenKind"), (.object "com/example/vetted_traces/vettedtraces/language/TokenKind"), (.object "com/example/vetted_traces/vettedtraces/language/TokenKind"), (.object "com/example/vetted_traces/vettedtraces/language/TokenKind"), (.object "com/example/vetted_traces/vettedtraces/language/TokenKind"), (.object "com/example/vetted_traces/vettedtraces/language/TokenKind"), (.object "com/example/vetted_traces/vettedtraces/language/TokenKind"), (.object "com/example/vetted_traces/vettedtraces/language/TokenKind"), (.object "com/example/vetted_traces/vettedtraces/language/TokenKind"), (.object "com/example/vetted_traces/vettedtraces/language/TokenKind"), (.object "com/example/vetted_traces/vettedtraces/language/TokenKind"), (.object "com/example/vetted_traces/vettedtraces/language/TokenKind"), (.object "com/example/vetted_traces/vettedtraces/language/TokenKind"), (.object "com/example/vetted_traces/vettedtraces/language/TokenKind"), (.object "com/example/vetted_traces/vettedtraces/language/TokenKind"), (.object "com/example/vetted_traces/vettedtraces/language/TokenKind"), (.object "com/example/vetted_traces/vettedtraces/language/TokenKind"), (.object "com/example/vetted_traces/vettedtraces/language/TokenKind"), (.object "com/example/vetted_traces/vettedtraces/language/TokenKind"), (.object "com/example/vetted_traces/vettedtraces/language/TokenKind"), (.object "com/example/vetted_traces/vettedtraces/language/TokenKind"), (.object "com/example/vetted_traces/vettedtraces/language/TokenKind"), (.object "com/example/vetted_traces/vettedtraces/language/TokenKind"), (.object "com/example/vetted_traces/vettedtraces/language/TokenKind"), (.object "com/example/vetted_traces/vettedtraces/language/TokenKind"), (.object "com/example/vetted_traces/vettedtraces/language/TokenKind"), (.object "com/example/vetted_traces/vettedtraces/language/TokenKind"), (.object "com/example/vetted_traces/vettedtraces/language/TokenKind"), (.object "com/example/vetted_traces/vettedtraces/language/TokenKind"), (.object "com/example/vetted_traces/vettedtraces/language/TokenKind"), (.object "com/example/vetted_traces/vettedtraces/language/TokenKind"), (.object "com/example/vetted_traces/vettedtraces/language/TokenKind"), (.object "com/example/vetted_traces/vettedtraces/language/TokenKind"), (.object "com/example/vetted_traces/vettedtraces/language/TokenKind"), (.object "com/example/vetted_traces/vettedtraces/language/TokenKind"), (.object "com/example/vetted_traces/vettedtraces/language/TokenKind"), (.object "com/example/vetted_traces/vettedtraces/language/TokenKind"), (.object "com/example/vetted_traces/vettedtraces/language/TokenKind"), (.object "com/example/vetted_traces/vettedtraces/language/TokenKind"), (.object "com/example/vetted_traces/vettedtraces/language/TokenKind"), (.array (.object "com/example/vetted_traces/vettedtraces/language/TokenKind"))]
  resolved := Array.replicate 338 none
  statics := some 1 }

def pool12 : Array CpInfo := pool [(2, .class_ 4), (1, u "java/lang/Object"), (0, u "<init>"), (0, u "()V"), (35, .class_ 44), (1, u "java/util/Objects"), (0, u "requireNonNull"), (48, u "(Ljava/lang/Object;Ljava/lang/String;)Ljava/lang/Object;")] 89

def k12m0 : Method := { name := "<init>", desc := "()V", sig := { parameters := [], returnType := none }, accessFlags := 2, code := none }
def k12c1 : Code := { maxStack := 3, maxLocals := 2, code := jdk_31_method_11_code, exceptionTable := #[], attributes := #[] }
def k12m1 : Method := { name := "requireNonNull", desc := "(Ljava/lang/Object;Ljava/lang/String;)Ljava/lang/Object;", sig := { parameters := [(.object "java/lang/Object"), (.object "java/lang/String")], returnType := some (.object "java/lang/Object") }, accessFlags := 9, code := some k12c1 }
/-- java/util/Objects -/
def k12 : Class := { plain "java/util/Objects" (some 0) with
  accessFlags := 49
  interfaces := #[]
  cf := some (fileOf pool12 42 #[] #[{ accessFlags := 2, nameIndex := 5, descriptorIndex := 6, attributes := #[] }, { accessFlags := 9, nameIndex := 45, descriptorIndex := 94, attributes := #[] }] 49 2 #[] #[])
  fields := #[]
  methods := #[k12m0, k12m1]
  instanceTypes := #[]
  staticTypes := #[]
  resolved := Array.replicate 184 none
  statics := none }

def pool13 : Array CpInfo := pool [(4, .class_ 6), (1, u "java/lang/Object"), (0, u "<init>"), (0, u "()V"), (5, .class_ 16), (1, u "java/lang/StringLatin1"), (104, u "$assertionsDisabled"), (0, u "Z"), (98, .class_ 223), (1, u "java/lang/StringLatin1$LinesSpliterator"), (57, u "equals"), (0, u "([B[B)Z"), (107, .class_ 391), (0, u "java/lang/StringLatin1$CharsSpliterator")] 3

def k13m0 : Method := { name := "<init>", desc := "()V", sig := { parameters := [], returnType := none }, accessFlags := 0, code := none }
def k13c1 : Code := { maxStack := 3, maxLocals := 3, code := jdk_43_method_13_code, exceptionTable := #[], attributes := #[] }
def k13m1 : Method := { name := "equals", desc := "([B[B)Z", sig := { parameters := [(.array .byte), (.array .byte)], returnType := some .boolean }, accessFlags := 9, code := some k13c1 }
/-- java/lang/StringLatin1 -/
def k13 : Class := { plain "java/lang/StringLatin1" (some 0) with
  accessFlags := 48
  interfaces := #[]
  cf := some (fileOf pool13 14 #[.nestMembers #[390, 221]] #[{ accessFlags := 0, nameIndex := 7, descriptorIndex := 8, attributes := #[] }, { accessFlags := 9, nameIndex := 281, descriptorIndex := 282, attributes := #[] }] 48 4 #[] #[{ accessFlags := 4120, nameIndex := 121, descriptorIndex := 122, attributes := #[] }])
  fields := #[{ name := "$assertionsDisabled", type := .boolean, accessFlags := 4120, slot := 0, constantValue := 0 }]
  methods := #[k13m0, k13m1]
  instanceTypes := #[]
  staticTypes := #[.boolean]
  resolved := Array.replicate 395 none
  statics := none }

def pool14 : Array CpInfo := pool [(6, .class_ 8), (1, u "java/lang/Object"), (0, u "<init>"), (0, u "()V"), (1, .class_ 14), (1, u "java/lang/StringUTF16"), (31, u "$assertionsDisabled"), (0, u "Z"), (13, u "HI_BYTE_SHIFT"), (0, u "I"), (2, u "LO_BYTE_SHIFT"), (49, .methodref 12 116), (0, .nameAndType 117 118), (0, u "compress"), (0, u "([CI[BII)I"), (3, u "([CII)[B"), (138, u "coderFromArrayLen"), (0, u "([BI)B"), (106, .class_ 371), (1, u "java/lang/StringUTF16$LinesSpliterator"), (58, u "MAX_LENGTH"), (196, .class_ 628), (0, u "java/lang/StringUTF16$CodePointsSpliterator"), (0, .class_ 630), (0, u "java/lang/StringUTF16$CharsSpliterator")] 4

def k14m0 : Method := { name := "<init>", desc := "()V", sig := { parameters := [], returnType := none }, accessFlags := 0, code := none }
def k14c1 : Code := { maxStack := 2, maxLocals := 2, code := jdk_52_method_15_code, exceptionTable := #[], attributes := #[] }
def k14m1 : Method := { name := "coderFromArrayLen", desc := "([BI)B", sig := { parameters := [(.array .byte), .int], returnType := some .byte }, accessFlags := 8, code := some k14c1 }
def k14c2 : Code := { maxStack := 5, maxLocals := 6, code := jdk_52_method_16_code, exceptionTable := #[], attributes := #[] }
def k14m2 : Method := { name := "compress", desc := "([CII)[B", sig := { parameters := [(.array .char), .int, .int], returnType := some (.array .byte) }, accessFlags := 9, code := some k14c2 }
def k14c3 : Code := { maxStack := 3, maxLocals := 7, code := jdk_52_method_21_code, exceptionTable := #[], attributes := #[] }
def k14m3 : Method := { name := "compress", desc := "([CI[BII)I", sig := { parameters := [(.array .char), .int, (.array .byte), .int, .int], returnType := some .int }, accessFlags := 9, code := some k14c3 }
/-- java/lang/StringUTF16 -/
def k14 : Class := { plain "java/lang/StringUTF16" (some 0) with
  accessFlags := 48
  interfaces := #[]
  cf := some (fileOf pool14 12 #[.nestMembers #[627, 629, 369]] #[{ accessFlags := 0, nameIndex := 9, descriptorIndex := 10, attributes := #[] }, { accessFlags := 8, nameIndex := 261, descriptorIndex := 262, attributes := #[] }, { accessFlags := 9, nameIndex := 117, descriptorIndex := 122, attributes := #[] }, { accessFlags := 9, nameIndex := 117, descriptorIndex := 118, attributes := #[] }] 48 6 #[] #[{ accessFlags := 26, nameIndex := 61, descriptorIndex := 62, attributes := #[] }, { accessFlags := 26, nameIndex := 65, descriptorIndex := 62, attributes := #[] }, { accessFlags := 24, nameIndex := 430, descriptorIndex := 62, attributes := #[] }, { accessFlags := 4120, nameIndex := 46, descriptorIndex := 47, attributes := #[] }])
  fields := #[{ name := "HI_BYTE_SHIFT", type := .int, accessFlags := 26, slot := 0, constantValue := 0 }, { name := "LO_BYTE_SHIFT", type := .int, accessFlags := 26, slot := 1, constantValue := 0 }, { name := "MAX_LENGTH", type := .int, accessFlags := 24, slot := 2, constantValue := 0 }, { name := "$assertionsDisabled", type := .boolean, accessFlags := 4120, slot := 3, constantValue := 0 }]
  methods := #[k14m0, k14m1, k14m2, k14m3]
  instanceTypes := #[]
  staticTypes := #[.int, .int, .int, .boolean]
  resolved := Array.replicate 635 none
  statics := none }

def pool15 : Array CpInfo := pool [(2, .class_ 4), (1, u "java/lang/Object"), (0, u "<init>"), (0, u "()V"), (17, .class_ 26), (1, u "jdk/internal/util/Preconditions"), (28, .class_ 56), (0, u "jdk/internal/util/Preconditions$4"), (57, .class_ 115), (0, u "jdk/internal/util/Preconditions$1"), (7, u "SIOOBE_FORMATTER"), (0, u "Ljava/util/function/BiFunction;"), (0, .class_ 126), (0, u "jdk/internal/util/Preconditions$2"), (3, u "AIOOBE_FORMATTER"), (0, .class_ 132), (0, u "jdk/internal/util/Preconditions$3"), (3, u "IOOBE_FORMATTER")] 57

def k15m0 : Method := { name := "<init>", desc := "()V", sig := { parameters := [], returnType := none }, accessFlags := 1, code := none }
/-- jdk/internal/util/Preconditions -/
def k15 : Class := { plain "jdk/internal/util/Preconditions" (some 0) with
  accessFlags := 33
  interfaces := #[]
  cf := some (fileOf pool15 24 #[.nestMembers #[55, 131, 125, 114]] #[{ accessFlags := 1, nameIndex := 5, descriptorIndex := 6, attributes := #[] }] 33 2 #[] #[{ accessFlags := 25, nameIndex := 123, descriptorIndex := 124, attributes := #[] }, { accessFlags := 25, nameIndex := 130, descriptorIndex := 124, attributes := #[] }, { accessFlags := 25, nameIndex := 136, descriptorIndex := 124, attributes := #[] }])
  fields := #[{ name := "SIOOBE_FORMATTER", type := (.object "java/util/function/BiFunction"), accessFlags := 25, slot := 0, constantValue := 0 }, { name := "AIOOBE_FORMATTER", type := (.object "java/util/function/BiFunction"), accessFlags := 25, slot := 1, constantValue := 0 }, { name := "IOOBE_FORMATTER", type := (.object "java/util/function/BiFunction"), accessFlags := 25, slot := 2, constantValue := 0 }]
  methods := #[k15m0]
  instanceTypes := #[]
  staticTypes := #[(.object "java/util/function/BiFunction"), (.object "java/util/function/BiFunction"), (.object "java/util/function/BiFunction")]
  resolved := Array.replicate 194 none
  statics := some 2 }

def pool16 : Array CpInfo := pool [(9, u "<init>"), (6, .class_ 18), (1, u "java/lang/Object"), (0, u "()V"), (1, .class_ 23), (1, u "jdk/internal/util/ArraysSupport"), (0, u "LOG2_ARRAY_LONG_INDEX_SCALE"), (0, u "I"), (2, u "U"), (0, u "Ljdk/internal/misc/Unsafe;"), (8, u "BIG_ENDIAN"), (0, u "Z"), (8, u "LOG2_BYTE_BIT_SIZE"), (4, u "LOG2_ARRAY_INT_INDEX_SCALE"), (54, u "JLA"), (0, u "Ljdk/internal/access/JavaLangAccess;"), (11, u "LOG2_ARRAY_BOOLEAN_INDEX_SCALE"), (9, u "LOG2_ARRAY_BYTE_INDEX_SCALE"), (5, u "LOG2_ARRAY_CHAR_INDEX_SCALE"), (5, u "LOG2_ARRAY_SHORT_INDEX_SCALE"), (18, u "LOG2_ARRAY_FLOAT_INDEX_SCALE"), (24, u "LOG2_ARRAY_DOUBLE_INDEX_SCALE"), (89, u "T_BOOLEAN"), (2, u "T_CHAR"), (1, u "T_FLOAT"), (1, u "T_DOUBLE"), (1, u "T_BYTE"), (1, u "T_SHORT"), (1, u "T_INT"), (1, u "T_LONG"), (1, u "SOFT_MAX_ARRAY_LENGTH")] 83

def k16m0 : Method := { name := "<init>", desc := "()V", sig := { parameters := [], returnType := none }, accessFlags := 2, code := none }
/-- jdk/internal/util/ArraysSupport -/
def k16 : Class := { plain "jdk/internal/util/ArraysSupport" (some 0) with
  accessFlags := 33
  interfaces := #[]
  cf := some (fileOf pool16 21 #[] #[{ accessFlags := 2, nameIndex := 9, descriptorIndex := 19, attributes := #[] }] 33 16 #[] #[{ accessFlags := 24, nameIndex := 28, descriptorIndex := 29, attributes := #[] }, { accessFlags := 26, nameIndex := 38, descriptorIndex := 39, attributes := #[] }, { accessFlags := 25, nameIndex := 121, descriptorIndex := 25, attributes := #[] }, { accessFlags := 25, nameIndex := 131, descriptorIndex := 25, attributes := #[] }, { accessFlags := 25, nameIndex := 137, descriptorIndex := 25, attributes := #[] }, { accessFlags := 25, nameIndex := 143, descriptorIndex := 25, attributes := #[] }, { accessFlags := 25, nameIndex := 53, descriptorIndex := 25, attributes := #[] }, { accessFlags := 25, nameIndex := 24, descriptorIndex := 25, attributes := #[] }, { accessFlags := 25, nameIndex := 162, descriptorIndex := 25, attributes := #[] }, { accessFlags := 25, nameIndex := 187, descriptorIndex := 25, attributes := #[] }, { accessFlags := 26, nameIndex := 48, descriptorIndex := 25, attributes := #[] }, { accessFlags := 25, nameIndex := 277, descriptorIndex := 25, attributes := #[] }, { accessFlags := 25, nameIndex := 280, descriptorIndex := 25, attributes := #[] }, { accessFlags := 25, nameIndex := 282, descriptorIndex := 25, attributes := #[] }, { accessFlags := 25, nameIndex := 284, descriptorIndex := 25, attributes := #[] }, { accessFlags := 25, nameIndex := 286, descriptorIndex := 25, attributes := #[] }, { accessFlags := 25, nameIndex := 288, descriptorIndex := 25, attributes := #[] }, { accessFlags := 25, nameIndex := 290, descriptorIndex := 25, attributes := #[] }, { accessFlags := 25, nameIndex := 292, descriptorIndex := 25, attributes := #[] }, { accessFlags := 26, nameIndex := 108, descriptorIndex := 109, attributes := #[] }, { accessFlags := 25, nameIndex := 294, descriptorIndex := 25, attributes := #[] }])
  fields := #[{ name := "U", type := (.object "jdk/internal/misc/Unsafe"), accessFlags := 24, slot := 0, constantValue := 0 }, { name := "BIG_ENDIAN", type := .boolean, accessFlags := 26, slot := 1, constantValue := 0 }, { name := "LOG2_ARRAY_BOOLEAN_INDEX_SCALE", type := .int, accessFlags := 25, slot := 2, constantValue := 0 }, { name := "LOG2_ARRAY_BYTE_INDEX_SCALE", type := .int, accessFlags := 25, slot := 3, constantValue := 0 }, { name := "LOG2_ARRAY_CHAR_INDEX_SCALE", type := .int, accessFlags := 25, slot := 4, constantValue := 0 }, { name := "LOG2_ARRAY_SHORT_INDEX_SCALE", type := .int, accessFlags := 25, slot := 5, constantValue := 0 }, { name := "LOG2_ARRAY_INT_INDEX_SCALE", type := .int, accessFlags := 25, slot := 6, constantValue := 0 }, { name := "LOG2_ARRAY_LONG_INDEX_SCALE", type := .int, accessFlags := 25, slot := 7, constantValue := 0 }, { name := "LOG2_ARRAY_FLOAT_INDEX_SCALE", type := .int, accessFlags := 25, slot := 8, constantValue := 0 }, { name := "LOG2_ARRAY_DOUBLE_INDEX_SCALE", type := .int, accessFlags := 25, slot := 9, constantValue := 0 }, { name := "LOG2_BYTE_BIT_SIZE", type := .int, accessFlags := 26, slot := 10, constantValue := 0 }, { name := "T_BOOLEAN", type := .int, accessFlags := 25, slot := 11, constantValue := 0 }, { name := "T_CHAR", type := .int, accessFlags := 25, slot := 12, constantValue := 0 }, { name := "T_FLOAT", type := .int, accessFlags := 25, slot := 13, constantValue := 0 }, { name := "T_DOUBLE", type := .int, accessFlags := 25, slot := 14, constantValue := 0 }, { name := "T_BYTE", type := .int, accessFlags := 25, slot := 15, constantValue := 0 }, { name := "T_SHORT", type := .int, accessFlags := 25, slot := 16, constantValue := 0 }, { name := "T_INT", type := .int, accessFlags := 25, slot := 17, constantValue := 0 }, { name := "T_LONG", type := .int, accessFlags := 25, slot := 18, constantValue := 0 }, { name := "JLA", type := (.object "jdk/internal/access/JavaLangAccess"), accessFlags := 26, slot := 19, constantValue := 0 }, { name := "SOFT_MAX_ARRAY_LENGTH", type := .int, accessFlags := 25, slot := 20, constantValue := 0 }]
  methods := #[k16m0]
  instanceTypes := #[]
  staticTypes := #[(.object "jdk/internal/misc/Unsafe"), .boolean, .int, .int, .int, .int, .int, .int, .int, .int, .int, .int, .int, .int, .int, .int, .int, .int, .int, (.object "jdk/internal/access/JavaLangAccess"), .int]
  resolved := Array.replicate 378 none
  statics := none }

def pool17 : Array CpInfo := pool [(1, u "java/lang/Cloneable"), (0, .class_ 1), (0, u "java/lang/Object"), (0, .class_ 3)] 3

/-- java/lang/Cloneable -/
def k17 : Class := { plain "java/lang/Cloneable" (some 0) with
  accessFlags := 1537
  interfaces := #[]
  cf := some (fileOf pool17 2 #[] #[] 1537 4 #[] #[])
  fields := #[]
  methods := #[]
  instanceTypes := #[]
  staticTypes := #[]
  resolved := Array.replicate 8 none
  statics := none }

/-- the primitive byte -/
def k18 : Class := { plain "byte" none with kind := .primitive 'B', accessFlags := 0x411 }
/-- [B -/
def k19 : Class := { plain "[B" (some 0) with kind := .array 18 .byte, interfaces := #[17, 3], accessFlags := 1041 }

/-- the primitive char -/
def k20 : Class := { plain "char" none with kind := .primitive 'C', accessFlags := 0x411 }
/-- [C -/
def k21 : Class := { plain "[C" (some 0) with kind := .array 20 .char, interfaces := #[17, 3], accessFlags := 1041 }

/-- the primitive int -/
def k22 : Class := { plain "int" none with kind := .primitive 'I', accessFlags := 0x411 }
/-- [I -/
def k23 : Class := { plain "[I" (some 0) with kind := .array 22 .int, interfaces := #[17, 3], accessFlags := 1041 }

def heap : Heap := #[{ cls := 8, slots := #[.long 0, .int 1, .null, .int 0, .null, .int 0, .int 0], vm := .statics 8 },
  { cls := 11, slots := #[.ref 3, .ref 4, .null, .null, .null, .null, .null, .null, .null, .null, .null, .null, .null, .null, .null, .null, .null, .null, .null, .null, .null, .null, .null, .null, .null, .null, .null, .null, .null, .null, .null, .null, .null, .null, .null, .null, .null, .null, .null, .null, .null, .ref 5, .null, .null, .null, .null, .ref 6, .null], vm := .statics 11 },
  { cls := 15, slots := #[.null, .null, .null], vm := .statics 15 },
  { cls := 11, slots := #[.null, .int 0, .int 0, .null], vm := .none },
  { cls := 11, slots := #[.null, .int 1, .int 0, .null], vm := .none },
  { cls := 11, slots := #[.null, .int 41, .int 0, .null], vm := .none },
  { cls := 11, slots := #[.null, .int 46, .int 0, .null], vm := .none }]
def classes : Array Class := #[k0, k1, k2, k3, k4, k5, k6, k7, k8, k9, k10, k11, k12, k13, k14, k15, k16, k17, k18, k19, k20, k21, k22, k23]
def interned : List (Array UInt16 × Addr) := []
def slotsUsed : Nat := 74
def theMethod : MethodId := ⟨1, 3⟩
def args0 : Array Value := #[.int 3, .int 5, .int 1, .int 1, .int 2, .int 2]
def aboutOver (below : List Frame) : State where
  vm := { classes := classes, interned := interned.toArray }
  heap := heap
  slotsUsed := slotsUsed
  threads := #[{ frames := .invoking theMethod args0 :: below }]
def below0 : List Frame := [.native { method := ⟨0, 0⟩, args := #[] }]
def about1 : State := aboutOver below0
def p0 : Program := .bare "" "" ""
def e0 : Env := launch0.env 0 0 0
theorem w_frames : about1.frames = Frame.invoking theMethod args0 :: below0 := rfl
set_option maxRecDepth 65536 in
theorem w_args : argsFit about1.vm theMethod args0 = true := by decide +kernel
set_option maxRecDepth 65536 in
theorem w_heap : heapFits about1 = true := by decide +kernel
set_option maxRecDepth 65536 in
theorem w_runnable : about1.curStatus? = some .runnable := by decide +kernel
set_option maxRecDepth 65536 in
theorem w_alone : about1.alone = true := by decide +kernel
set_option maxRecDepth 65536 in
theorem w_named : about1.methodNamed? x = some theMethod := by decide +kernel
set_option maxRecDepth 65536 in
theorem w_hears : about1.hears theMethod below0 = true := by decide +kernel
set_option maxRecDepth 65536 in
theorem w_ripe : about1.ripe theMethod args0 below0 = true := by decide +kernel
theorem w_running : about1.status = .running := rfl
set_option maxRecDepth 65536 in
theorem w_room : about1.hasRoom e0.platform room_1 = true :=
  launch0.hasRoom_least _ room_1 (by decide +kernel) (by decide +kernel) (by decide +kernel) (by decide +kernel) (by decide +kernel) (by decide +kernel)
theorem allAtoms_all (ts : List Jvm.Cond) (a : Array Jvm.Value) (st : Jvm.State) : (allAtoms ts).before a st = ts.all (fun c => c.before a st) := by
  induction ts with
  | nil => rfl
  | cons c t ih =>
    show (Jvm.Cond.and c (allAtoms t)).before a st = _
    rw [Jvm.Cond.before_and, ih, List.all_cons]
def words1 : List Jvm.Cond := Jvm.Cond.code x code maxLocals ret :: tables_1
/-- a 'code' word, met by the world's own term for the bytes: nothing is compared byte by byte -/
theorem code_word {y : MethodName} {bytes : ByteArray} {mx : Nat} {rt : Option FieldType} {a : Array Value} {s : State} {m : MethodId} {meth : Method} {c : Code} (h1 : s.methodNamed? y = some m) (h2 : s.vm.method? m = some meth) (h3 : meth.code = some c) (h4 : c.code = bytes)
    (h5 : (c.maxLocals == mx && c.exceptionTable.isEmpty && decide (c.maxStack ≤ mostOperands) && decide (meth.sig.returnType = rt) && !meth.locks && decide (parseMethodDescriptor y.desc = some meth.sig)) = true) : (Jvm.Cond.code y bytes mx rt).before a s = true := by
  simp only [Bool.and_eq_true, beq_iff_eq, Bool.not_eq_true', decide_eq_true_eq] at h5
  obtain ⟨⟨⟨⟨⟨g1, g2⟩, g3⟩, g4⟩, g5⟩, g6⟩ := h5
  simp [Cond.before, Cond.holds, Cond.value, h1, h2, h3, h4, g1, g2, g3, g4, g5, g6]
def isCode : Jvm.Cond → Bool
  | .code _ _ _ _ => true
  | _ => false
theorem all_split {L : List Jvm.Cond} {P : Jvm.Cond → Bool} (h1 : L.all (fun c => isCode c || P c) = true) (h2 : ∀ c ∈ L.filter isCode, P c = true) : L.all P = true := by
  refine List.all_eq_true.mpr fun c hc => ?_
  have h := List.all_eq_true.mp h1 c hc
  rcases Bool.eq_false_or_eq_true (isCode c) with hi | hi
  · exact h2 c (List.mem_filter.mpr ⟨hc, hi⟩)
  · simpa [hi] using h
set_option maxRecDepth 65536 in
theorem w_c0 : (Jvm.Cond.code x code maxLocals ret).before args0 about1 = true := code_word (m := ⟨1, 3⟩) (meth := k1m3) (c := k1c3) (by decide +kernel) rfl rfl rfl (by decide +kernel)
set_option maxRecDepth 65536 in
theorem w_c1 : (Jvm.Cond.code ({ cls := "java/lang/Math", name := "min", desc := "(II)I" } : Jvm.MethodName) jdk_29_method_69_code (2 : Nat) (Option.some Jvm.ClassFile.FieldType.int)).before args0 about1 = true := code_word (m := ⟨2, 1⟩) (meth := k2m1) (c := k2c1) (by decide +kernel) rfl rfl rfl (by decide +kernel)
set_option maxRecDepth 65536 in
theorem w_c2 : (Jvm.Cond.code ({ cls := "com/example/vetted_traces/vettedtraces/language/TokenEqualsPinLaw", name := "str", desc := "(ICC)Ljava/lang/String;" } : Jvm.MethodName) method_3_code (3 : Nat) (Option.some (Jvm.ClassFile.FieldType.object "java/lang/String"))).before args0 about1 = true := code_word (m := ⟨1, 2⟩) (meth := k1m2) (c := k1c2) (by decide +kernel) rfl rfl rfl (by decide +kernel)
set_option maxRecDepth 65536 in
theorem w_c3 : (Jvm.Cond.code ({ cls := "java/lang/String", name := "<init>", desc := "([C)V" } : Jvm.MethodName) jdk_42_method_3_code (2 : Nat) (Option.none : Option Jvm.ClassFile.FieldType)).before args0 about1 = true := code_word (m := ⟨8, 1⟩) (meth := k8m1) (c := k8c1) (by decide +kernel) rfl rfl rfl (by decide +kernel)
set_option maxRecDepth 65536 in
theorem w_c4 : (Jvm.Cond.code ({ cls := "java/lang/String", name := "<init>", desc := "([CIILjava/lang/Void;)V" } : Jvm.MethodName) jdk_42_method_149_code (6 : Nat) (Option.none : Option Jvm.ClassFile.FieldType)).before args0 about1 = true := code_word (m := ⟨8, 3⟩) (meth := k8m3) (c := k8c3) (by decide +kernel) rfl rfl rfl (by decide +kernel)
set_option maxRecDepth 65536 in
theorem w_c5 : (Jvm.Cond.code ({ cls := "java/lang/Object", name := "<init>", desc := "()V" } : Jvm.MethodName) object_method_1_code (1 : Nat) (Option.none : Option Jvm.ClassFile.FieldType)).before args0 about1 = true := code_word (m := ⟨0, 0⟩) (meth := k0m0) (c := k0c0) (by decide +kernel) rfl rfl rfl (by decide +kernel)
set_option maxRecDepth 65536 in
theorem w_c6 : (Jvm.Cond.code ({ cls := "com/example/vetted_traces/vettedtraces/language/TokenEqualsPinLaw", name := "kind", desc := "(I)Lcom/example/vetted_traces/vettedtraces/language/TokenKind;" } : Jvm.MethodName) method_2_code (1 : Nat) (Option.some (Jvm.ClassFile.FieldType.object "com/example/vetted_traces/vettedtraces/language/TokenKind"))).before args0 about1 = true := code_word (m := ⟨1, 1⟩) (meth := k1m1) (c := k1c1) (by decide +kernel) rfl rfl rfl (by decide +kernel)
set_option maxRecDepth 65536 in
theorem w_c7 : (Jvm.Cond.code ({ cls := "com/example/vetted_traces/vettedtraces/language/Token", name := "<init>", desc := "(Lcom/example/vetted_traces/vettedtraces/language/TokenKind;Ljava/lang/String;II)V" } : Jvm.MethodName) prog_76_method_1_code (5 : Nat) (Option.none : Option Jvm.ClassFile.FieldType)).before args0 about1 = true := code_word (m := ⟨9, 0⟩) (meth := k9m0) (c := k9c0) (by decide +kernel) rfl rfl rfl (by decide +kernel)
set_option maxRecDepth 65536 in
theorem w_c8 : (Jvm.Cond.code ({ cls := "java/util/Objects", name := "requireNonNull", desc := "(Ljava/lang/Object;Ljava/lang/String;)Ljava/lang/Object;" } : Jvm.MethodName) jdk_31_method_11_code (2 : Nat) (Option.some (Jvm.ClassFile.FieldType.object "java/lang/Object"))).before args0 about1 = true := code_word (m := ⟨12, 1⟩) (meth := k12m1) (c := k12c1) (by decide +kernel) rfl rfl rfl (by decide +kernel)
set_option maxRecDepth 65536 in
theorem w_c9 : (Jvm.Cond.code ({ cls := "com/example/vetted_traces/vettedtraces/language/Token", name := "equals", desc := "(Ljava/lang/Object;)Z" } : Jvm.MethodName) prog_76_method_6_code (3 : Nat) (Option.some Jvm.ClassFile.FieldType.boolean)).before args0 about1 = true := code_word (m := ⟨9, 1⟩) (meth := k9m1) (c := k9c1) (by decide +kernel) rfl rfl rfl (by decide +kernel)
set_option maxRecDepth 65536 in
theorem w_c10 : (Jvm.Cond.code ({ cls := "java/lang/String", name := "equals", desc := "(Ljava/lang/Object;)Z" } : Jvm.MethodName) jdk_42_method_66_code (3 : Nat) (Option.some Jvm.ClassFile.FieldType.boolean)).before args0 about1 = true := code_word (m := ⟨8, 2⟩) (meth := k8m2) (c := k8c2) (by decide +kernel) rfl rfl rfl (by decide +kernel)
set_option maxRecDepth 65536 in
theorem w_c11 : (Jvm.Cond.code ({ cls := "java/lang/StringLatin1", name := "equals", desc := "([B[B)Z" } : Jvm.MethodName) jdk_43_method_13_code (3 : Nat) (Option.some Jvm.ClassFile.FieldType.boolean)).before args0 about1 = true := code_word (m := ⟨13, 1⟩) (meth := k13m1) (c := k13c1) (by decide +kernel) rfl rfl rfl (by decide +kernel)
set_option maxRecDepth 65536 in
theorem w_c12 : (Jvm.Cond.code ({ cls := "java/lang/StringUTF16", name := "compress", desc := "([CII)[B" } : Jvm.MethodName) jdk_52_method_16_code (6 : Nat) (Option.some (Jvm.ClassFile.FieldType.array Jvm.ClassFile.FieldType.byte))).before args0 about1 = true := code_word (m := ⟨14, 2⟩) (meth := k14m2) (c := k14c2) (by decide +kernel) rfl rfl rfl (by decide +kernel)
set_option maxRecDepth 65536 in
theorem w_c13 : (Jvm.Cond.code ({ cls := "java/lang/StringUTF16", name := "compress", desc := "([CI[BII)I" } : Jvm.MethodName) jdk_52_method_21_code (7 : Nat) (Option.some Jvm.ClassFile.FieldType.int)).before args0 about1 = true := code_word (m := ⟨14, 3⟩) (meth := k14m3) (c := k14c3) (by decide +kernel) rfl rfl rfl (by decide +kernel)
set_option maxRecDepth 65536 in
theorem w_c14 : (Jvm.Cond.code ({ cls := "java/lang/StringUTF16", name := "coderFromArrayLen", desc := "([BI)B" } : Jvm.MethodName) jdk_52_method_15_code (2 : Nat) (Option.some Jvm.ClassFile.FieldType.byte)).before args0 about1 = true := code_word (m := ⟨14, 1⟩) (meth := k14m1) (c := k14c1) (by decide +kernel) rfl rfl rfl (by decide +kernel)
def codes1 : List Jvm.Cond := [Jvm.Cond.code x code maxLocals ret, Jvm.Cond.code ({ cls := "java/lang/Math", name := "min", desc := "(II)I" } : Jvm.MethodName) jdk_29_method_69_code (2 : Nat) (Option.some Jvm.ClassFile.FieldType.int), Jvm.Cond.code ({ cls := "com/example/vetted_traces/vettedtraces/language/TokenEqualsPinLaw", name := "str", desc := "(ICC)Ljava/lang/String;" } : Jvm.MethodName) method_3_code (3 : Nat) (Option.some (Jvm.ClassFile.FieldType.object "java/lang/String")), Jvm.Cond.code ({ cls := "java/lang/String", name := "<init>", desc := "([C)V" } : Jvm.MethodName) jdk_42_method_3_code (2 : Nat) (Option.none : Option Jvm.ClassFile.FieldType), Jvm.Cond.code ({ cls := "java/lang/String", name := "<init>", desc := "([CIILjava/lang/Void;)V" } : Jvm.MethodName) jdk_42_method_149_code (6 : Nat) (Option.none : Option Jvm.ClassFile.FieldType), Jvm.Cond.code ({ cls := "java/lang/Object", name := "<init>", desc := "()V" } : Jvm.MethodName) object_method_1_code (1 : Nat) (Option.none : Option Jvm.ClassFile.FieldType), Jvm.Cond.code ({ cls := "com/example/vetted_traces/vettedtraces/language/TokenEqualsPinLaw", name := "kind", desc := "(I)Lcom/example/vetted_traces/vettedtraces/language/TokenKind;" } : Jvm.MethodName) method_2_code (1 : Nat) (Option.some (Jvm.ClassFile.FieldType.object "com/example/vetted_traces/vettedtraces/language/TokenKind")), Jvm.Cond.code ({ cls := "com/example/vetted_traces/vettedtraces/language/Token", name := "<init>", desc := "(Lcom/example/vetted_traces/vettedtraces/language/TokenKind;Ljava/lang/String;II)V" } : Jvm.MethodName) prog_76_method_1_code (5 : Nat) (Option.none : Option Jvm.ClassFile.FieldType), Jvm.Cond.code ({ cls := "java/util/Objects", name := "requireNonNull", desc := "(Ljava/lang/Object;Ljava/lang/String;)Ljava/lang/Object;" } : Jvm.MethodName) jdk_31_method_11_code (2 : Nat) (Option.some (Jvm.ClassFile.FieldType.object "java/lang/Object")), Jvm.Cond.code ({ cls := "com/example/vetted_traces/vettedtraces/language/Token", name := "equals", desc := "(Ljava/lang/Object;)Z" } : Jvm.MethodName) prog_76_method_6_code (3 : Nat) (Option.some Jvm.ClassFile.FieldType.boolean), Jvm.Cond.code ({ cls := "java/lang/String", name := "equals", desc := "(Ljava/lang/Object;)Z" } : Jvm.MethodName) jdk_42_method_66_code (3 : Nat) (Option.some Jvm.ClassFile.FieldType.boolean), Jvm.Cond.code ({ cls := "java/lang/StringLatin1", name := "equals", desc := "([B[B)Z" } : Jvm.MethodName) jdk_43_method_13_code (3 : Nat) (Option.some Jvm.ClassFile.FieldType.boolean), Jvm.Cond.code ({ cls := "java/lang/StringUTF16", name := "compress", desc := "([CII)[B" } : Jvm.MethodName) jdk_52_method_16_code (6 : Nat) (Option.some (Jvm.ClassFile.FieldType.array Jvm.ClassFile.FieldType.byte)), Jvm.Cond.code ({ cls := "java/lang/StringUTF16", name := "compress", desc := "([CI[BII)I" } : Jvm.MethodName) jdk_52_method_21_code (7 : Nat) (Option.some Jvm.ClassFile.FieldType.int), Jvm.Cond.code ({ cls := "java/lang/StringUTF16", name := "coderFromArrayLen", desc := "([BI)B" } : Jvm.MethodName) jdk_52_method_15_code (2 : Nat) (Option.some Jvm.ClassFile.FieldType.byte)]
set_option maxRecDepth 65536 in
theorem codes_eq : words1.filter isCode = codes1 := rfl
theorem w_codes : ∀ c ∈ words1.filter isCode, c.before args0 about1 = true := by
  rw [codes_eq]
  intro c hc
  simp only [codes1, List.mem_cons, List.not_mem_nil, or_false] at hc
  rcases hc with rfl | rfl | rfl | rfl | rfl | rfl | rfl | rfl | rfl | rfl | rfl | rfl | rfl | rfl | rfl
  · exact w_c0
  · exact w_c1
  · exact w_c2
  · exact w_c3
  · exact w_c4
  · exact w_c5
  · exact w_c6
  · exact w_c7
  · exact w_c8
  · exact w_c9
  · exact w_c10
  · exact w_c11
  · exact w_c12
  · exact w_c13
  · exact w_c14
set_option maxRecDepth 65536 in
theorem w_t1 : (words1.take 24).all (fun c => isCode c || c.before args0 about1) = true := by decide +kernel
set_option maxRecDepth 65536 in
theorem w_t2 : ((words1.drop 24).take 24).all (fun c => isCode c || c.before args0 about1) = true := by decide +kernel
set_option maxRecDepth 65536 in
theorem w_t3 : (((words1.drop 24).drop 24).take 24).all (fun c => isCode c || c.before args0 about1) = true := by decide +kernel
set_option maxRecDepth 65536 in
theorem w_t4 : ((((words1.drop 24).drop 24).drop 24).take 24).all (fun c => isCode c || c.before args0 about1) = true := by decide +kernel
set_option maxRecDepth 65536 in
theorem w_t5 : ((((words1.drop 24).drop 24).drop 24).drop 24).all (fun c => isCode c || c.before args0 about1) = true := by decide +kernel
theorem w_tables : (allAtoms (Jvm.Cond.code x code maxLocals ret :: tables_1)).before args0 about1 = true := by
  rw [allAtoms_all]
  show words1.all (fun c => c.before args0 about1) = true
  refine all_split ?_ w_codes
  rw [← List.take_append_drop 24 words1, List.all_append, w_t1, ← List.take_append_drop 24 (words1.drop 24), List.all_append, w_t2, ← List.take_append_drop 24 ((words1.drop 24).drop 24), List.all_append, w_t3, ← List.take_append_drop 24 (((words1.drop 24).drop 24).drop 24), List.all_append, w_t4, w_t5]
  rfl
set_option maxRecDepth 65536 in
theorem w_rest : rest_1_c.before args0 about1 = true := by decide +kernel
set_option maxRecDepth 65536 in
theorem w_case : (Jvm.Cond.and given_1 narrow_1).before args0 about1 = true := by decide +kernel
set_option maxRecDepth 65536 in
theorem w_consts : constsHeld consts_1 about1 := Jvm.Lit.constsHeldB_iff.mp (by decide +kernel)
theorem w_applies : (headSpec (Jvm.Cond.code x code maxLocals ret :: tables_1) room_1).applies x e0.platform about1 = true :=
  (Spec.applies_iff w_frames).mpr ⟨w_running, w_runnable, w_alone, w_named, w_hears, w_ripe, w_room, w_tables⟩
theorem atStart : AtStart classFile x code maxLocals ret World_1 tables_1 room_1 Calls_1 rest_1 Pre_1 launch0 p0 e0 about1 theMethod args0 below0 :=
  ⟨lists_1, trivial, launch0.admits_env _ _ _, launch0.least_env, fairChoices_fair.cas, fairChoices_fair.clock, w_frames, w_args, w_heap, w_applies, ⟨w_consts, trivial⟩, w_rest, w_case⟩
end start1
theorem witness_1 : WitnessClaimed_1 := ⟨start1.p0, start1.e0, start1.about1, start1.theMethod, start1.args0, start1.below0, start1.atStart⟩
end Jvm.Pilot.@@N@@
