import JvmDerived
import JvmDerived.Pilot.@@N@@Statement
import JvmDerived.Pilot.@@N@@Code
set_option linter.unusedVariables false
set_option linter.unusedSimpArgs false

namespace Jvm.Pilot.@@N@@
open Jvm Jvm.ClassFile Sem Op Lib Jvm.Free Jvm.Stand Jvm.LawKit Jvm.RoadKit Bundle Jvm.Pilot.@@N@@.Jvm.D
/-- from every end that the second place reaches the first does -/
abbrev own_To (p : Program) (e : Env) (below : List Frame) (T' : State) (f' : JFrame) (T : State) (f : JFrame) : Prop := ∀ t, Steps p.tables e below (T'.setTop f') t → Steps p.tables e below (T.setTop f) t
/-- the places written so far, by a name -/
theorem own_fold {p : Program} {l : Launch} {e : Env} {R : Room} {s : State} {m : MethodId} {args : Array Value} {below : List Frame} {meth : Method} {c : Code} {T : State} {locs : List Loc} {cells slots n0 : Nat} (X : Stand p l e R s m args below meth c T locs cells slots) (N : Fr n0 locs) : ∃ L, Fr n0 L ∧ Stand p l e R s m args below meth c T L cells slots := ⟨locs, N, X⟩
def own_EL : List (String × Nat) := consts_1
theorem own_EW (Z : State) (a0 : Array Value) (hw : ∀ d ∈ tables_1, d.before a0 Z = true) : EW Z a0 own_EL := (EW.cons (hw _ (List.mem_of_getElem? (i := 41) rfl)) (by decide) (EW.cons (hw _ (List.mem_of_getElem? (i := 157) rfl)) (by decide) (EW.cons (hw _ (List.mem_of_getElem? (i := 60) rfl)) (by decide) (EW.cons (hw _ (List.mem_of_getElem? (i := 156) rfl)) (by decide) (EW.cons (hw _ (List.mem_of_getElem? (i := 158) rfl)) (by decide) (EW.cons (hw _ (List.mem_of_getElem? (i := 177) rfl)) (by decide) (EW.cons (hw _ (List.mem_of_getElem? (i := 203) rfl)) (by decide) (EW.cons (hw _ (List.mem_of_getElem? (i := 204) rfl)) (by decide) (EW.cons (hw _ (List.mem_of_getElem? (i := 18) rfl)) (by decide) EW.nil)))))))))
theorem own_base {p : Program} {l : Launch} {e : Env} {R : Room} {s : State} {m : MethodId} {args : Array Value} {below : List Frame} {meth : Method} {c : Code} {T : State} {locs : List Loc} {cells slots : Nat} (X : Stand p l e R s m args below meth c T locs cells slots) : Stand p l e R (s.setVm s.vm) m args below meth c T locs cells slots := X
theorem own_again {p : Program} {l : Launch} {e : Env} {R : Room} {s : State} {vm1 vm2 : Vm} {m : MethodId} {args : Array Value} {below : List Frame} {meth : Method} {c : Code} {T : State} {locs : List Loc} {cells slots : Nat} (X : Stand p l e R ((s.setVm vm1).setVm vm2) m args below meth c T locs cells slots) : Stand p l e R (s.setVm vm2) m args below meth c T locs cells slots := X
theorem own_safe {Z : State} {EL : List (String × Nat)} {vm : Vm} {h : Heap} {x : Addr} (hal : Z.vm.Alike vm) (E : Exa Z h x "java/lang/String") (F : Fld Z h x "java/lang/String" "value" "[B" .null) : Safe Z EL vm h x := fun B => by
  obtain ⟨cell, cf, k, i, f, h1, h2, h3, h4, h5, h6, h7⟩ := F
  obtain ⟨c0, k0, e1, e2, e3, -, -⟩ := E
  cases e1.symm.trans h1
  obtain ⟨p, -, u, a, -, q, -, S, rfl | rfl⟩ := B
  · cases (show h[q.sa]? = some q.sC from S.ha).symm.trans h1
    obtain ⟨cS, ⟨⟨-, -, -, ⟨c1, k1, i1, f1, -⟩, -, -, -, v1, -⟩, -⟩, -⟩ := S
    obtain ⟨k3, e3', -⟩ := State.fieldFound?_setVm (s := Z) hal h2
    have e4 := (show (Wst Z vm h).fieldFound? _ _ _ = _ from e3').symm.trans f1
    simp only [Option.some.injEq, Prod.mk.injEq] at e4
    rw [← e4.2.2.2, h7] at v1
    cases v1
  · cases (show h[q.sd]? = some q.SA from S.hd).symm.trans h1
    obtain ⟨cS, -, -, g, -⟩ := S
    have g' : Z.vm.findClass "[B" = some q.SA.cls := by rw [← hal.findClass]; exact g
    obtain ⟨k1, q1, q2⟩ := Vm.findClass_spec g'
    obtain ⟨k2, q3, q4⟩ := Vm.findClass_spec e2
    cases q1.symm.trans q3
    exact absurd (q2.symm.trans q4) (by decide)
theorem own_cpl {vd vs : List Value} {d : Value} {dp nn r : Nat} (hl : vd.length = dp) (hv : vs.length ≤ nn) (i : Nat) : (vd ++ vs).getD i d = ((vd ++ List.replicate r d).take dp ++ ((List.range nn).map fun i => vs.getD (0 + i) d) ++ (vd ++ List.replicate r d).drop (dp + nn)).getD i d := by
  simp only [List.getD_eq_getElem?_getD]
  rw [List.take_append_of_le_length (by omega), show vd.take dp = vd from List.take_of_length_le (by omega)]
  by_cases c1 : i < dp
  · rw [List.append_assoc, List.getElem?_append_left (by omega), List.getElem?_append_left (by omega)]
  · by_cases c2 : i < dp + nn
    · rw [List.getElem?_append_right (by omega), List.getElem?_append_left (by simp; omega), List.getElem?_append_right (by omega), hl]
      simp [show i - dp < nn by omega]
    · rw [List.getElem?_append_right (by omega), List.getElem?_append_right (by simp; omega), List.getElem?_eq_none (by omega), List.getElem?_drop]
      simp only [List.length_append, List.length_map, List.length_range]
      rw [hl, show dp + nn + (i - (dp + nn)) = i by omega, List.getElem?_append_right (by omega), List.getElem?_replicate]
      split <;> rfl
theorem own_cp {p : Program} {l : Launch} {e : Env} {R : Room} {s : State} {m : MethodId} {args : Array Value} {below : List Frame} {meth : Method} {c : Code} {T : State} {locs : List Loc} {cells slots : Nat} {Z : State} {h : Heap} (X : Stand p l e R s m args below meth c T locs cells slots) (hx : p.tables.exec = Jvm.exec) (hZ : Z.Warmed39 s.vm) {a0 : Array Value} {own : String} {index : Nat} (hown : s.vm.findClass own = some m.cls)
    (w1 : (Cond.methodLink own index Jvm.Stand.acN).before a0 Z = true) (w2 : (Cond.native Jvm.Stand.acN).before a0 Z = true) (w3 : (Cond.static Jvm.Stand.acN).before a0 Z = true) (w4 : (Cond.initialized "java/lang/System").before a0 Z = true) (eT : T.heap = h)
    {a b : Addr} {k k' : ClassId} {ty : FieldType} {z z' dp nn : Int32} {vs vd : List Value} {d : Value} (ht : refKind ty = false) (A : Arv Z h a k ty z vs d) (B : Arv Z h b k' ty z' vd d)
    (h2 : ¬ dp < 0) (h3 : ¬ nn < 0) (h4 : nn.toNatClampNeg ≤ z.toNatClampNeg) (h5 : dp.toNatClampNeg + nn.toNatClampNeg ≤ z'.toNatClampNeg) (hl : vd.length = dp.toNatClampNeg) (hv : vs.length ≤ nn.toNatClampNeg) {n0 : Nat} (N : Fr n0 locs) (ge : n0 ≤ b)
    {g : JFrame} (hg : g.method = m) (hsize : g.locals.size = c.maxLocals) {rest : List Value} (hs : g.stack = .int nn :: .int dp :: .ref b :: .int 0 :: .ref a :: rest) (hd : decode c.code g.pc = .ok (.invokestatic index, 3))
    (hf : 1 ≤ R.frames) {W : Nat} (hW : 2 * g.monitorRoom + (rest.map fun v => v.category).sum ≤ W) (hlo : W + (nativeFrameWords "java/lang/System" "arraycopy" 5 + 11) ≤ R.locals) :
    ∃ T' h' L, Stand p l e R s m args below meth c T' L cells slots ∧ T'.heap = h' ∧ Fr n0 L ∧ Keep h h' [b] ∧ Arv Z h' b k' ty z' (vd ++ vs) d ∧
      ∀ target, Steps p.tables e below (T'.setTop { g with pc := g.pc + 3, stack := rest }) target → Steps p.tables e below (T.setTop g) target := by
  obtain ⟨T', h', L, X', e', N', K', V', st⟩ := cpA X hx hZ hown w1 w2 w3 w4 eT A (B.pad (pad_rep vd d (z'.toNatClampNeg - vd.length))) (Or.inl ⟨rfl, ht⟩) (sp := 0) (by decide) h2 h3 (by rw [show (0 : Int32).toNatClampNeg = 0 from rfl]; omega) h5 rfl (by rw [List.length_append, List.length_replicate]; omega) N ge hg hsize hs hd hf hW hlo
  exact ⟨T', h', L, X', e', N', K', V'.pad (own_cpl hl hv), st⟩
theorem own_decl {Z : State} {a0 : Array Value} {y : MethodName} {b : ByteArray} {ml : Nat} {r : Option FieldType} (hi : (Cond.instanceMethod y).before a0 Z = true) (hc : (Cond.code y b ml r).before a0 Z = true) : (Cond.declares y).before a0 Z = true := by
  obtain ⟨mk, meth, hn, hm, hs, -⟩ := Cond.instanceMethod_spec hi
  obtain ⟨m2, c, hm2, -, -, -, -, -, -, hsig⟩ := Cond.code_spec hn hc
  cases hm.symm.trans hm2
  simp [Cond.before, Cond.holds, Cond.value, hn, hm, hs, hsig]
theorem own_same {Z : State} {a0 : Array Value} {C : String} {x y z : MethodName} (hi : (Cond.instanceMethod y).before a0 Z = true) (hs : (Cond.selects C x z).before a0 Z = true) (hz : z.cls = y.cls) (hy : y.cls ≠ "java/lang/invoke/MethodHandle" ∧ y.cls ≠ "java/lang/invoke/VarHandle") : (Cond.sameMethod y.cls y.cls y.name y.desc).before a0 Z = true := by
  obtain ⟨mk, methM, hnamed, hmethM, -, -⟩ := Cond.instanceMethod_spec hi
  have hfound := State.methodFound?_of_named hnamed hy
  obtain ⟨c2, r2, m2, -, -, q3, -, kP, hkP, hkPi⟩ := Cond.selects_spec hs
  have h1 := findClass_of_methodNamed q3
  have h2 := findClass_of_methodNamed hnamed
  rw [hz] at h1
  have h3 : mk.cls = m2.cls := Option.some.inj (h2.symm.trans h1)
  have h4 : Z.methodNamed? ⟨y.cls, y.name, y.desc⟩ = some mk := hnamed
  simp [Cond.before, Cond.holds, Cond.value, h2, hfound, h4, h3, hkP, hkPi]
theorem own_nf {s : State} {args : Array Value} {C : String} {x y z : MethodName} (hs : (Cond.selects C x z).before args s = true) (hz : z.cls = y.cls) : NotFace s y := fun r0 h0 => by
  obtain ⟨c2, r2, m2, -, -, q3, -, kP, hkP, hkPi⟩ := Cond.selects_spec hs
  have h1 := findClass_of_methodNamed q3
  have h2 := findClass_of_methodNamed h0
  rw [hz] at h1
  have h3 : r0.cls = m2.cls := Option.some.inj (h2.symm.trans h1)
  exact ⟨kP, by rw [h3]; exact hkP, hkPi⟩
theorem own_add (a b : Int32) (h : -2147483648 ≤ a.toInt + b.toInt ∧ a.toInt + b.toInt < 2147483648) : (a + b).toInt = a.toInt + b.toInt := by
  have q := c_iadd a b
  have r := rng32 (a + b)
  omega
theorem own_sub (a b : Int32) (h : -2147483648 ≤ a.toInt - b.toInt ∧ a.toInt - b.toInt < 2147483648) : (a - b).toInt = a.toInt - b.toInt := by
  have q := c_isub a b
  have r := rng32 (a - b)
  omega
theorem own_shr0 (z : Int32) : z >>> ((0 : Int32) &&& 31) = z := by rw [show ((0 : Int32) &&& 31) = 0 from by decide]; simp
theorem own_shl0 (z : Int32) : z <<< ((0 : Int32) &&& 31) = z := by rw [show ((0 : Int32) &&& 31) = 0 from by decide]; simp
theorem own_sub0 (z : Int32) : z - (0 : Int32) = z := by simp
theorem own_tn {z : Int32} (h : 0 ≤ z.toInt) : (z.toNatClampNeg : Int) = z.toInt := by simp only [Int32.toNatClampNeg]; omega
theorem own_nn {z : Int32} (h : 0 ≤ z.toInt) : ¬ z < 0 := by rw [Int32.lt_iff_toInt_lt, show (0 : Int32).toInt = 0 from rfl]; omega
theorem own_ge {z : Int32} (h : ¬ z < 0) : 0 ≤ z.toInt := by rw [Int32.lt_iff_toInt_lt, show (0 : Int32).toInt = 0 from rfl] at h; omega
theorem own_arvnn {Z : State} {h : Heap} {a : Addr} {k : ClassId} {ty : FieldType} {z : Int32} {vs : List Value} {d : Value} (F : Arv Z h a k ty z vs d) : ¬ z < 0 := by obtain ⟨c, -, -, -, q, -, -⟩ := F; exact q
def own_min (p0 p1 : Int32) : Int32 := (if p1 < p0 then p1 else p0)
def own_max (p0 p1 : Int32) : Int32 := (if p0 < p1 then p1 else p0)
/-- a builder a over the array b: room z, count c, its bytes vs -/
def own_sb (Z : State) (h : Heap) (a b : Addr) (kb : ClassId) (z c : Int32) (vs : List Value) : Prop := Exa Z h a "java/lang/StringBuilder" ∧ Fld Z h a "java/lang/AbstractStringBuilder" "value" "[B" (.ref b) ∧ Fld Z h a "java/lang/AbstractStringBuilder" "coder" "B" (.int (0 : Int32)) ∧ Fld Z h a "java/lang/AbstractStringBuilder" "count" "I" (.int c) ∧ Arv Z h b kb .byte z vs (.int (0 : Int32)) ∧ Exa Z h b "[B" ∧ vs.length = c.toNatClampNeg
theorem own_sbo {Z : State} {h : Heap} {a b : Addr} {kb : ClassId} {z c : Int32} {vs : List Value} (H : own_sb Z h a b kb z c vs) : Exa Z h a "java/lang/StringBuilder" ∧ Fld Z h a "java/lang/AbstractStringBuilder" "value" "[B" (.ref b) ∧ Fld Z h a "java/lang/AbstractStringBuilder" "coder" "B" (.int (0 : Int32)) ∧ Fld Z h a "java/lang/AbstractStringBuilder" "count" "I" (.int c) ∧ Arv Z h b kb .byte z vs (.int (0 : Int32)) ∧ Exa Z h b "[B" ∧ vs.length = c.toNatClampNeg := H
theorem own_d29_0 : decode jdk_29_method_69_code 0 = .ok (.iload_n 0, 1) := by decide +kernel
theorem own_d29_1 : decode jdk_29_method_69_code 1 = .ok (.iload_n 1, 1) := by decide +kernel
theorem own_d29_2 : decode jdk_29_method_69_code 2 = .ok (.if_icmp .gt 7, 3) := by decide +kernel
theorem own_d29_5 : decode jdk_29_method_69_code 5 = .ok (.iload_n 0, 1) := by decide +kernel
theorem own_d29_6 : decode jdk_29_method_69_code 6 = .ok (.goto 4, 3) := by decide +kernel
theorem own_d29_9 : decode jdk_29_method_69_code 9 = .ok (.iload_n 1, 1) := by decide +kernel
theorem own_d29_10 : decode jdk_29_method_69_code 10 = .ok (.ireturn, 1) := by decide +kernel
theorem own_ef29 (m : MethodId) (x0 : Int32) (x1 : Int32) : entryFrame m #[(.int x0), (.int x1)] 2 = mkF m 0 #[.val (.int x0), .val (.int x1)] [] := by first | (simp [entryFrame, mkF, argsToLocals, Value.category]; done) | rfl
def Q29 (Z : State) (p0 : Int32) (p1 : Int32) (h0 : Heap) (n0 : Nat) (v : Option Value) (h : Heap) (L : List Loc) : Prop := v = some (.int (own_min p0 p1)) ∧ Fr n0 L ∧ h = h0
set_option maxRecDepth 65536 in
set_option maxHeartbeats 40000000 in
theorem rm29 (l : Launch) (Z : State) (a0 : Array Value) (hw : ∀ d ∈ tables_1, d.before a0 Z = true) (ws : List Jvm.Cond) (p0 : Int32) (p1 : Int32) (h0 : Heap) (n0 : Nat) (Z0 : n0 ≤ h0.size) :
    MetFree l (⟨"java/lang/Math", "min", "(II)I"⟩ : MethodName) (head1 (Jvm.Cond.code (⟨"java/lang/Math", "min", "(II)I"⟩ : MethodName) jdk_29_method_69_code 2 (some .int) :: ws) ({ frames := 0, cells := 0, slots := 0, locals := 0 } : Room)) (fun a U => a = #[(.int p0), (.int p1)] ∧ Z.Warmed39 U.vm ∧ U.heap = h0) (fun _ _ _ _ _ => True) (fun _ U o U' => ∃ v L, o = .returned v ∧ Q29 Z p0 p1 h0 n0 v U'.heap L ∧ FrameEnd U o U' L ({ frames := 0, cells := 0, slots := 0, locals := 0 } : Room).cells ({ frames := 0, cells := 0, slots := 0, locals := 0 } : Room).slots) := by
  refine MetFree.of_bodySF (Jvm.Free.JP.mathPlain rfl (by decide +kernel)) hisR ?_
  intro p e s m args below meth c s₁ Bd hml0 hP hK
  obtain ⟨rfl, hZ, hh⟩ := hP
  have hx := Bd.exec
  have hby := Bd.bytes
  have hml : c.maxLocals = 2 := hml0
  have hown : s.vm.findClass "java/lang/Math" = some m.cls := findClass_of_methodNamed Bd.named
  have hnm := (name_of_methodNamed Bd.named Bd.method).1
  have X0 : Stand p l e ({ frames := 0, cells := 0, slots := 0, locals := 0 } : Room) s m #[(.int p0), (.int p1)] below meth c s₁ [] 0 0 := Stand.of_body Bd
  have e0 : s₁.heap = h0 := by rw [← hh, Bd.state]; rfl
  have N0 := Fr.nil n0
  have k0 : own_To p e below s₁ (mkF m 0 #[.val (.int p0), .val (.int p1)] []) s₁ (entryFrame m #[(.int p0), (.int p1)] 2) := fun t k => castTop (own_ef29 m p0 p1) k
  have ki : own_To p e below s₁ (mkF m 0 #[.val (.int p0), .val (.int p1)] []) s₁ (mkF m 0 #[.val (.int p0), .val (.int p1)] []) := fun t q => q
  have k1 : own_To p e below s₁ (mkF m 2 #[.val (.int p0), .val (.int p1)] [(.int p1), (.int p0)]) s₁ (mkF m 0 #[.val (.int p0), .val (.int p1)] []) := fun t q => ki t (by
    refine XS.iloadN X0.here hx rfl (hb hby own_d29_0) rfl ?_
    show Steps p.tables e below (s₁.setTop (mkF m 1 #[.val (.int p0), .val (.int p1)] [(.int p0)])) _
    refine XS.iloadN X0.here hx rfl (hb hby own_d29_1) rfl ?_
    show Steps p.tables e below (s₁.setTop (mkF m 2 #[.val (.int p0), .val (.int p1)] [(.int p1), (.int p0)])) _
    exact q)
  by_cases hc2 : p1 < p0
  ·
    have k3 : own_To p e below s₁ (mkF m 10 #[.val (.int p0), .val (.int p1)] [(.int p1)]) s₁ (mkF m 0 #[.val (.int p0), .val (.int p1)] []) := fun t q => k1 t (by
      refine XS.icmpYes X0.here hx rfl (pc0 := 2) (pc' := 9) rfl (hb hby own_d29_2) rfl (tlt hc2).2.2.1 (by decide) (by decide) ?_
      show Steps p.tables e below (s₁.setTop (mkF m 9 #[.val (.int p0), .val (.int p1)] [])) _
      refine XS.iloadN X0.here hx rfl (hb hby own_d29_9) rfl ?_
      show Steps p.tables e below (s₁.setTop (mkF m 10 #[.val (.int p0), .val (.int p1)] [(.int p1)])) _
      exact q)
    obtain ⟨fs, hr, hrun, hended, hW, hsame⟩ := X0.leave (v := some (.int p1)) (fun h => by rw [Bd.returns] at h; cases h)
    refine ⟨_, _, k0 _ (k3 _ ?_), hrun, hended, _, _, rfl, ?_, ⟨_, rfl⟩, hW, hsame.mono (by decide) (by decide)⟩
    · show Steps p.tables e below (s₁.setTop (mkF m 10 #[.val (.int p0), .val (.int p1)] [(.int p1)])) _
      exact retOut X0 hx Bd.returns rfl (Or.inl ⟨rfl, Or.inl rfl, _, rfl⟩) (hb hby own_d29_10) hr
    · show Q29 Z p0 p1 h0 n0 _ s₁.heap _
      rw [e0]
      exact ⟨by rw [own_min, if_pos hc2], N0, rfl⟩
  ·
    have k4 : own_To p e below s₁ (mkF m 10 #[.val (.int p0), .val (.int p1)] [(.int p0)]) s₁ (mkF m 0 #[.val (.int p0), .val (.int p1)] []) := fun t q => k1 t (by
      refine XS.icmpNo X0.here hx rfl (hb hby own_d29_2) rfl (flt hc2).2.2.1 ?_
      show Steps p.tables e below (s₁.setTop (mkF m 5 #[.val (.int p0), .val (.int p1)] [])) _
      refine XS.iloadN X0.here hx rfl (hb hby own_d29_5) rfl ?_
      show Steps p.tables e below (s₁.setTop (mkF m 6 #[.val (.int p0), .val (.int p1)] [(.int p0)])) _
      refine XS.goto X0.here hx rfl (pc0 := 6) (pc' := 10) rfl (hb hby own_d29_6) (by decide) (by decide) ?_
      show Steps p.tables e below (s₁.setTop (mkF m 10 #[.val (.int p0), .val (.int p1)] [(.int p0)])) _
      exact q)
    obtain ⟨fs, hr, hrun, hended, hW, hsame⟩ := X0.leave (v := some (.int p0)) (fun h => by rw [Bd.returns] at h; cases h)
    refine ⟨_, _, k0 _ (k4 _ ?_), hrun, hended, _, _, rfl, ?_, ⟨_, rfl⟩, hW, hsame.mono (by decide) (by decide)⟩
    · show Steps p.tables e below (s₁.setTop (mkF m 10 #[.val (.int p0), .val (.int p1)] [(.int p0)])) _
      exact retOut X0 hx Bd.returns rfl (Or.inl ⟨rfl, Or.inl rfl, _, rfl⟩) (hb hby own_d29_10) hr
    · show Q29 Z p0 p1 h0 n0 _ s₁.heap _
      rw [e0]
      exact ⟨by rw [own_min, if_neg hc2], N0, rfl⟩
theorem own_d33_0 : decode jdk_29_method_65_code 0 = .ok (.iload_n 0, 1) := by decide +kernel
theorem own_d33_1 : decode jdk_29_method_65_code 1 = .ok (.iload_n 1, 1) := by decide +kernel
theorem own_d33_2 : decode jdk_29_method_65_code 2 = .ok (.if_icmp .lt 7, 3) := by decide +kernel
theorem own_d33_5 : decode jdk_29_method_65_code 5 = .ok (.iload_n 0, 1) := by decide +kernel
theorem own_d33_6 : decode jdk_29_method_65_code 6 = .ok (.goto 4, 3) := by decide +kernel
theorem own_d33_9 : decode jdk_29_method_65_code 9 = .ok (.iload_n 1, 1) := by decide +kernel
theorem own_d33_10 : decode jdk_29_method_65_code 10 = .ok (.ireturn, 1) := by decide +kernel
theorem own_ef33 (m : MethodId) (x0 : Int32) (x1 : Int32) : entryFrame m #[(.int x0), (.int x1)] 2 = mkF m 0 #[.val (.int x0), .val (.int x1)] [] := by first | (simp [entryFrame, mkF, argsToLocals, Value.category]; done) | rfl
def Q33 (Z : State) (p0 : Int32) (p1 : Int32) (h0 : Heap) (n0 : Nat) (v : Option Value) (h : Heap) (L : List Loc) : Prop := v = some (.int (own_max p0 p1)) ∧ Fr n0 L ∧ h = h0
set_option maxRecDepth 65536 in
set_option maxHeartbeats 40000000 in
theorem rm33 (l : Launch) (Z : State) (a0 : Array Value) (hw : ∀ d ∈ tables_1, d.before a0 Z = true) (ws : List Jvm.Cond) (p0 : Int32) (p1 : Int32) (h0 : Heap) (n0 : Nat) (Z0 : n0 ≤ h0.size) :
    MetFree l (⟨"java/lang/Math", "max", "(II)I"⟩ : MethodName) (head1 (Jvm.Cond.code (⟨"java/lang/Math", "max", "(II)I"⟩ : MethodName) jdk_29_method_65_code 2 (some .int) :: ws) ({ frames := 0, cells := 0, slots := 0, locals := 0 } : Room)) (fun a U => a = #[(.int p0), (.int p1)] ∧ Z.Warmed39 U.vm ∧ U.heap = h0) (fun _ _ _ _ _ => True) (fun _ U o U' => ∃ v L, o = .returned v ∧ Q33 Z p0 p1 h0 n0 v U'.heap L ∧ FrameEnd U o U' L ({ frames := 0, cells := 0, slots := 0, locals := 0 } : Room).cells ({ frames := 0, cells := 0, slots := 0, locals := 0 } : Room).slots) := by
  refine MetFree.of_bodySF (Jvm.Free.JP.mathPlain rfl (by decide +kernel)) hisR ?_
  intro p e s m args below meth c s₁ Bd hml0 hP hK
  obtain ⟨rfl, hZ, hh⟩ := hP
  have hx := Bd.exec
  have hby := Bd.bytes
  have hml : c.maxLocals = 2 := hml0
  have hown : s.vm.findClass "java/lang/Math" = some m.cls := findClass_of_methodNamed Bd.named
  have hnm := (name_of_methodNamed Bd.named Bd.method).1
  have X0 : Stand p l e ({ frames := 0, cells := 0, slots := 0, locals := 0 } : Room) s m #[(.int p0), (.int p1)] below meth c s₁ [] 0 0 := Stand.of_body Bd
  have e0 : s₁.heap = h0 := by rw [← hh, Bd.state]; rfl
  have N0 := Fr.nil n0
  have k0 : own_To p e below s₁ (mkF m 0 #[.val (.int p0), .val (.int p1)] []) s₁ (entryFrame m #[(.int p0), (.int p1)] 2) := fun t k => castTop (own_ef33 m p0 p1) k
  have ki : own_To p e below s₁ (mkF m 0 #[.val (.int p0), .val (.int p1)] []) s₁ (mkF m 0 #[.val (.int p0), .val (.int p1)] []) := fun t q => q
  have k1 : own_To p e below s₁ (mkF m 2 #[.val (.int p0), .val (.int p1)] [(.int p1), (.int p0)]) s₁ (mkF m 0 #[.val (.int p0), .val (.int p1)] []) := fun t q => ki t (by
    refine XS.iloadN X0.here hx rfl (hb hby own_d33_0) rfl ?_
    show Steps p.tables e below (s₁.setTop (mkF m 1 #[.val (.int p0), .val (.int p1)] [(.int p0)])) _
    refine XS.iloadN X0.here hx rfl (hb hby own_d33_1) rfl ?_
    show Steps p.tables e below (s₁.setTop (mkF m 2 #[.val (.int p0), .val (.int p1)] [(.int p1), (.int p0)])) _
    exact q)
  by_cases hc2 : p0 < p1
  ·
    have k3 : own_To p e below s₁ (mkF m 10 #[.val (.int p0), .val (.int p1)] [(.int p1)]) s₁ (mkF m 0 #[.val (.int p0), .val (.int p1)] []) := fun t q => k1 t (by
      refine XS.icmpYes X0.here hx rfl (pc0 := 2) (pc' := 9) rfl (hb hby own_d33_2) rfl (tlt hc2).1 (by decide) (by decide) ?_
      show Steps p.tables e below (s₁.setTop (mkF m 9 #[.val (.int p0), .val (.int p1)] [])) _
      refine XS.iloadN X0.here hx rfl (hb hby own_d33_9) rfl ?_
      show Steps p.tables e below (s₁.setTop (mkF m 10 #[.val (.int p0), .val (.int p1)] [(.int p1)])) _
      exact q)
    obtain ⟨fs, hr, hrun, hended, hW, hsame⟩ := X0.leave (v := some (.int p1)) (fun h => by rw [Bd.returns] at h; cases h)
    refine ⟨_, _, k0 _ (k3 _ ?_), hrun, hended, _, _, rfl, ?_, ⟨_, rfl⟩, hW, hsame.mono (by decide) (by decide)⟩
    · show Steps p.tables e below (s₁.setTop (mkF m 10 #[.val (.int p0), .val (.int p1)] [(.int p1)])) _
      exact retOut X0 hx Bd.returns rfl (Or.inl ⟨rfl, Or.inl rfl, _, rfl⟩) (hb hby own_d33_10) hr
    · show Q33 Z p0 p1 h0 n0 _ s₁.heap _
      rw [e0]
      exact ⟨by rw [own_max, if_pos hc2], N0, rfl⟩
  ·
    have k4 : own_To p e below s₁ (mkF m 10 #[.val (.int p0), .val (.int p1)] [(.int p0)]) s₁ (mkF m 0 #[.val (.int p0), .val (.int p1)] []) := fun t q => k1 t (by
      refine XS.icmpNo X0.here hx rfl (hb hby own_d33_2) rfl (flt hc2).1 ?_
      show Steps p.tables e below (s₁.setTop (mkF m 5 #[.val (.int p0), .val (.int p1)] [])) _
      refine XS.iloadN X0.here hx rfl (hb hby own_d33_5) rfl ?_
      show Steps p.tables e below (s₁.setTop (mkF m 6 #[.val (.int p0), .val (.int p1)] [(.int p0)])) _
      refine XS.goto X0.here hx rfl (pc0 := 6) (pc' := 10) rfl (hb hby own_d33_6) (by decide) (by decide) ?_
      show Steps p.tables e below (s₁.setTop (mkF m 10 #[.val (.int p0), .val (.int p1)] [(.int p0)])) _
      exact q)
    obtain ⟨fs, hr, hrun, hended, hW, hsame⟩ := X0.leave (v := some (.int p0)) (fun h => by rw [Bd.returns] at h; cases h)
    refine ⟨_, _, k0 _ (k4 _ ?_), hrun, hended, _, _, rfl, ?_, ⟨_, rfl⟩, hW, hsame.mono (by decide) (by decide)⟩
    · show Steps p.tables e below (s₁.setTop (mkF m 10 #[.val (.int p0), .val (.int p1)] [(.int p0)])) _
      exact retOut X0 hx Bd.returns rfl (Or.inl ⟨rfl, Or.inl rfl, _, rfl⟩) (hb hby own_d33_10) hr
    · show Q33 Z p0 p1 h0 n0 _ s₁.heap _
      rw [e0]
      exact ⟨by rw [own_max, if_neg hc2], N0, rfl⟩
theorem own_pd14 : parseMethodDescriptor "(II)I" = some ⟨[.int, .int], some .int⟩ := by decide +kernel
theorem own_d32_0 : decode jdk_48_method_27_code 0 = .ok (.iload_n 0, 1) := by decide +kernel
theorem own_d32_1 : decode jdk_48_method_27_code 1 = .ok (.iload_n 1, 1) := by decide +kernel
theorem own_d32_2 : decode jdk_48_method_27_code 2 = .ok (.iload_n 2, 1) := by decide +kernel
theorem own_d32_3 : decode jdk_48_method_27_code 3 = .ok (.invokestatic 194, 3) := by decide +kernel
theorem own_d32_6 : decode jdk_48_method_27_code 6 = .ok (.iadd, 1) := by decide +kernel
theorem own_d32_7 : decode jdk_48_method_27_code 7 = .ok (.istore_n 3, 1) := by decide +kernel
theorem own_d32_8 : decode jdk_48_method_27_code 8 = .ok (.iconst 0, 1) := by decide +kernel
theorem own_d32_9 : decode jdk_48_method_27_code 9 = .ok (.iload_n 3, 1) := by decide +kernel
theorem own_d32_10 : decode jdk_48_method_27_code 10 = .ok (.if_icmp .ge 11, 3) := by decide +kernel
theorem own_d32_13 : decode jdk_48_method_27_code 13 = .ok (.iload_n 3, 1) := by decide +kernel
theorem own_d32_14 : decode jdk_48_method_27_code 14 = .ok (.ldc 200, 2) := by decide +kernel
theorem own_d32_16 : decode jdk_48_method_27_code 16 = .ok (.if_icmp .gt 5, 3) := by decide +kernel
theorem own_d32_19 : decode jdk_48_method_27_code 19 = .ok (.iload_n 3, 1) := by decide +kernel
theorem own_d32_20 : decode jdk_48_method_27_code 20 = .ok (.ireturn, 1) := by decide +kernel
theorem own_pn32 : plainName "jdk/internal/util/ArraysSupport" = true := by first | (simp [plainName, overriddenIn]; done) | decide +kernel
theorem own_ef32 (m : MethodId) (x0 : Int32) (x1 : Int32) (x2 : Int32) : entryFrame m #[(.int x0), (.int x1), (.int x2)] 4 = mkF m 0 #[.val (.int x0), .val (.int x1), .val (.int x2), .unset] [] := by first | (simp [entryFrame, mkF, argsToLocals, Value.category]; done) | rfl
def Q32 (Z : State) (p0 : Int32) (p1 : Int32) (p2 : Int32) (h0 : Heap) (n0 : Nat) (v : Option Value) (h : Heap) (L : List Loc) : Prop := v = some (.int (p0 + (own_max p1 p2))) ∧ Fr n0 L ∧ h = h0
set_option maxRecDepth 65536 in
set_option maxHeartbeats 40000000 in
theorem rm32 (l : Launch) (Z : State) (a0 : Array Value) (hw : ∀ d ∈ tables_1, d.before a0 Z = true) (ws : List Jvm.Cond) (p0 : Int32) (p1 : Int32) (p2 : Int32) (h0 : Heap) (n0 : Nat) (Z0 : n0 ≤ h0.size) (h1 : (0 : Int32) < (p0 + (own_max p1 p2))) (h2 : ¬ (2147483639 : Int32) < (p0 + (own_max p1 p2))) :
    MetFree l (⟨"jdk/internal/util/ArraysSupport", "newLength", "(III)I"⟩ : MethodName) (head1 (Jvm.Cond.code (⟨"jdk/internal/util/ArraysSupport", "newLength", "(III)I"⟩ : MethodName) jdk_48_method_27_code 4 (some .int) :: ws) ({ frames := 1, cells := 0, slots := 0, locals := 14 } : Room)) (fun a U => a = #[(.int p0), (.int p1), (.int p2)] ∧ Z.Warmed39 U.vm ∧ U.heap = h0) (fun _ _ _ _ _ => True) (fun _ U o U' => ∃ v L, o = .returned v ∧ Q32 Z p0 p1 p2 h0 n0 v U'.heap L ∧ FrameEnd U o U' L ({ frames := 1, cells := 0, slots := 0, locals := 14 } : Room).cells ({ frames := 1, cells := 0, slots := 0, locals := 14 } : Room).slots) := by
  refine MetFree.of_bodySF (plainFor_of_name own_pn32) hisR ?_
  intro p e s m args below meth c s₁ Bd hml0 hP hK
  obtain ⟨rfl, hZ, hh⟩ := hP
  have hx := Bd.exec
  have hby := Bd.bytes
  have hml : c.maxLocals = 4 := hml0
  have hown : s.vm.findClass "jdk/internal/util/ArraysSupport" = some m.cls := findClass_of_methodNamed Bd.named
  have hnm := (name_of_methodNamed Bd.named Bd.method).1
  have X0 : Stand p l e ({ frames := 1, cells := 0, slots := 0, locals := 14 } : Room) s m #[(.int p0), (.int p1), (.int p2)] below meth c s₁ [] 0 0 := Stand.of_body Bd
  have e0 : s₁.heap = h0 := by rw [← hh, Bd.state]; rfl
  have N0 := Fr.nil n0
  have k0 : own_To p e below s₁ (mkF m 0 #[.val (.int p0), .val (.int p1), .val (.int p2), .unset] []) s₁ (entryFrame m #[(.int p0), (.int p1), (.int p2)] 4) := fun t k => castTop (own_ef32 m p0 p1 p2) k
  have ki : own_To p e below s₁ (mkF m 0 #[.val (.int p0), .val (.int p1), .val (.int p2), .unset] []) s₁ (mkF m 0 #[.val (.int p0), .val (.int p1), .val (.int p2), .unset] []) := fun t q => q
  obtain ⟨_, _, ⟨T1, L1, kk1, n1⟩, -, X1, ⟨Lc1, hQ1, l1, y1, z1⟩, st1⟩ := Jvm.LawKit.callS X0 hx (y := (⟨"java/lang/Math", "max", "(II)I"⟩ : MethodName)) hown (mvT hZ (hw _ (List.mem_of_getElem? (i := 168) rfl))) (mvT hZ (hw _ (List.mem_of_getElem? (i := 169) rfl))) (mvT hZ (hw _ (List.mem_of_getElem? (i := 150) rfl))) (mvT hZ (hw _ (List.mem_of_getElem? (i := 170) rfl))) (by decide) (backOf (W := 1) (rm33 l Z a0 hw [] p1 p2 h0 n0 Z0) hZ (hw _ (List.mem_of_getElem? (i := 170) rfl)) (hw _ (List.mem_of_getElem? (i := 150) rfl)) (by decide) (by decide)) (g := (mkF m 3 #[.val (.int p0), .val (.int p1), .val (.int p2), .unset] [(.int p2), (.int p1), (.int p0)])) rfl (by rw [hml]; rfl) (argsL := [(.int p1), (.int p2)]) (rest := [(.int p0)]) (lenOf own_pd14 rfl) rfl (by show 2 * 0 + _ ≤ _; exact Nat.le_of_eq rfl) (hb hby own_d32_3) (fun _ _ => ⟨rfl, e0, (by decide : 0 + 0 ≤ _), (by decide : 0 + 0 ≤ _)⟩)
  dsimp only [Pt.U, Pt.locs, Pt.cells, Pt.slots] at X1 l1 y1 z1 st1 hQ1
  subst l1 y1 z1
  obtain ⟨rfl, N1q, e1⟩ := hQ1
  have N1 := Fr.app N0 N1q
  have k2 : own_To p e below T1 (mkF m 19 #[.val (.int p0), .val (.int p1), .val (.int p2), .val (.int (p0 + (own_max p1 p2)))] []) s₁ (mkF m 0 #[.val (.int p0), .val (.int p1), .val (.int p2), .unset] []) := fun t q => ki t (by
    refine XS.iloadN X0.here hx rfl (hb hby own_d32_0) rfl ?_
    show Steps p.tables e below (s₁.setTop (mkF m 1 #[.val (.int p0), .val (.int p1), .val (.int p2), .unset] [(.int p0)])) _
    refine XS.iloadN X0.here hx rfl (hb hby own_d32_1) rfl ?_
    show Steps p.tables e below (s₁.setTop (mkF m 2 #[.val (.int p0), .val (.int p1), .val (.int p2), .unset] [(.int p1), (.int p0)])) _
    refine XS.iloadN X0.here hx rfl (hb hby own_d32_2) rfl ?_
    show Steps p.tables e below (s₁.setTop (mkF m 3 #[.val (.int p0), .val (.int p1), .val (.int p2), .unset] [(.int p2), (.int p1), (.int p0)])) _
    refine st1 _ ?_
    show Steps p.tables e below (T1.setTop (mkF m 6 #[.val (.int p0), .val (.int p1), .val (.int p2), .unset] [(.int (own_max p1 p2)), (.int p0)])) _
    refine XS.iadd X1.here hx rfl (hb hby own_d32_6) rfl ?_
    show Steps p.tables e below (T1.setTop (mkF m 7 #[.val (.int p0), .val (.int p1), .val (.int p2), .unset] [(.int (p0 + (own_max p1 p2)))])) _
    refine XS.istoreN X1.here hx rfl (hb hby own_d32_7) rfl (l' := #[.val (.int p0), .val (.int p1), .val (.int p2), .val (.int (p0 + (own_max p1 p2)))]) rfl ?_
    show Steps p.tables e below (T1.setTop (mkF m 8 #[.val (.int p0), .val (.int p1), .val (.int p2), .val (.int (p0 + (own_max p1 p2)))] [])) _
    refine XS.iconst X1.here hx rfl (hb hby own_d32_8) ?_
    show Steps p.tables e below (T1.setTop (mkF m 9 #[.val (.int p0), .val (.int p1), .val (.int p2), .val (.int (p0 + (own_max p1 p2)))] [(.int (0 : Int32))])) _
    refine XS.iloadN X1.here hx rfl (hb hby own_d32_9) rfl ?_
    show Steps p.tables e below (T1.setTop (mkF m 10 #[.val (.int p0), .val (.int p1), .val (.int p2), .val (.int (p0 + (own_max p1 p2)))] [(.int (p0 + (own_max p1 p2))), (.int (0 : Int32))])) _
    refine XS.icmpNo X1.here hx rfl (hb hby own_d32_10) rfl (tlt h1).2.1 ?_
    show Steps p.tables e below (T1.setTop (mkF m 13 #[.val (.int p0), .val (.int p1), .val (.int p2), .val (.int (p0 + (own_max p1 p2)))] [])) _
    refine XS.iloadN X1.here hx rfl (hb hby own_d32_13) rfl ?_
    show Steps p.tables e below (T1.setTop (mkF m 14 #[.val (.int p0), .val (.int p1), .val (.int p2), .val (.int (p0 + (own_max p1 p2)))] [(.int (p0 + (own_max p1 p2)))])) _
    refine X1.ldcInt hx hown (mvT hZ (hw _ (List.mem_of_getElem? (i := 171) rfl))) (g := (mkF m 14 #[.val (.int p0), .val (.int p1), .val (.int p2), .val (.int (p0 + (own_max p1 p2)))] [(.int (p0 + (own_max p1 p2)))])) rfl (hb hby own_d32_14) _ ?_
    show Steps p.tables e below (T1.setTop (mkF m 16 #[.val (.int p0), .val (.int p1), .val (.int p2), .val (.int (p0 + (own_max p1 p2)))] [(.int (2147483639 : Int32)), (.int (p0 + (own_max p1 p2)))])) _
    refine XS.icmpNo X1.here hx rfl (hb hby own_d32_16) rfl (flt h2).2.2.1 ?_
    show Steps p.tables e below (T1.setTop (mkF m 19 #[.val (.int p0), .val (.int p1), .val (.int p2), .val (.int (p0 + (own_max p1 p2)))] [])) _
    exact q)
  have k3 : own_To p e below T1 (mkF m 20 #[.val (.int p0), .val (.int p1), .val (.int p2), .val (.int (p0 + (own_max p1 p2)))] [(.int (p0 + (own_max p1 p2)))]) s₁ (mkF m 0 #[.val (.int p0), .val (.int p1), .val (.int p2), .unset] []) := fun t q => k2 t (by
    refine XS.iloadN X1.here hx rfl (hb hby own_d32_19) rfl ?_
    show Steps p.tables e below (T1.setTop (mkF m 20 #[.val (.int p0), .val (.int p1), .val (.int p2), .val (.int (p0 + (own_max p1 p2)))] [(.int (p0 + (own_max p1 p2)))])) _
    exact q)
  obtain ⟨fs, hr, hrun, hended, hW, hsame⟩ := X1.leave (v := some (.int (p0 + (own_max p1 p2)))) (fun h => by rw [Bd.returns] at h; cases h)
  refine ⟨_, _, k0 _ (k3 _ ?_), hrun, hended, _, _, rfl, ?_, ⟨_, rfl⟩, hW, hsame.mono (by decide) (by decide)⟩
  · show Steps p.tables e below (T1.setTop (mkF m 20 #[.val (.int p0), .val (.int p1), .val (.int p2), .val (.int (p0 + (own_max p1 p2)))] [(.int (p0 + (own_max p1 p2)))])) _
    exact retOut X1 hx Bd.returns rfl (Or.inl ⟨rfl, Or.inl rfl, _, rfl⟩) (hb hby own_d32_20) hr
  · show Q32 Z p0 p1 p2 h0 n0 _ T1.heap _
    rw [e1]
    exact ⟨rfl, N1, rfl⟩
theorem own_d28_0 : decode jdk_65_method_131_code 0 = .ok (.iload_n 1, 1) := by decide +kernel
theorem own_d28_1 : decode jdk_65_method_131_code 1 = .ok (.iload_n 0, 1) := by decide +kernel
theorem own_d28_2 : decode jdk_65_method_131_code 2 = .ok (.if_icmp .ge 35, 3) := by decide +kernel
theorem own_d28_37 : decode jdk_65_method_131_code 37 = .ok (.return_, 1) := by decide +kernel
theorem own_pn28 : plainName "java/util/Arrays" = true := by first | (simp [plainName, overriddenIn]; done) | decide +kernel
theorem own_ef28 (m : MethodId) (x1 : Int32) : entryFrame m #[(.int (0 : Int32)), (.int x1)] 2 = mkF m 0 #[.val (.int (0 : Int32)), .val (.int x1)] [] := by first | (simp [entryFrame, mkF, argsToLocals, Value.category]; done) | rfl
def Q28 (Z : State) (p1 : Int32) (h0 : Heap) (n0 : Nat) (v : Option Value) (h : Heap) (L : List Loc) : Prop := v = none ∧ Fr n0 L ∧ h = h0
set_option maxRecDepth 65536 in
set_option maxHeartbeats 40000000 in
theorem rm28 (l : Launch) (Z : State) (a0 : Array Value) (hw : ∀ d ∈ tables_1, d.before a0 Z = true) (ws : List Jvm.Cond) (p1 : Int32) (h0 : Heap) (n0 : Nat) (Z0 : n0 ≤ h0.size) (h0_ : ¬ p1 < (0 : Int32)) :
    MetFree l (⟨"java/util/Arrays", "checkLength", "(II)V"⟩ : MethodName) (head1 (Jvm.Cond.code (⟨"java/util/Arrays", "checkLength", "(II)V"⟩ : MethodName) jdk_65_method_131_code 2 none :: ws) ({ frames := 0, cells := 0, slots := 0, locals := 0 } : Room)) (fun a U => a = #[(.int (0 : Int32)), (.int p1)] ∧ Z.Warmed39 U.vm ∧ U.heap = h0) (fun _ _ _ _ _ => True) (fun _ U o U' => ∃ v L, o = .returned v ∧ Q28 Z p1 h0 n0 v U'.heap L ∧ FrameEnd U o U' L ({ frames := 0, cells := 0, slots := 0, locals := 0 } : Room).cells ({ frames := 0, cells := 0, slots := 0, locals := 0 } : Room).slots) := by
  refine MetFree.of_bodySF (plainFor_of_name own_pn28) hisR ?_
  intro p e s m args below meth c s₁ Bd hml0 hP hK
  obtain ⟨rfl, hZ, hh⟩ := hP
  have hx := Bd.exec
  have hby := Bd.bytes
  have hml : c.maxLocals = 2 := hml0
  have hown : s.vm.findClass "java/util/Arrays" = some m.cls := findClass_of_methodNamed Bd.named
  have hnm := (name_of_methodNamed Bd.named Bd.method).1
  have X0 : Stand p l e ({ frames := 0, cells := 0, slots := 0, locals := 0 } : Room) s m #[(.int (0 : Int32)), (.int p1)] below meth c s₁ [] 0 0 := Stand.of_body Bd
  have e0 : s₁.heap = h0 := by rw [← hh, Bd.state]; rfl
  have N0 := Fr.nil n0
  have k0 : own_To p e below s₁ (mkF m 0 #[.val (.int (0 : Int32)), .val (.int p1)] []) s₁ (entryFrame m #[(.int (0 : Int32)), (.int p1)] 2) := fun t k => castTop (own_ef28 m p1) k
  have ki : own_To p e below s₁ (mkF m 0 #[.val (.int (0 : Int32)), .val (.int p1)] []) s₁ (mkF m 0 #[.val (.int (0 : Int32)), .val (.int p1)] []) := fun t q => q
  have k1 : own_To p e below s₁ (mkF m 37 #[.val (.int (0 : Int32)), .val (.int p1)] []) s₁ (mkF m 0 #[.val (.int (0 : Int32)), .val (.int p1)] []) := fun t q => ki t (by
    refine XS.iloadN X0.here hx rfl (hb hby own_d28_0) rfl ?_
    show Steps p.tables e below (s₁.setTop (mkF m 1 #[.val (.int (0 : Int32)), .val (.int p1)] [(.int p1)])) _
    refine XS.iloadN X0.here hx rfl (hb hby own_d28_1) rfl ?_
    show Steps p.tables e below (s₁.setTop (mkF m 2 #[.val (.int (0 : Int32)), .val (.int p1)] [(.int (0 : Int32)), (.int p1)])) _
    refine XS.icmpYes X0.here hx rfl (pc0 := 2) (pc' := 37) rfl (hb hby own_d28_2) rfl (flt h0_).2.1 (by decide) (by decide) ?_
    show Steps p.tables e below (s₁.setTop (mkF m 37 #[.val (.int (0 : Int32)), .val (.int p1)] [])) _
    exact q)
  obtain ⟨fs, hr, hrun, hended, hW, hsame⟩ := X0.leave (v := none) (fun _ => rfl)
  refine ⟨_, _, k0 _ (k1 _ ?_), hrun, hended, _, _, rfl, ?_, ⟨_, rfl⟩, hW, hsame.mono (by decide) (by decide)⟩
  · show Steps p.tables e below (s₁.setTop (mkF m 37 #[.val (.int (0 : Int32)), .val (.int p1)] [])) _
    exact X0.returnOut hx Bd.returns (hb hby own_d28_37) hr
  · show Q28 Z p1 h0 n0 _ s₁.heap _
    rw [e0]
    exact ⟨rfl, N0, rfl⟩
theorem own_pd15 : parseMethodDescriptor "(II)V" = some ⟨[.int, .int], none⟩ := by decide +kernel
theorem own_d27_0 : decode jdk_65_method_133_code 0 = .ok (.iload_n 1, 1) := by decide +kernel
theorem own_d27_1 : decode jdk_65_method_133_code 1 = .ok (.iload_n 2, 1) := by decide +kernel
theorem own_d27_2 : decode jdk_65_method_133_code 2 = .ok (.invokestatic 343, 3) := by decide +kernel
theorem own_d27_5 : decode jdk_65_method_133_code 5 = .ok (.iload_n 2, 1) := by decide +kernel
theorem own_d27_6 : decode jdk_65_method_133_code 6 = .ok (.iload_n 1, 1) := by decide +kernel
theorem own_d27_7 : decode jdk_65_method_133_code 7 = .ok (.isub, 1) := by decide +kernel
theorem own_d27_8 : decode jdk_65_method_133_code 8 = .ok (.istore_n 3, 1) := by decide +kernel
theorem own_d27_9 : decode jdk_65_method_133_code 9 = .ok (.iload_n 3, 1) := by decide +kernel
theorem own_d27_10 : decode jdk_65_method_133_code 10 = .ok (.newarray .byte, 2) := by decide +kernel
theorem own_d27_12 : decode jdk_65_method_133_code 12 = .ok (.astore 4, 2) := by decide +kernel
theorem own_d27_14 : decode jdk_65_method_133_code 14 = .ok (.aload_n 0, 1) := by decide +kernel
theorem own_d27_15 : decode jdk_65_method_133_code 15 = .ok (.iload_n 1, 1) := by decide +kernel
theorem own_d27_16 : decode jdk_65_method_133_code 16 = .ok (.aload 4, 2) := by decide +kernel
theorem own_d27_18 : decode jdk_65_method_133_code 18 = .ok (.iconst 0, 1) := by decide +kernel
theorem own_d27_19 : decode jdk_65_method_133_code 19 = .ok (.aload_n 0, 1) := by decide +kernel
theorem own_d27_20 : decode jdk_65_method_133_code 20 = .ok (.arraylength, 1) := by decide +kernel
theorem own_d27_21 : decode jdk_65_method_133_code 21 = .ok (.iload_n 1, 1) := by decide +kernel
theorem own_d27_22 : decode jdk_65_method_133_code 22 = .ok (.isub, 1) := by decide +kernel
theorem own_d27_23 : decode jdk_65_method_133_code 23 = .ok (.iload_n 3, 1) := by decide +kernel
theorem own_d27_24 : decode jdk_65_method_133_code 24 = .ok (.invokestatic 304, 3) := by decide +kernel
theorem own_d27_27 : decode jdk_65_method_133_code 27 = .ok (.invokestatic 150, 3) := by decide +kernel
theorem own_d27_30 : decode jdk_65_method_133_code 30 = .ok (.aload 4, 2) := by decide +kernel
theorem own_d27_32 : decode jdk_65_method_133_code 32 = .ok (.areturn, 1) := by decide +kernel
theorem own_pn27 : plainName "java/util/Arrays" = true := by first | (simp [plainName, overriddenIn]; done) | decide +kernel
theorem own_ef27 (m : MethodId) (x0 : Addr) (x2 : Int32) : entryFrame m #[(.ref x0), (.int (0 : Int32)), (.int x2)] 5 = mkF m 0 #[.val (.ref x0), .val (.int (0 : Int32)), .val (.int x2), .unset, .unset] [] := by first | (simp [entryFrame, mkF, argsToLocals, Value.category]; done) | rfl
def Q27 (Z : State) (a0_ : Addr) (p2 : Int32) (ks_ : ClassId) (z_ : Int32) (vs_ : List Value) (h0 : Heap) (n0 : Nat) (v : Option Value) (h : Heap) (L : List Loc) : Prop := ∃ (b : Addr) (kb : ClassId), v = some (.ref b) ∧ Fr n0 L ∧ Keep h0 h [] ∧ h0.size ≤ b ∧ Arv Z h b kb .byte p2 vs_ (.int (0 : Int32)) ∧ Exa Z h b "[B"
set_option maxRecDepth 65536 in
set_option maxHeartbeats 40000000 in
theorem rm27 (l : Launch) (Z : State) (a0 : Array Value) (hw : ∀ d ∈ tables_1, d.before a0 Z = true) (ws : List Jvm.Cond) (a0_ : Addr) (p2 : Int32) (ks_ : ClassId) (z_ : Int32) (vs_ : List Value) (h0 : Heap) (n0 : Nat) (Z0 : n0 ≤ h0.size) (V0 : Arv Z h0 a0_ ks_ .byte z_ vs_ (.int (0 : Int32))) (h0_ : ¬ p2 < (0 : Int32)) (hle : p2.toNatClampNeg ≤ z_.toNatClampNeg) (hcap : p2.toNatClampNeg ≤ 34) (hl_ : vs_.length = p2.toNatClampNeg) (hmin : (own_min z_ p2) = p2) :
    MetFree l (⟨"java/util/Arrays", "copyOfRangeByte", "([BII)[B"⟩ : MethodName) (head1 (Jvm.Cond.code (⟨"java/util/Arrays", "copyOfRangeByte", "([BII)[B"⟩ : MethodName) jdk_65_method_133_code 5 (some (.array .byte)) :: ws) ({ frames := 1, cells := 1, slots := 34, locals := 18 } : Room)) (fun a U => a = #[(.ref a0_), (.int (0 : Int32)), (.int p2)] ∧ Z.Warmed39 U.vm ∧ U.heap = h0) (fun _ _ _ _ _ => True) (fun _ U o U' => ∃ v L, o = .returned v ∧ Q27 Z a0_ p2 ks_ z_ vs_ h0 n0 v U'.heap L ∧ FrameEnd U o U' L ({ frames := 1, cells := 1, slots := 34, locals := 18 } : Room).cells ({ frames := 1, cells := 1, slots := 34, locals := 18 } : Room).slots) := by
  refine MetFree.of_bodySF (plainFor_of_name own_pn27) hisR ?_
  intro p e s m args below meth c s₁ Bd hml0 hP hK
  obtain ⟨rfl, hZ, hh⟩ := hP
  have hx := Bd.exec
  have hby := Bd.bytes
  have hml : c.maxLocals = 5 := hml0
  have hown : s.vm.findClass "java/util/Arrays" = some m.cls := findClass_of_methodNamed Bd.named
  have hnm := (name_of_methodNamed Bd.named Bd.method).1
  have X0 : Stand p l e ({ frames := 1, cells := 1, slots := 34, locals := 18 } : Room) s m #[(.ref a0_), (.int (0 : Int32)), (.int p2)] below meth c s₁ [] 0 0 := Stand.of_body Bd
  have e0 : s₁.heap = h0 := by rw [← hh, Bd.state]; rfl
  have N0 := Fr.nil n0
  have k0 : own_To p e below s₁ (mkF m 0 #[.val (.ref a0_), .val (.int (0 : Int32)), .val (.int p2), .unset, .unset] []) s₁ (entryFrame m #[(.ref a0_), (.int (0 : Int32)), (.int p2)] 5) := fun t k => castTop (own_ef27 m a0_ p2) k
  have ki : own_To p e below s₁ (mkF m 0 #[.val (.ref a0_), .val (.int (0 : Int32)), .val (.int p2), .unset, .unset] []) s₁ (mkF m 0 #[.val (.ref a0_), .val (.int (0 : Int32)), .val (.int p2), .unset, .unset] []) := fun t q => q
  obtain ⟨_, _, ⟨T1, L1, kk1, n1⟩, -, X1, ⟨Lc1, hQ1, l1, y1, z1⟩, st1⟩ := Jvm.LawKit.callS X0 hx (y := (⟨"java/util/Arrays", "checkLength", "(II)V"⟩ : MethodName)) hown (mvT hZ (hw _ (List.mem_of_getElem? (i := 145) rfl))) (mvT hZ (hw _ (List.mem_of_getElem? (i := 146) rfl))) (mvT hZ (hw _ (List.mem_of_getElem? (i := 140) rfl))) (mvT hZ (hw _ (List.mem_of_getElem? (i := 147) rfl))) (by decide) (backOf (W := 0) (rm28 l Z a0 hw [] p2 h0 n0 Z0 h0_) hZ (hw _ (List.mem_of_getElem? (i := 147) rfl)) (hw _ (List.mem_of_getElem? (i := 140) rfl)) (by decide) (by decide)) (g := (mkF m 2 #[.val (.ref a0_), .val (.int (0 : Int32)), .val (.int p2), .unset, .unset] [(.int p2), (.int (0 : Int32))])) rfl (by rw [hml]; rfl) (argsL := [(.int (0 : Int32)), (.int p2)]) (rest := []) (lenOf own_pd15 rfl) rfl (by show 2 * 0 + _ ≤ _; exact Nat.le_of_eq rfl) (hb hby own_d27_2) (fun _ _ => ⟨rfl, e0, (by decide : 0 + 0 ≤ _), (by decide : 0 + 0 ≤ _)⟩)
  dsimp only [Pt.U, Pt.locs, Pt.cells, Pt.slots] at X1 l1 y1 z1 st1 hQ1
  subst l1 y1 z1
  obtain ⟨rfl, N1q, e1⟩ := hQ1
  have N1 := Fr.app N0 N1q
  have q0 := own_sub0 p2
  have k2 : own_To p e below T1 (mkF m 8 #[.val (.ref a0_), .val (.int (0 : Int32)), .val (.int p2), .unset, .unset] [(.int (p2 - (0 : Int32)))]) s₁ (mkF m 0 #[.val (.ref a0_), .val (.int (0 : Int32)), .val (.int p2), .unset, .unset] []) := fun t q => ki t (by
    refine XS.iloadN X0.here hx rfl (hb hby own_d27_0) rfl ?_
    show Steps p.tables e below (s₁.setTop (mkF m 1 #[.val (.ref a0_), .val (.int (0 : Int32)), .val (.int p2), .unset, .unset] [(.int (0 : Int32))])) _
    refine XS.iloadN X0.here hx rfl (hb hby own_d27_1) rfl ?_
    show Steps p.tables e below (s₁.setTop (mkF m 2 #[.val (.ref a0_), .val (.int (0 : Int32)), .val (.int p2), .unset, .unset] [(.int p2), (.int (0 : Int32))])) _
    refine st1 _ ?_
    show Steps p.tables e below (T1.setTop (mkF m 5 #[.val (.ref a0_), .val (.int (0 : Int32)), .val (.int p2), .unset, .unset] [])) _
    refine XS.iloadN X1.here hx rfl (hb hby own_d27_5) rfl ?_
    show Steps p.tables e below (T1.setTop (mkF m 6 #[.val (.ref a0_), .val (.int (0 : Int32)), .val (.int p2), .unset, .unset] [(.int p2)])) _
    refine XS.iloadN X1.here hx rfl (hb hby own_d27_6) rfl ?_
    show Steps p.tables e below (T1.setTop (mkF m 7 #[.val (.ref a0_), .val (.int (0 : Int32)), .val (.int p2), .unset, .unset] [(.int (0 : Int32)), (.int p2)])) _
    refine XS.isub X1.here hx rfl (hb hby own_d27_7) rfl ?_
    show Steps p.tables e below (T1.setTop (mkF m 8 #[.val (.ref a0_), .val (.int (0 : Int32)), .val (.int p2), .unset, .unset] [(.int (p2 - (0 : Int32)))])) _
    exact q)
  have k3 : own_To p e below T1 (mkF m 8 #[.val (.ref a0_), .val (.int (0 : Int32)), .val (.int p2), .unset, .unset] [(.int p2)]) s₁ (mkF m 0 #[.val (.ref a0_), .val (.int (0 : Int32)), .val (.int p2), .unset, .unset] []) := by rw [q0] at k2; exact k2
  obtain ⟨T4, h4, kk4, X4, e4, E4, A4, EA4, st4⟩ := newPE X1 hx hZ (hw _ (List.mem_of_getElem? (i := 19) rfl)) e1 (g := (mkF m 10 #[.val (.ref a0_), .val (.int (0 : Int32)), .val (.int p2), .val (.int p2), .unset] [(.int p2)])) rfl (hb hby own_d27_10) rfl h0_ (cap := 34) hcap (by decide) (by decide) (by decide) (ad := "[B") rfl
  obtain ⟨b4, g4⟩ : ∃ z, z = h0.size := ⟨_, rfl⟩
  rw [← g4] at A4 EA4 st4
  have ge_b4 : n0 ≤ b4 := Nat.le_trans Z0 (Nat.le_of_eq g4.symm)
  have K5 : Keep h0 h0 [] := (Keep.refl h0 [])
  have sz_b4 : h0.size ≤ b4 := Nat.le_trans K5.1 (Nat.le_of_eq g4.symm)
  have ne_a0__b4 : a0_ ≠ b4 := Nat.ne_of_lt (Nat.lt_of_lt_of_le V0.lt (Nat.le_of_eq g4.symm))
  have V4 : Arv Z h4 b4 kk4 .byte p2 [] (.int (0 : Int32)) := Arv.new A4 h0_
  have F6 := (V0.ext E4)
  obtain ⟨clr7, Arr7, qr7, Sr7, Mr7, Hhr7, Gr7⟩ := id F6
  have k8 : own_To p e below T4 (mkF m 23 #[.val (.ref a0_), .val (.int (0 : Int32)), .val (.int p2), .val (.int p2), .val (.ref b4)] [(.int (z_ - (0 : Int32))), (.int (0 : Int32)), (.ref b4), (.int (0 : Int32)), (.ref a0_)]) s₁ (mkF m 0 #[.val (.ref a0_), .val (.int (0 : Int32)), .val (.int p2), .unset, .unset] []) := fun t q => k3 t (by
    refine XS.istoreN X1.here hx rfl (hb hby own_d27_8) rfl (l' := #[.val (.ref a0_), .val (.int (0 : Int32)), .val (.int p2), .val (.int p2), .unset]) rfl ?_
    show Steps p.tables e below (T1.setTop (mkF m 9 #[.val (.ref a0_), .val (.int (0 : Int32)), .val (.int p2), .val (.int p2), .unset] [])) _
    refine XS.iloadN X1.here hx rfl (hb hby own_d27_9) rfl ?_
    show Steps p.tables e below (T1.setTop (mkF m 10 #[.val (.ref a0_), .val (.int (0 : Int32)), .val (.int p2), .val (.int p2), .unset] [(.int p2)])) _
    refine st4 _ ?_
    show Steps p.tables e below (T4.setTop (mkF m 12 #[.val (.ref a0_), .val (.int (0 : Int32)), .val (.int p2), .val (.int p2), .unset] [(.ref b4)])) _
    refine XS.astore X4.here hx rfl (hb hby own_d27_12) rfl rfl (l' := #[.val (.ref a0_), .val (.int (0 : Int32)), .val (.int p2), .val (.int p2), .val (.ref b4)]) rfl ?_
    show Steps p.tables e below (T4.setTop (mkF m 14 #[.val (.ref a0_), .val (.int (0 : Int32)), .val (.int p2), .val (.int p2), .val (.ref b4)] [])) _
    refine XS.aloadN X4.here hx rfl (hb hby own_d27_14) rfl rfl ?_
    show Steps p.tables e below (T4.setTop (mkF m 15 #[.val (.ref a0_), .val (.int (0 : Int32)), .val (.int p2), .val (.int p2), .val (.ref b4)] [(.ref a0_)])) _
    refine XS.iloadN X4.here hx rfl (hb hby own_d27_15) rfl ?_
    show Steps p.tables e below (T4.setTop (mkF m 16 #[.val (.ref a0_), .val (.int (0 : Int32)), .val (.int p2), .val (.int p2), .val (.ref b4)] [(.int (0 : Int32)), (.ref a0_)])) _
    refine XS.aload X4.here hx rfl (hb hby own_d27_16) rfl rfl ?_
    show Steps p.tables e below (T4.setTop (mkF m 18 #[.val (.ref a0_), .val (.int (0 : Int32)), .val (.int p2), .val (.int p2), .val (.ref b4)] [(.ref b4), (.int (0 : Int32)), (.ref a0_)])) _
    refine XS.iconst X4.here hx rfl (hb hby own_d27_18) ?_
    show Steps p.tables e below (T4.setTop (mkF m 19 #[.val (.ref a0_), .val (.int (0 : Int32)), .val (.int p2), .val (.int p2), .val (.ref b4)] [(.int (0 : Int32)), (.ref b4), (.int (0 : Int32)), (.ref a0_)])) _
    refine XS.aloadN X4.here hx rfl (hb hby own_d27_19) rfl rfl ?_
    show Steps p.tables e below (T4.setTop (mkF m 20 #[.val (.ref a0_), .val (.int (0 : Int32)), .val (.int p2), .val (.int p2), .val (.ref b4)] [(.ref a0_), (.int (0 : Int32)), (.ref b4), (.int (0 : Int32)), (.ref a0_)])) _
    refine X4.arraylength hx (by rw [e4]; exact Arr7.1) (State.isArrayOf_alike hZ.alike Arr7.2.1) (g := (mkF m 20 #[.val (.ref a0_), .val (.int (0 : Int32)), .val (.int p2), .val (.int p2), .val (.ref b4)] [(.ref a0_), (.int (0 : Int32)), (.ref b4), (.int (0 : Int32)), (.ref a0_)])) rfl rfl (hb hby own_d27_20) _ ?_
    rw [len_of Sr7 Mr7]
    show Steps p.tables e below (T4.setTop (mkF m 21 #[.val (.ref a0_), .val (.int (0 : Int32)), .val (.int p2), .val (.int p2), .val (.ref b4)] [(.int z_), (.int (0 : Int32)), (.ref b4), (.int (0 : Int32)), (.ref a0_)])) _
    refine XS.iloadN X4.here hx rfl (hb hby own_d27_21) rfl ?_
    show Steps p.tables e below (T4.setTop (mkF m 22 #[.val (.ref a0_), .val (.int (0 : Int32)), .val (.int p2), .val (.int p2), .val (.ref b4)] [(.int (0 : Int32)), (.int z_), (.int (0 : Int32)), (.ref b4), (.int (0 : Int32)), (.ref a0_)])) _
    refine XS.isub X4.here hx rfl (hb hby own_d27_22) rfl ?_
    show Steps p.tables e below (T4.setTop (mkF m 23 #[.val (.ref a0_), .val (.int (0 : Int32)), .val (.int p2), .val (.int p2), .val (.ref b4)] [(.int (z_ - (0 : Int32))), (.int (0 : Int32)), (.ref b4), (.int (0 : Int32)), (.ref a0_)])) _
    exact q)
  have q1 := own_sub0 z_
  have k9 : own_To p e below T4 (mkF m 23 #[.val (.ref a0_), .val (.int (0 : Int32)), .val (.int p2), .val (.int p2), .val (.ref b4)] [(.int z_), (.int (0 : Int32)), (.ref b4), (.int (0 : Int32)), (.ref a0_)]) s₁ (mkF m 0 #[.val (.ref a0_), .val (.int (0 : Int32)), .val (.int p2), .unset, .unset] []) := by rw [q1] at k8; exact k8
  have K11 : Keep h0 h4 [] := (K5.ext E4)
  obtain ⟨_, _, ⟨T10, L10, kk10, n10⟩, -, X10, ⟨Lc10, hQ10, l10, y10, z10⟩, st10⟩ := Jvm.LawKit.callS X4 hx (y := (⟨"java/lang/Math", "min", "(II)I"⟩ : MethodName)) hown (mvT hZ (hw _ (List.mem_of_getElem? (i := 148) rfl))) (mvT hZ (hw _ (List.mem_of_getElem? (i := 149) rfl))) (mvT hZ (hw _ (List.mem_of_getElem? (i := 150) rfl))) (mvT hZ (hw _ (List.mem_of_getElem? (i := 151) rfl))) (by decide) (backOf (W := 4) (rm29 l Z a0 hw [] z_ p2 h4 n0 (Nat.le_trans Z0 K11.1)) hZ (hw _ (List.mem_of_getElem? (i := 151) rfl)) (hw _ (List.mem_of_getElem? (i := 150) rfl)) (by decide) (by decide)) (g := (mkF m 24 #[.val (.ref a0_), .val (.int (0 : Int32)), .val (.int p2), .val (.int p2), .val (.ref b4)] [(.int p2), (.int z_), (.int (0 : Int32)), (.ref b4), (.int (0 : Int32)), (.ref a0_)])) rfl (by rw [hml]; rfl) (argsL := [(.int z_), (.int p2)]) (rest := [(.int (0 : Int32)), (.ref b4), (.int (0 : Int32)), (.ref a0_)]) (lenOf own_pd14 rfl) rfl (by show 2 * 0 + _ ≤ _; exact Nat.le_of_eq rfl) (hb hby own_d27_24) (fun _ _ => ⟨rfl, e4, (by decide : 1 + 0 ≤ _), (by decide : 34 + 0 ≤ _)⟩)
  dsimp only [Pt.U, Pt.locs, Pt.cells, Pt.slots] at X10 l10 y10 z10 st10 hQ10
  subst l10 y10 z10
  obtain ⟨rfl, N10q, e10⟩ := hQ10
  have N10 := Fr.app N1 N10q
  have k12 : own_To p e below T10 (mkF m 27 #[.val (.ref a0_), .val (.int (0 : Int32)), .val (.int p2), .val (.int p2), .val (.ref b4)] [(.int (own_min z_ p2)), (.int (0 : Int32)), (.ref b4), (.int (0 : Int32)), (.ref a0_)]) s₁ (mkF m 0 #[.val (.ref a0_), .val (.int (0 : Int32)), .val (.int p2), .unset, .unset] []) := fun t q => k9 t (by
    refine XS.iloadN X4.here hx rfl (hb hby own_d27_23) rfl ?_
    show Steps p.tables e below (T4.setTop (mkF m 24 #[.val (.ref a0_), .val (.int (0 : Int32)), .val (.int p2), .val (.int p2), .val (.ref b4)] [(.int p2), (.int z_), (.int (0 : Int32)), (.ref b4), (.int (0 : Int32)), (.ref a0_)])) _
    refine st10 _ ?_
    show Steps p.tables e below (T10.setTop (mkF m 27 #[.val (.ref a0_), .val (.int (0 : Int32)), .val (.int p2), .val (.int p2), .val (.ref b4)] [(.int (own_min z_ p2)), (.int (0 : Int32)), (.ref b4), (.int (0 : Int32)), (.ref a0_)])) _
    exact q)
  have k13 : own_To p e below T10 (mkF m 27 #[.val (.ref a0_), .val (.int (0 : Int32)), .val (.int p2), .val (.int p2), .val (.ref b4)] [(.int p2), (.int (0 : Int32)), (.ref b4), (.int (0 : Int32)), (.ref a0_)]) s₁ (mkF m 0 #[.val (.ref a0_), .val (.int (0 : Int32)), .val (.int p2), .unset, .unset] []) := by rw [hmin] at k12; exact k12
  obtain ⟨T14, h14, L14, X14, e14, N14, K14, V14, st14⟩ := own_cp X10 hx hZ hown (hw _ (List.mem_of_getElem? (i := 152) rfl)) (hw _ (List.mem_of_getElem? (i := 107) rfl)) (hw _ (List.mem_of_getElem? (i := 105) rfl)) (hw _ (List.mem_of_getElem? (i := 106) rfl)) e10 (ty := .byte) rfl F6 V4 (by decide) (h0_) (hle) (by rw [show (0 : Int32).toNatClampNeg = 0 from rfl]; omega) (rfl) (Nat.le_of_eq hl_) N10 ge_b4 (g := (mkF m 27 #[.val (.ref a0_), .val (.int (0 : Int32)), .val (.int p2), .val (.int p2), .val (.ref b4)] [(.int p2), (.int (0 : Int32)), (.ref b4), (.int (0 : Int32)), (.ref a0_)])) rfl (by rw [hml]; rfl) (rest := []) rfl (hb hby own_d27_27) (by decide) (W := 0) (by show 2 * 0 + _ ≤ _; exact Nat.le_of_eq rfl) (by decide)
  have F15 := (EA4.keep K14)
  have K16 : Keep h0 h14 [] := (K11.trans K14 (allS (P := fun x => x ∈ ([] : List Addr) ∨ h0.size ≤ x) (Or.inr sz_b4) all0))
  have k17 : own_To p e below T14 (mkF m 32 #[.val (.ref a0_), .val (.int (0 : Int32)), .val (.int p2), .val (.int p2), .val (.ref b4)] [(.ref b4)]) s₁ (mkF m 0 #[.val (.ref a0_), .val (.int (0 : Int32)), .val (.int p2), .unset, .unset] []) := fun t q => k13 t (by
    refine st14 _ ?_
    show Steps p.tables e below (T14.setTop (mkF m 30 #[.val (.ref a0_), .val (.int (0 : Int32)), .val (.int p2), .val (.int p2), .val (.ref b4)] [])) _
    refine XS.aload X14.here hx rfl (hb hby own_d27_30) rfl rfl ?_
    show Steps p.tables e below (T14.setTop (mkF m 32 #[.val (.ref a0_), .val (.int (0 : Int32)), .val (.int p2), .val (.int p2), .val (.ref b4)] [(.ref b4)])) _
    exact q)
  obtain ⟨fs, hr, hrun, hended, hW, hsame⟩ := X14.leave (v := some (.ref b4)) (fun h => by rw [Bd.returns] at h; cases h)
  refine ⟨_, _, k0 _ (k17 _ ?_), hrun, hended, _, _, rfl, ?_, ⟨_, rfl⟩, hW, hsame.mono (by decide) (by decide)⟩
  · show Steps p.tables e below (T14.setTop (mkF m 32 #[.val (.ref a0_), .val (.int (0 : Int32)), .val (.int p2), .val (.int p2), .val (.ref b4)] [(.ref b4)])) _
    exact retOut X14 hx Bd.returns rfl (Or.inr (Or.inr (Or.inr (Or.inr ⟨rfl, rfl, rfl⟩)))) (hb hby own_d27_32) hr
  · show Q27 Z a0_ p2 ks_ z_ vs_ h0 n0 _ T14.heap _
    rw [e14]
    exact ⟨b4, kk4, rfl, N14, K16, sz_b4, V14, F15⟩
theorem own_pd33 : parseMethodDescriptor "([BII)[B" = some ⟨[(.array .byte), .int, .int], some (.array .byte)⟩ := by decide +kernel
theorem own_d26_0 : decode jdk_65_method_132_code 0 = .ok (.iload_n 1, 1) := by decide +kernel
theorem own_d26_1 : decode jdk_65_method_132_code 1 = .ok (.ifCond .ne 9, 3) := by decide +kernel
theorem own_d26_4 : decode jdk_65_method_132_code 4 = .ok (.iload_n 2, 1) := by decide +kernel
theorem own_d26_5 : decode jdk_65_method_132_code 5 = .ok (.aload_n 0, 1) := by decide +kernel
theorem own_d26_6 : decode jdk_65_method_132_code 6 = .ok (.arraylength, 1) := by decide +kernel
theorem own_d26_7 : decode jdk_65_method_132_code 7 = .ok (.if_icmp .eq 10, 3) := by decide +kernel
theorem own_d26_10 : decode jdk_65_method_132_code 10 = .ok (.aload_n 0, 1) := by decide +kernel
theorem own_d26_11 : decode jdk_65_method_132_code 11 = .ok (.iload_n 1, 1) := by decide +kernel
theorem own_d26_12 : decode jdk_65_method_132_code 12 = .ok (.iload_n 2, 1) := by decide +kernel
theorem own_d26_13 : decode jdk_65_method_132_code 13 = .ok (.invokestatic 339, 3) := by decide +kernel
theorem own_d26_16 : decode jdk_65_method_132_code 16 = .ok (.areturn, 1) := by decide +kernel
theorem own_pn26 : plainName "java/util/Arrays" = true := by first | (simp [plainName, overriddenIn]; done) | decide +kernel
theorem own_efR1 (m : MethodId) (x0 : Addr) (x2 : Int32) : entryFrame m #[(.ref x0), (.int (0 : Int32)), (.int x2)] 3 = mkF m 0 #[.val (.ref x0), .val (.int (0 : Int32)), .val (.int x2)] [] := by first | (simp [entryFrame, mkF, argsToLocals, Value.category]; done) | rfl
def QR1 (Z : State) (a0_ : Addr) (p2 : Int32) (ks_ : ClassId) (z_ : Int32) (vs_ : List Value) (h0 : Heap) (n0 : Nat) (v : Option Value) (h : Heap) (L : List Loc) : Prop := ∃ (b : Addr) (kb : ClassId), v = some (.ref b) ∧ Fr n0 L ∧ Keep h0 h [] ∧ h0.size ≤ b ∧ Arv Z h b kb .byte p2 vs_ (.int (0 : Int32)) ∧ Exa Z h b "[B"
set_option maxRecDepth 65536 in
set_option maxHeartbeats 40000000 in
theorem rmR1 (l : Launch) (Z : State) (a0 : Array Value) (hw : ∀ d ∈ tables_1, d.before a0 Z = true) (ws : List Jvm.Cond) (a0_ : Addr) (p2 : Int32) (ks_ : ClassId) (z_ : Int32) (vs_ : List Value) (h0 : Heap) (n0 : Nat) (Z0 : n0 ≤ h0.size) (V0 : Arv Z h0 a0_ ks_ .byte z_ vs_ (.int (0 : Int32))) (h0_ : ¬ p2 < (0 : Int32)) (hle : p2.toNatClampNeg ≤ z_.toNatClampNeg) (hcap : p2.toNatClampNeg ≤ 34) (hl_ : vs_.length = p2.toNatClampNeg) (hmin : (own_min z_ p2) = p2) (hne : ¬ p2 = z_) :
    MetFree l (⟨"java/util/Arrays", "copyOfRange", "([BII)[B"⟩ : MethodName) (head1 (Jvm.Cond.code (⟨"java/util/Arrays", "copyOfRange", "([BII)[B"⟩ : MethodName) jdk_65_method_132_code 3 (some (.array .byte)) :: ws) ({ frames := 2, cells := 1, slots := 34, locals := 34 } : Room)) (fun a U => a = #[(.ref a0_), (.int (0 : Int32)), (.int p2)] ∧ Z.Warmed39 U.vm ∧ U.heap = h0) (fun _ _ _ _ _ => True) (fun _ U o U' => ∃ v L, o = .returned v ∧ QR1 Z a0_ p2 ks_ z_ vs_ h0 n0 v U'.heap L ∧ FrameEnd U o U' L ({ frames := 2, cells := 1, slots := 34, locals := 34 } : Room).cells ({ frames := 2, cells := 1, slots := 34, locals := 34 } : Room).slots) := by
  refine MetFree.of_bodySF (plainFor_of_name own_pn26) hisR ?_
  intro p e s m args below meth c s₁ Bd hml0 hP hK
  obtain ⟨rfl, hZ, hh⟩ := hP
  have hx := Bd.exec
  have hby := Bd.bytes
  have hml : c.maxLocals = 3 := hml0
  have hown : s.vm.findClass "java/util/Arrays" = some m.cls := findClass_of_methodNamed Bd.named
  have hnm := (name_of_methodNamed Bd.named Bd.method).1
  have X0 : Stand p l e ({ frames := 2, cells := 1, slots := 34, locals := 34 } : Room) s m #[(.ref a0_), (.int (0 : Int32)), (.int p2)] below meth c s₁ [] 0 0 := Stand.of_body Bd
  have e0 : s₁.heap = h0 := by rw [← hh, Bd.state]; rfl
  have N0 := Fr.nil n0
  have k0 : own_To p e below s₁ (mkF m 0 #[.val (.ref a0_), .val (.int (0 : Int32)), .val (.int p2)] []) s₁ (entryFrame m #[(.ref a0_), (.int (0 : Int32)), (.int p2)] 3) := fun t k => castTop (own_efR1 m a0_ p2) k
  have ki : own_To p e below s₁ (mkF m 0 #[.val (.ref a0_), .val (.int (0 : Int32)), .val (.int p2)] []) s₁ (mkF m 0 #[.val (.ref a0_), .val (.int (0 : Int32)), .val (.int p2)] []) := fun t q => q
  obtain ⟨clr1, Arr1, qr1, Sr1, Mr1, Hhr1, Gr1⟩ := id V0
  obtain ⟨_, _, ⟨T2, L2, kk2, n2⟩, -, X2, ⟨Lc2, hQ2, l2, y2, z2⟩, st2⟩ := Jvm.LawKit.callS X0 hx (y := (⟨"java/util/Arrays", "copyOfRangeByte", "([BII)[B"⟩ : MethodName)) hown (mvT hZ (hw _ (List.mem_of_getElem? (i := 142) rfl))) (mvT hZ (hw _ (List.mem_of_getElem? (i := 143) rfl))) (mvT hZ (hw _ (List.mem_of_getElem? (i := 140) rfl))) (mvT hZ (hw _ (List.mem_of_getElem? (i := 144) rfl))) (by decide) (backOf (W := 0) (rm27 l Z a0 hw [] a0_ p2 ks_ z_ vs_ h0 n0 Z0 V0 h0_ hle hcap hl_ hmin) hZ (hw _ (List.mem_of_getElem? (i := 144) rfl)) (hw _ (List.mem_of_getElem? (i := 140) rfl)) (by decide) (by decide)) (g := (mkF m 13 #[.val (.ref a0_), .val (.int (0 : Int32)), .val (.int p2)] [(.int p2), (.int (0 : Int32)), (.ref a0_)])) rfl (by rw [hml]; rfl) (argsL := [(.ref a0_), (.int (0 : Int32)), (.int p2)]) (rest := []) (lenOf own_pd33 rfl) rfl (by show 2 * 0 + _ ≤ _; exact Nat.le_of_eq rfl) (hb hby own_d26_13) (fun _ _ => ⟨rfl, e0, (by decide : 0 + 1 ≤ _), (by decide : 0 + 34 ≤ _)⟩)
  dsimp only [Pt.U, Pt.locs, Pt.cells, Pt.slots] at X2 l2 y2 z2 st2 hQ2
  subst l2 y2 z2
  obtain ⟨rb2, kb2, rfl, N2q, K2, z2z, V2, EB2⟩ := hQ2
  have ne_a0__rb2 : a0_ ≠ rb2 := Nat.ne_of_lt (Nat.lt_of_lt_of_le V0.lt z2z)
  have K3 : Keep h0 h0 [] := (Keep.refl h0 [])
  have sz_rb2 : h0.size ≤ rb2 := Nat.le_trans K3.1 z2z
  have ge_rb2 : n0 ≤ rb2 := Nat.le_trans Z0 sz_rb2
  have N2 := Fr.app N0 N2q
  have K4 : Keep h0 T2.heap [] := (K3.trans K2 all0)
  have k5 : own_To p e below T2 (mkF m 16 #[.val (.ref a0_), .val (.int (0 : Int32)), .val (.int p2)] [(.ref rb2)]) s₁ (mkF m 0 #[.val (.ref a0_), .val (.int (0 : Int32)), .val (.int p2)] []) := fun t q => ki t (by
    refine XS.iloadN X0.here hx rfl (hb hby own_d26_0) rfl ?_
    show Steps p.tables e below (s₁.setTop (mkF m 1 #[.val (.ref a0_), .val (.int (0 : Int32)), .val (.int p2)] [(.int (0 : Int32))])) _
    refine XS.ifNo X0.here hx rfl (hb hby own_d26_1) rfl ((if0 _ _).trans (teq rfl).2) ?_
    show Steps p.tables e below (s₁.setTop (mkF m 4 #[.val (.ref a0_), .val (.int (0 : Int32)), .val (.int p2)] [])) _
    refine XS.iloadN X0.here hx rfl (hb hby own_d26_4) rfl ?_
    show Steps p.tables e below (s₁.setTop (mkF m 5 #[.val (.ref a0_), .val (.int (0 : Int32)), .val (.int p2)] [(.int p2)])) _
    refine XS.aloadN X0.here hx rfl (hb hby own_d26_5) rfl rfl ?_
    show Steps p.tables e below (s₁.setTop (mkF m 6 #[.val (.ref a0_), .val (.int (0 : Int32)), .val (.int p2)] [(.ref a0_), (.int p2)])) _
    refine X0.arraylength hx (by rw [e0]; exact Arr1.1) (State.isArrayOf_alike hZ.alike Arr1.2.1) (g := (mkF m 6 #[.val (.ref a0_), .val (.int (0 : Int32)), .val (.int p2)] [(.ref a0_), (.int p2)])) rfl rfl (hb hby own_d26_6) _ ?_
    rw [len_of Sr1 Mr1]
    show Steps p.tables e below (s₁.setTop (mkF m 7 #[.val (.ref a0_), .val (.int (0 : Int32)), .val (.int p2)] [(.int z_), (.int p2)])) _
    refine XS.icmpNo X0.here hx rfl (hb hby own_d26_7) rfl (feq hne).1 ?_
    show Steps p.tables e below (s₁.setTop (mkF m 10 #[.val (.ref a0_), .val (.int (0 : Int32)), .val (.int p2)] [])) _
    refine XS.aloadN X0.here hx rfl (hb hby own_d26_10) rfl rfl ?_
    show Steps p.tables e below (s₁.setTop (mkF m 11 #[.val (.ref a0_), .val (.int (0 : Int32)), .val (.int p2)] [(.ref a0_)])) _
    refine XS.iloadN X0.here hx rfl (hb hby own_d26_11) rfl ?_
    show Steps p.tables e below (s₁.setTop (mkF m 12 #[.val (.ref a0_), .val (.int (0 : Int32)), .val (.int p2)] [(.int (0 : Int32)), (.ref a0_)])) _
    refine XS.iloadN X0.here hx rfl (hb hby own_d26_12) rfl ?_
    show Steps p.tables e below (s₁.setTop (mkF m 13 #[.val (.ref a0_), .val (.int (0 : Int32)), .val (.int p2)] [(.int p2), (.int (0 : Int32)), (.ref a0_)])) _
    refine st2 _ ?_
    show Steps p.tables e below (T2.setTop (mkF m 16 #[.val (.ref a0_), .val (.int (0 : Int32)), .val (.int p2)] [(.ref rb2)])) _
    exact q)
  obtain ⟨fs, hr, hrun, hended, hW, hsame⟩ := X2.leave (v := some (.ref rb2)) (fun h => by rw [Bd.returns] at h; cases h)
  refine ⟨_, _, k0 _ (k5 _ ?_), hrun, hended, _, _, rfl, ?_, ⟨_, rfl⟩, hW, hsame.mono (by decide) (by decide)⟩
  · show Steps p.tables e below (T2.setTop (mkF m 16 #[.val (.ref a0_), .val (.int (0 : Int32)), .val (.int p2)] [(.ref rb2)])) _
    exact retOut X2 hx Bd.returns rfl (Or.inr (Or.inr (Or.inr (Or.inr ⟨rfl, rfl, rfl⟩)))) (hb hby own_d26_16) hr
  · show QR1 Z a0_ p2 ks_ z_ vs_ h0 n0 _ T2.heap _
    exact ⟨rb2, kb2, rfl, N2, K4, sz_rb2, V2, EB2⟩
theorem own_d26_17 : decode jdk_65_method_132_code 17 = .ok (.aload_n 0, 1) := by decide +kernel
theorem own_d26_18 : decode jdk_65_method_132_code 18 = .ok (.invokevirtual 310, 3) := by decide +kernel
theorem own_d26_21 : decode jdk_65_method_132_code 21 = .ok (.checkcast 311, 3) := by decide +kernel
theorem own_d26_24 : decode jdk_65_method_132_code 24 = .ok (.areturn, 1) := by decide +kernel
theorem own_efR2 (m : MethodId) (x0 : Addr) : entryFrame m #[(.ref x0), (.int (0 : Int32)), (.int (16 : Int32))] 3 = mkF m 0 #[.val (.ref x0), .val (.int (0 : Int32)), .val (.int (16 : Int32))] [] := by first | (simp [entryFrame, mkF, argsToLocals, Value.category]; done) | rfl
def QR2 (Z : State) (a0_ : Addr) (ks_ : ClassId) (vs_ : List Value) (h0 : Heap) (n0 : Nat) (v : Option Value) (h : Heap) (L : List Loc) : Prop := ∃ (b : Addr) (kb : ClassId), v = some (.ref b) ∧ Fr n0 L ∧ Keep h0 h [] ∧ h0.size ≤ b ∧ Arv Z h b kb .byte (16 : Int32) vs_ (.int (0 : Int32)) ∧ Exa Z h b "[B"
set_option maxRecDepth 65536 in
set_option maxHeartbeats 40000000 in
theorem rmR2 (l : Launch) (Z : State) (a0 : Array Value) (hw : ∀ d ∈ tables_1, d.before a0 Z = true) (ws : List Jvm.Cond) (a0_ : Addr) (ks_ : ClassId) (vs_ : List Value) (h0 : Heap) (n0 : Nat) (Z0 : n0 ≤ h0.size) (V0 : Arv Z h0 a0_ ks_ .byte (16 : Int32) vs_ (.int (0 : Int32))) (EB : Exa Z h0 a0_ "[B") :
    MetFree l (⟨"java/util/Arrays", "copyOfRange", "([BII)[B"⟩ : MethodName) (head1 (Jvm.Cond.code (⟨"java/util/Arrays", "copyOfRange", "([BII)[B"⟩ : MethodName) jdk_65_method_132_code 3 (some (.array .byte)) :: ws) ({ frames := 1, cells := 1, slots := 16, locals := 14 } : Room)) (fun a U => a = #[(.ref a0_), (.int (0 : Int32)), (.int (16 : Int32))] ∧ Z.Warmed39 U.vm ∧ U.heap = h0) (fun _ _ _ _ _ => True) (fun _ U o U' => ∃ v L, o = .returned v ∧ QR2 Z a0_ ks_ vs_ h0 n0 v U'.heap L ∧ FrameEnd U o U' L ({ frames := 1, cells := 1, slots := 16, locals := 14 } : Room).cells ({ frames := 1, cells := 1, slots := 16, locals := 14 } : Room).slots) := by
  refine MetFree.of_bodySF (plainFor_of_name own_pn26) hisR ?_
  intro p e s m args below meth c s₁ Bd hml0 hP hK
  obtain ⟨rfl, hZ, hh⟩ := hP
  have hx := Bd.exec
  have hby := Bd.bytes
  have hml : c.maxLocals = 3 := hml0
  have hown : s.vm.findClass "java/util/Arrays" = some m.cls := findClass_of_methodNamed Bd.named
  have hnm := (name_of_methodNamed Bd.named Bd.method).1
  have X0 : Stand p l e ({ frames := 1, cells := 1, slots := 16, locals := 14 } : Room) s m #[(.ref a0_), (.int (0 : Int32)), (.int (16 : Int32))] below meth c s₁ [] 0 0 := Stand.of_body Bd
  have e0 : s₁.heap = h0 := by rw [← hh, Bd.state]; rfl
  have N0 := Fr.nil n0
  have k0 : own_To p e below s₁ (mkF m 0 #[.val (.ref a0_), .val (.int (0 : Int32)), .val (.int (16 : Int32))] []) s₁ (entryFrame m #[(.ref a0_), (.int (0 : Int32)), (.int (16 : Int32))] 3) := fun t k => castTop (own_efR2 m a0_) k
  have ki : own_To p e below s₁ (mkF m 0 #[.val (.ref a0_), .val (.int (0 : Int32)), .val (.int (16 : Int32))] []) s₁ (mkF m 0 #[.val (.ref a0_), .val (.int (0 : Int32)), .val (.int (16 : Int32))] []) := fun t q => q
  obtain ⟨clr1, Arr1, qr1, Sr1, Mr1, Hhr1, Gr1⟩ := id V0
  obtain ⟨T2, h2, X2, e2, E2, A2, EA2, st2⟩ := cloneH X0 hx hZ hown (hw _ (List.mem_of_getElem? (i := 218) rfl)) (hw _ (List.mem_of_getElem? (i := 219) rfl)) (hw _ (List.mem_of_getElem? (i := 223) rfl)) (hw _ (List.mem_of_getElem? (i := 221) rfl)) (hw _ (List.mem_of_getElem? (i := 222) rfl)) (hw _ (List.mem_of_getElem? (i := 224) rfl)) e0 V0.arh EB (g := (mkF m 18 #[.val (.ref a0_), .val (.int (0 : Int32)), .val (.int (16 : Int32))] [(.ref a0_)])) rfl (by rw [hml]; rfl) (rest := []) rfl (hb hby own_d26_18) (by decide) (W := 0) (cap := 16) (by show 2 * 0 + _ ≤ _; exact Nat.le_of_eq rfl) (by decide) (by decide) (by decide) (by decide)
  obtain ⟨b2, g2⟩ : ∃ z, z = h0.size := ⟨_, rfl⟩
  rw [← g2] at A2 EA2 st2
  have ge_b2 : n0 ≤ b2 := Nat.le_trans Z0 (Nat.le_of_eq g2.symm)
  have K3 : Keep h0 h0 [] := (Keep.refl h0 [])
  have sz_b2 : h0.size ≤ b2 := Nat.le_trans K3.1 (Nat.le_of_eq g2.symm)
  have ne_a0__b2 : a0_ ≠ b2 := Nat.ne_of_lt (Nat.lt_of_lt_of_le V0.lt (Nat.le_of_eq g2.symm))
  have V2 : Arv Z h2 b2 ks_ .byte (16 : Int32) vs_ (.int (0 : Int32)) := A2
  obtain ⟨T4, X4, e4, st4⟩ := castY X2 hx hZ hown (hw _ (List.mem_of_getElem? (i := 225) rfl)) e2 (Ins.self EA2) (g := (mkF m 21 #[.val (.ref a0_), .val (.int (0 : Int32)), .val (.int (16 : Int32))] [(.ref b2)])) rfl rfl (hb hby own_d26_21)
  have K5 : Keep h0 h2 [] := (K3.ext E2)
  have k6 : own_To p e below T4 (mkF m 24 #[.val (.ref a0_), .val (.int (0 : Int32)), .val (.int (16 : Int32))] [(.ref b2)]) s₁ (mkF m 0 #[.val (.ref a0_), .val (.int (0 : Int32)), .val (.int (16 : Int32))] []) := fun t q => ki t (by
    refine XS.iloadN X0.here hx rfl (hb hby own_d26_0) rfl ?_
    show Steps p.tables e below (s₁.setTop (mkF m 1 #[.val (.ref a0_), .val (.int (0 : Int32)), .val (.int (16 : Int32))] [(.int (0 : Int32))])) _
    refine XS.ifNo X0.here hx rfl (hb hby own_d26_1) rfl ((if0 _ _).trans (teq rfl).2) ?_
    show Steps p.tables e below (s₁.setTop (mkF m 4 #[.val (.ref a0_), .val (.int (0 : Int32)), .val (.int (16 : Int32))] [])) _
    refine XS.iloadN X0.here hx rfl (hb hby own_d26_4) rfl ?_
    show Steps p.tables e below (s₁.setTop (mkF m 5 #[.val (.ref a0_), .val (.int (0 : Int32)), .val (.int (16 : Int32))] [(.int (16 : Int32))])) _
    refine XS.aloadN X0.here hx rfl (hb hby own_d26_5) rfl rfl ?_
    show Steps p.tables e below (s₁.setTop (mkF m 6 #[.val (.ref a0_), .val (.int (0 : Int32)), .val (.int (16 : Int32))] [(.ref a0_), (.int (16 : Int32))])) _
    refine X0.arraylength hx (by rw [e0]; exact Arr1.1) (State.isArrayOf_alike hZ.alike Arr1.2.1) (g := (mkF m 6 #[.val (.ref a0_), .val (.int (0 : Int32)), .val (.int (16 : Int32))] [(.ref a0_), (.int (16 : Int32))])) rfl rfl (hb hby own_d26_6) _ ?_
    rw [len_of Sr1 Mr1]
    show Steps p.tables e below (s₁.setTop (mkF m 7 #[.val (.ref a0_), .val (.int (0 : Int32)), .val (.int (16 : Int32))] [(.int (16 : Int32)), (.int (16 : Int32))])) _
    refine XS.icmpYes X0.here hx rfl (pc0 := 7) (pc' := 17) rfl (hb hby own_d26_7) rfl (teq rfl).1 (by decide) (by decide) ?_
    show Steps p.tables e below (s₁.setTop (mkF m 17 #[.val (.ref a0_), .val (.int (0 : Int32)), .val (.int (16 : Int32))] [])) _
    refine XS.aloadN X0.here hx rfl (hb hby own_d26_17) rfl rfl ?_
    show Steps p.tables e below (s₁.setTop (mkF m 18 #[.val (.ref a0_), .val (.int (0 : Int32)), .val (.int (16 : Int32))] [(.ref a0_)])) _
    refine st2 _ ?_
    show Steps p.tables e below (T2.setTop (mkF m 21 #[.val (.ref a0_), .val (.int (0 : Int32)), .val (.int (16 : Int32))] [(.ref b2)])) _
    refine st4 _ ?_
    show Steps p.tables e below (T4.setTop (mkF m 24 #[.val (.ref a0_), .val (.int (0 : Int32)), .val (.int (16 : Int32))] [(.ref b2)])) _
    exact q)
  obtain ⟨fs, hr, hrun, hended, hW, hsame⟩ := X4.leave (v := some (.ref b2)) (fun h => by rw [Bd.returns] at h; cases h)
  refine ⟨_, _, k0 _ (k6 _ ?_), hrun, hended, _, _, rfl, ?_, ⟨_, rfl⟩, hW, hsame.mono (by decide) (by decide)⟩
  · show Steps p.tables e below (T4.setTop (mkF m 24 #[.val (.ref a0_), .val (.int (0 : Int32)), .val (.int (16 : Int32))] [(.ref b2)])) _
    exact retOut X4 hx Bd.returns rfl (Or.inr (Or.inr (Or.inr (Or.inr ⟨rfl, rfl, rfl⟩)))) (hb hby own_d26_24) hr
  · show QR2 Z a0_ ks_ vs_ h0 n0 _ T4.heap _
    rw [e4]
    exact ⟨b2, ks_, rfl, N0, K5, sz_b2, V2, EA2⟩
theorem own_d34_0 : decode jdk_65_method_121_code 0 = .ok (.iload_n 1, 1) := by decide +kernel
theorem own_d34_1 : decode jdk_65_method_121_code 1 = .ok (.aload_n 0, 1) := by decide +kernel
theorem own_d34_2 : decode jdk_65_method_121_code 2 = .ok (.arraylength, 1) := by decide +kernel
theorem own_d34_3 : decode jdk_65_method_121_code 3 = .ok (.if_icmp .ne 11, 3) := by decide +kernel
theorem own_d34_14 : decode jdk_65_method_121_code 14 = .ok (.iload_n 1, 1) := by decide +kernel
theorem own_d34_15 : decode jdk_65_method_121_code 15 = .ok (.newarray .byte, 2) := by decide +kernel
theorem own_d34_17 : decode jdk_65_method_121_code 17 = .ok (.astore_n 2, 1) := by decide +kernel
theorem own_d34_18 : decode jdk_65_method_121_code 18 = .ok (.aload_n 0, 1) := by decide +kernel
theorem own_d34_19 : decode jdk_65_method_121_code 19 = .ok (.iconst 0, 1) := by decide +kernel
theorem own_d34_20 : decode jdk_65_method_121_code 20 = .ok (.aload_n 2, 1) := by decide +kernel
theorem own_d34_21 : decode jdk_65_method_121_code 21 = .ok (.iconst 0, 1) := by decide +kernel
theorem own_d34_22 : decode jdk_65_method_121_code 22 = .ok (.aload_n 0, 1) := by decide +kernel
theorem own_d34_23 : decode jdk_65_method_121_code 23 = .ok (.arraylength, 1) := by decide +kernel
theorem own_d34_24 : decode jdk_65_method_121_code 24 = .ok (.iload_n 1, 1) := by decide +kernel
theorem own_d34_25 : decode jdk_65_method_121_code 25 = .ok (.invokestatic 304, 3) := by decide +kernel
theorem own_d34_28 : decode jdk_65_method_121_code 28 = .ok (.invokestatic 150, 3) := by decide +kernel
theorem own_d34_31 : decode jdk_65_method_121_code 31 = .ok (.aload_n 2, 1) := by decide +kernel
theorem own_d34_32 : decode jdk_65_method_121_code 32 = .ok (.areturn, 1) := by decide +kernel
theorem own_pn34 : plainName "java/util/Arrays" = true := by first | (simp [plainName, overriddenIn]; done) | decide +kernel
theorem own_ef34 (m : MethodId) (x0 : Addr) : entryFrame m #[(.ref x0), (.int (34 : Int32))] 3 = mkF m 0 #[.val (.ref x0), .val (.int (34 : Int32)), .unset] [] := by first | (simp [entryFrame, mkF, argsToLocals, Value.category]; done) | rfl
def Q34 (Z : State) (a0_ : Addr) (ks_ : ClassId) (vs_ : List Value) (h0 : Heap) (n0 : Nat) (v : Option Value) (h : Heap) (L : List Loc) : Prop := ∃ (b : Addr) (kb : ClassId), v = some (.ref b) ∧ Fr n0 L ∧ Keep h0 h [] ∧ h0.size ≤ b ∧ Arv Z h b kb .byte (34 : Int32) vs_ (.int (0 : Int32)) ∧ Exa Z h b "[B"
set_option maxRecDepth 65536 in
set_option maxHeartbeats 40000000 in
theorem rm34 (l : Launch) (Z : State) (a0 : Array Value) (hw : ∀ d ∈ tables_1, d.before a0 Z = true) (ws : List Jvm.Cond) (a0_ : Addr) (ks_ : ClassId) (vs_ : List Value) (h0 : Heap) (n0 : Nat) (Z0 : n0 ≤ h0.size) (V0 : Arv Z h0 a0_ ks_ .byte (16 : Int32) vs_ (.int (0 : Int32))) (hvl : vs_.length ≤ (16 : Int32).toNatClampNeg) :
    MetFree l (⟨"java/util/Arrays", "copyOf", "([BI)[B"⟩ : MethodName) (head1 (Jvm.Cond.code (⟨"java/util/Arrays", "copyOf", "([BI)[B"⟩ : MethodName) jdk_65_method_121_code 3 (some (.array .byte)) :: ws) ({ frames := 1, cells := 1, slots := 34, locals := 18 } : Room)) (fun a U => a = #[(.ref a0_), (.int (34 : Int32))] ∧ Z.Warmed39 U.vm ∧ U.heap = h0) (fun _ _ _ _ _ => True) (fun _ U o U' => ∃ v L, o = .returned v ∧ Q34 Z a0_ ks_ vs_ h0 n0 v U'.heap L ∧ FrameEnd U o U' L ({ frames := 1, cells := 1, slots := 34, locals := 18 } : Room).cells ({ frames := 1, cells := 1, slots := 34, locals := 18 } : Room).slots) := by
  refine MetFree.of_bodySF (plainFor_of_name own_pn34) hisR ?_
  intro p e s m args below meth c s₁ Bd hml0 hP hK
  obtain ⟨rfl, hZ, hh⟩ := hP
  have hx := Bd.exec
  have hby := Bd.bytes
  have hml : c.maxLocals = 3 := hml0
  have hown : s.vm.findClass "java/util/Arrays" = some m.cls := findClass_of_methodNamed Bd.named
  have hnm := (name_of_methodNamed Bd.named Bd.method).1
  have X0 : Stand p l e ({ frames := 1, cells := 1, slots := 34, locals := 18 } : Room) s m #[(.ref a0_), (.int (34 : Int32))] below meth c s₁ [] 0 0 := Stand.of_body Bd
  have e0 : s₁.heap = h0 := by rw [← hh, Bd.state]; rfl
  have N0 := Fr.nil n0
  have k0 : own_To p e below s₁ (mkF m 0 #[.val (.ref a0_), .val (.int (34 : Int32)), .unset] []) s₁ (entryFrame m #[(.ref a0_), (.int (34 : Int32))] 3) := fun t k => castTop (own_ef34 m a0_) k
  have ki : own_To p e below s₁ (mkF m 0 #[.val (.ref a0_), .val (.int (34 : Int32)), .unset] []) s₁ (mkF m 0 #[.val (.ref a0_), .val (.int (34 : Int32)), .unset] []) := fun t q => q
  obtain ⟨clr1, Arr1, qr1, Sr1, Mr1, Hhr1, Gr1⟩ := id V0
  obtain ⟨T2, h2, kk2, X2, e2, E2, A2, EA2, st2⟩ := newPE X0 hx hZ (hw _ (List.mem_of_getElem? (i := 19) rfl)) e0 (g := (mkF m 15 #[.val (.ref a0_), .val (.int (34 : Int32)), .unset] [(.int (34 : Int32))])) rfl (hb hby own_d34_15) rfl (by decide) (cap := 34) (by decide) (by decide) (by decide) (by decide) (ad := "[B") rfl
  obtain ⟨b2, g2⟩ : ∃ z, z = h0.size := ⟨_, rfl⟩
  rw [← g2] at A2 EA2 st2
  have ge_b2 : n0 ≤ b2 := Nat.le_trans Z0 (Nat.le_of_eq g2.symm)
  have K3 : Keep h0 h0 [] := (Keep.refl h0 [])
  have sz_b2 : h0.size ≤ b2 := Nat.le_trans K3.1 (Nat.le_of_eq g2.symm)
  have ne_a0__b2 : a0_ ≠ b2 := Nat.ne_of_lt (Nat.lt_of_lt_of_le V0.lt (Nat.le_of_eq g2.symm))
  have V2 : Arv Z h2 b2 kk2 .byte (34 : Int32) [] (.int (0 : Int32)) := Arv.new A2 (by decide)
  have k4 : own_To p e below T2 (mkF m 23 #[.val (.ref a0_), .val (.int (34 : Int32)), .val (.ref b2)] [(.ref a0_), (.int (0 : Int32)), (.ref b2), (.int (0 : Int32)), (.ref a0_)]) s₁ (mkF m 0 #[.val (.ref a0_), .val (.int (34 : Int32)), .unset] []) := fun t q => ki t (by
    refine XS.iloadN X0.here hx rfl (hb hby own_d34_0) rfl ?_
    show Steps p.tables e below (s₁.setTop (mkF m 1 #[.val (.ref a0_), .val (.int (34 : Int32)), .unset] [(.int (34 : Int32))])) _
    refine XS.aloadN X0.here hx rfl (hb hby own_d34_1) rfl rfl ?_
    show Steps p.tables e below (s₁.setTop (mkF m 2 #[.val (.ref a0_), .val (.int (34 : Int32)), .unset] [(.ref a0_), (.int (34 : Int32))])) _
    refine X0.arraylength hx (by rw [e0]; exact Arr1.1) (State.isArrayOf_alike hZ.alike Arr1.2.1) (g := (mkF m 2 #[.val (.ref a0_), .val (.int (34 : Int32)), .unset] [(.ref a0_), (.int (34 : Int32))])) rfl rfl (hb hby own_d34_2) _ ?_
    rw [len_of Sr1 Mr1]
    show Steps p.tables e below (s₁.setTop (mkF m 3 #[.val (.ref a0_), .val (.int (34 : Int32)), .unset] [(.int (16 : Int32)), (.int (34 : Int32))])) _
    refine XS.icmpYes X0.here hx rfl (pc0 := 3) (pc' := 14) rfl (hb hby own_d34_3) rfl (feq (by decide)).2 (by decide) (by decide) ?_
    show Steps p.tables e below (s₁.setTop (mkF m 14 #[.val (.ref a0_), .val (.int (34 : Int32)), .unset] [])) _
    refine XS.iloadN X0.here hx rfl (hb hby own_d34_14) rfl ?_
    show Steps p.tables e below (s₁.setTop (mkF m 15 #[.val (.ref a0_), .val (.int (34 : Int32)), .unset] [(.int (34 : Int32))])) _
    refine st2 _ ?_
    show Steps p.tables e below (T2.setTop (mkF m 17 #[.val (.ref a0_), .val (.int (34 : Int32)), .unset] [(.ref b2)])) _
    refine XS.astoreN X2.here hx rfl (hb hby own_d34_17) rfl rfl (l' := #[.val (.ref a0_), .val (.int (34 : Int32)), .val (.ref b2)]) rfl ?_
    show Steps p.tables e below (T2.setTop (mkF m 18 #[.val (.ref a0_), .val (.int (34 : Int32)), .val (.ref b2)] [])) _
    refine XS.aloadN X2.here hx rfl (hb hby own_d34_18) rfl rfl ?_
    show Steps p.tables e below (T2.setTop (mkF m 19 #[.val (.ref a0_), .val (.int (34 : Int32)), .val (.ref b2)] [(.ref a0_)])) _
    refine XS.iconst X2.here hx rfl (hb hby own_d34_19) ?_
    show Steps p.tables e below (T2.setTop (mkF m 20 #[.val (.ref a0_), .val (.int (34 : Int32)), .val (.ref b2)] [(.int (0 : Int32)), (.ref a0_)])) _
    refine XS.aloadN X2.here hx rfl (hb hby own_d34_20) rfl rfl ?_
    show Steps p.tables e below (T2.setTop (mkF m 21 #[.val (.ref a0_), .val (.int (34 : Int32)), .val (.ref b2)] [(.ref b2), (.int (0 : Int32)), (.ref a0_)])) _
    refine XS.iconst X2.here hx rfl (hb hby own_d34_21) ?_
    show Steps p.tables e below (T2.setTop (mkF m 22 #[.val (.ref a0_), .val (.int (34 : Int32)), .val (.ref b2)] [(.int (0 : Int32)), (.ref b2), (.int (0 : Int32)), (.ref a0_)])) _
    refine XS.aloadN X2.here hx rfl (hb hby own_d34_22) rfl rfl ?_
    show Steps p.tables e below (T2.setTop (mkF m 23 #[.val (.ref a0_), .val (.int (34 : Int32)), .val (.ref b2)] [(.ref a0_), (.int (0 : Int32)), (.ref b2), (.int (0 : Int32)), (.ref a0_)])) _
    exact q)
  have F5 := (V0.ext E2)
  obtain ⟨clr6, Arr6, qr6, Sr6, Mr6, Hhr6, Gr6⟩ := id F5
  have K8 : Keep h0 h2 [] := (K3.ext E2)
  obtain ⟨_, _, ⟨T7, L7, kk7, n7⟩, -, X7, ⟨Lc7, hQ7, l7, y7, z7⟩, st7⟩ := Jvm.LawKit.callS X2 hx (y := (⟨"java/lang/Math", "min", "(II)I"⟩ : MethodName)) hown (mvT hZ (hw _ (List.mem_of_getElem? (i := 148) rfl))) (mvT hZ (hw _ (List.mem_of_getElem? (i := 149) rfl))) (mvT hZ (hw _ (List.mem_of_getElem? (i := 150) rfl))) (mvT hZ (hw _ (List.mem_of_getElem? (i := 151) rfl))) (by decide) (backOf (W := 4) (rm29 l Z a0 hw [] (16 : Int32) (34 : Int32) h2 n0 (Nat.le_trans Z0 K8.1)) hZ (hw _ (List.mem_of_getElem? (i := 151) rfl)) (hw _ (List.mem_of_getElem? (i := 150) rfl)) (by decide) (by decide)) (g := (mkF m 25 #[.val (.ref a0_), .val (.int (34 : Int32)), .val (.ref b2)] [(.int (34 : Int32)), (.int (16 : Int32)), (.int (0 : Int32)), (.ref b2), (.int (0 : Int32)), (.ref a0_)])) rfl (by rw [hml]; rfl) (argsL := [(.int (16 : Int32)), (.int (34 : Int32))]) (rest := [(.int (0 : Int32)), (.ref b2), (.int (0 : Int32)), (.ref a0_)]) (lenOf own_pd14 rfl) rfl (by show 2 * 0 + _ ≤ _; exact Nat.le_of_eq rfl) (hb hby own_d34_25) (fun _ _ => ⟨rfl, e2, (by decide : 1 + 0 ≤ _), (by decide : 34 + 0 ≤ _)⟩)
  dsimp only [Pt.U, Pt.locs, Pt.cells, Pt.slots] at X7 l7 y7 z7 st7 hQ7
  subst l7 y7 z7
  obtain ⟨rfl, N7q, e7⟩ := hQ7
  have N7 := Fr.app N0 N7q
  have q1 : own_min (16 : Int32) (34 : Int32) = 16 := by decide
  have k9 : own_To p e below T7 (mkF m 28 #[.val (.ref a0_), .val (.int (34 : Int32)), .val (.ref b2)] [(.int (own_min (16 : Int32) (34 : Int32))), (.int (0 : Int32)), (.ref b2), (.int (0 : Int32)), (.ref a0_)]) s₁ (mkF m 0 #[.val (.ref a0_), .val (.int (34 : Int32)), .unset] []) := fun t q => k4 t (by
    refine X2.arraylength hx (by rw [e2]; exact Arr6.1) (State.isArrayOf_alike hZ.alike Arr6.2.1) (g := (mkF m 23 #[.val (.ref a0_), .val (.int (34 : Int32)), .val (.ref b2)] [(.ref a0_), (.int (0 : Int32)), (.ref b2), (.int (0 : Int32)), (.ref a0_)])) rfl rfl (hb hby own_d34_23) _ ?_
    rw [len_of Sr6 Mr6]
    show Steps p.tables e below (T2.setTop (mkF m 24 #[.val (.ref a0_), .val (.int (34 : Int32)), .val (.ref b2)] [(.int (16 : Int32)), (.int (0 : Int32)), (.ref b2), (.int (0 : Int32)), (.ref a0_)])) _
    refine XS.iloadN X2.here hx rfl (hb hby own_d34_24) rfl ?_
    show Steps p.tables e below (T2.setTop (mkF m 25 #[.val (.ref a0_), .val (.int (34 : Int32)), .val (.ref b2)] [(.int (34 : Int32)), (.int (16 : Int32)), (.int (0 : Int32)), (.ref b2), (.int (0 : Int32)), (.ref a0_)])) _
    refine st7 _ ?_
    show Steps p.tables e below (T7.setTop (mkF m 28 #[.val (.ref a0_), .val (.int (34 : Int32)), .val (.ref b2)] [(.int (own_min (16 : Int32) (34 : Int32))), (.int (0 : Int32)), (.ref b2), (.int (0 : Int32)), (.ref a0_)])) _
    exact q)
  have k10 : own_To p e below T7 (mkF m 28 #[.val (.ref a0_), .val (.int (34 : Int32)), .val (.ref b2)] [(.int (16 : Int32)), (.int (0 : Int32)), (.ref b2), (.int (0 : Int32)), (.ref a0_)]) s₁ (mkF m 0 #[.val (.ref a0_), .val (.int (34 : Int32)), .unset] []) := by rw [q1] at k9; exact k9
  obtain ⟨T11, h11, L11, X11, e11, N11, K11, V11, st11⟩ := own_cp X7 hx hZ hown (hw _ (List.mem_of_getElem? (i := 152) rfl)) (hw _ (List.mem_of_getElem? (i := 107) rfl)) (hw _ (List.mem_of_getElem? (i := 105) rfl)) (hw _ (List.mem_of_getElem? (i := 106) rfl)) e7 (ty := .byte) rfl F5 V2 (by decide) (by decide) (by decide) (by decide) (rfl) (hvl) N7 ge_b2 (g := (mkF m 28 #[.val (.ref a0_), .val (.int (34 : Int32)), .val (.ref b2)] [(.int (16 : Int32)), (.int (0 : Int32)), (.ref b2), (.int (0 : Int32)), (.ref a0_)])) rfl (by rw [hml]; rfl) (rest := []) rfl (hb hby own_d34_28) (by decide) (W := 0) (by show 2 * 0 + _ ≤ _; exact Nat.le_of_eq rfl) (by decide)
  have F12 := (EA2.keep K11)
  have K13 : Keep h0 h11 [] := (K8.trans K11 (allS (P := fun x => x ∈ ([] : List Addr) ∨ h0.size ≤ x) (Or.inr sz_b2) all0))
  have k14 : own_To p e below T11 (mkF m 32 #[.val (.ref a0_), .val (.int (34 : Int32)), .val (.ref b2)] [(.ref b2)]) s₁ (mkF m 0 #[.val (.ref a0_), .val (.int (34 : Int32)), .unset] []) := fun t q => k10 t (by
    refine st11 _ ?_
    show Steps p.tables e below (T11.setTop (mkF m 31 #[.val (.ref a0_), .val (.int (34 : Int32)), .val (.ref b2)] [])) _
    refine XS.aloadN X11.here hx rfl (hb hby own_d34_31) rfl rfl ?_
    show Steps p.tables e below (T11.setTop (mkF m 32 #[.val (.ref a0_), .val (.int (34 : Int32)), .val (.ref b2)] [(.ref b2)])) _
    exact q)
  obtain ⟨fs, hr, hrun, hended, hW, hsame⟩ := X11.leave (v := some (.ref b2)) (fun h => by rw [Bd.returns] at h; cases h)
  refine ⟨_, _, k0 _ (k14 _ ?_), hrun, hended, _, _, rfl, ?_, ⟨_, rfl⟩, hW, hsame.mono (by decide) (by decide)⟩
  · show Steps p.tables e below (T11.setTop (mkF m 32 #[.val (.ref a0_), .val (.int (34 : Int32)), .val (.ref b2)] [(.ref b2)])) _
    exact retOut X11 hx Bd.returns rfl (Or.inr (Or.inr (Or.inr (Or.inr ⟨rfl, rfl, rfl⟩)))) (hb hby own_d34_32) hr
  · show Q34 Z a0_ ks_ vs_ h0 n0 _ T11.heap _
    rw [e11]
    exact ⟨b2, kk2, rfl, N11, K13, sz_b2, V11, F12⟩
theorem own_d14_0 : decode jdk_42_method_152_code 0 = .ok (.getstatic 38, 3) := by decide +kernel
theorem own_d14_3 : decode jdk_42_method_152_code 3 = .ok (.ifCond .eq 10, 3) := by decide +kernel
theorem own_d14_6 : decode jdk_42_method_152_code 6 = .ok (.aload_n 0, 1) := by decide +kernel
theorem own_d14_7 : decode jdk_42_method_152_code 7 = .ok (.getfield 15, 3) := by decide +kernel
theorem own_d14_10 : decode jdk_42_method_152_code 10 = .ok (.goto 4, 3) := by decide +kernel
theorem own_d14_14 : decode jdk_42_method_152_code 14 = .ok (.ireturn, 1) := by decide +kernel
theorem own_pn14 : plainName "java/lang/String" = true := by first | (simp [plainName, overriddenIn]; done) | decide +kernel
theorem own_ef14 (m : MethodId) (x0 : Addr) : entryFrame m #[(.ref x0)] 1 = mkF m 0 #[.val (.ref x0)] [] := by first | (simp [entryFrame, mkF, argsToLocals, Value.category]; done) | rfl
def Q14 (Z : State) (a0_ : Addr) (b0_ : Addr) (k0_ : ClassId) (z0 : Int32) (v0 : List Value) (cs : Int32) (h0 : Heap) (n0 : Nat) (v : Option Value) (h : Heap) (L : List Loc) : Prop := v = some (.int (0 : Int32)) ∧ Fr n0 L ∧ h = h0
set_option maxRecDepth 65536 in
set_option maxHeartbeats 40000000 in
theorem rm14 (l : Launch) (Z : State) (a0 : Array Value) (hw : ∀ d ∈ tables_1, d.before a0 Z = true) (ws : List Jvm.Cond) (a0_ : Addr) (b0_ : Addr) (k0_ : ClassId) (z0 : Int32) (v0 : List Value) (cs : Int32) (h0 : Heap) (n0 : Nat) (Z0 : n0 ≤ h0.size) (Es0 : Exa Z h0 a0_ "java/lang/String") (Fcs0 : Fld Z h0 a0_ "java/lang/String" "coder" "B" (.int (0 : Int32))) (Fvs0 : Fld Z h0 a0_ "java/lang/String" "value" "[B" (.ref b0_)) (Vs0 : Arv Z h0 b0_ k0_ .byte z0 v0 (.int (0 : Int32))) (hl0 : v0.length = z0.toNatClampNeg) (SC : Sta Z Z.heap "java/lang/String" "COMPACT_STRINGS" "Z" (.int cs)) (hcs : ¬ cs = (0 : Int32)) (O0 : Old Z n0 h0) :
    MetFree l (⟨"java/lang/String", "coder", "()B"⟩ : MethodName) (head1 (Jvm.Cond.code (⟨"java/lang/String", "coder", "()B"⟩ : MethodName) jdk_42_method_152_code 1 (some .byte) :: ws) ({ frames := 0, cells := 0, slots := 0, locals := 0 } : Room)) (fun a U => a = #[(.ref a0_)] ∧ Z.Warmed39 U.vm ∧ U.heap = h0) (fun _ _ _ _ _ => True) (fun _ U o U' => ∃ v L, o = .returned v ∧ Q14 Z a0_ b0_ k0_ z0 v0 cs h0 n0 v U'.heap L ∧ FrameEnd U o U' L ({ frames := 0, cells := 0, slots := 0, locals := 0 } : Room).cells ({ frames := 0, cells := 0, slots := 0, locals := 0 } : Room).slots) := by
  refine MetFree.of_bodySF (plainFor_of_name own_pn14) hisR ?_
  intro p e s m args below meth c s₁ Bd hml0 hP hK
  obtain ⟨rfl, hZ, hh⟩ := hP
  have hx := Bd.exec
  have hby := Bd.bytes
  have hml : c.maxLocals = 1 := hml0
  have hown : s.vm.findClass "java/lang/String" = some m.cls := findClass_of_methodNamed Bd.named
  have hnm := (name_of_methodNamed Bd.named Bd.method).1
  have X0 : Stand p l e ({ frames := 0, cells := 0, slots := 0, locals := 0 } : Room) s m #[(.ref a0_)] below meth c s₁ [] 0 0 := Stand.of_body Bd
  have e0 : s₁.heap = h0 := by rw [← hh, Bd.state]; rfl
  have N0 := Fr.nil n0
  have k0 : own_To p e below s₁ (mkF m 0 #[.val (.ref a0_)] []) s₁ (entryFrame m #[(.ref a0_)] 1) := fun t k => castTop (own_ef14 m a0_) k
  have ki : own_To p e below s₁ (mkF m 0 #[.val (.ref a0_)] []) s₁ (mkF m 0 #[.val (.ref a0_)] []) := fun t q => q
  obtain ⟨T1, X1, e1, st1⟩ := getS2 X0 hx hZ hown (host := "") (Or.inl (hw _ (List.mem_of_getElem? (i := 26) rfl))) Via.refl e0 (SC.ext O0.2) (g := (mkF m 0 #[.val (.ref a0_)] [])) rfl (hb hby own_d14_0)
  obtain ⟨T2, X2, e2, st2⟩ := getF X1 hx hZ hown (host := "") (Or.inl (hw _ (List.mem_of_getElem? (i := 25) rfl))) Via.refl e1 Fcs0 (g := (mkF m 7 #[.val (.ref a0_)] [(.ref a0_)])) rfl rfl (hb hby own_d14_7)
  have k3 : own_To p e below T2 (mkF m 14 #[.val (.ref a0_)] [(.int (0 : Int32))]) s₁ (mkF m 0 #[.val (.ref a0_)] []) := fun t q => ki t (by
    refine st1 _ ?_
    show Steps p.tables e below (T1.setTop (mkF m 3 #[.val (.ref a0_)] [(.int cs)])) _
    refine XS.ifNo X1.here hx rfl (hb hby own_d14_3) rfl ((if0 _ _).trans (feq hcs).1) ?_
    show Steps p.tables e below (T1.setTop (mkF m 6 #[.val (.ref a0_)] [])) _
    refine XS.aloadN X1.here hx rfl (hb hby own_d14_6) rfl rfl ?_
    show Steps p.tables e below (T1.setTop (mkF m 7 #[.val (.ref a0_)] [(.ref a0_)])) _
    refine st2 _ ?_
    show Steps p.tables e below (T2.setTop (mkF m 10 #[.val (.ref a0_)] [(.int (0 : Int32))])) _
    refine XS.goto X2.here hx rfl (pc0 := 10) (pc' := 14) rfl (hb hby own_d14_10) (by decide) (by decide) ?_
    show Steps p.tables e below (T2.setTop (mkF m 14 #[.val (.ref a0_)] [(.int (0 : Int32))])) _
    exact q)
  obtain ⟨fs, hr, hrun, hended, hW, hsame⟩ := X2.leave (v := some (.int (nar .byte (0 : Int32)))) (fun h => by rw [Bd.returns] at h; cases h)
  refine ⟨_, _, k0 _ (k3 _ ?_), hrun, hended, _, _, rfl, ?_, ⟨_, rfl⟩, hW, hsame.mono (by decide) (by decide)⟩
  · show Steps p.tables e below (T2.setTop (mkF m 14 #[.val (.ref a0_)] [(.int (0 : Int32))])) _
    exact retN X2 hx (t := .byte) Bd.returns (by simp) (hb hby own_d14_14) hr
  · show Q14 Z a0_ b0_ k0_ z0 v0 cs h0 n0 _ T2.heap _
    rw [e2]
    exact ⟨congrArg (fun z => some (Value.int z)) (by decide), N0, rfl⟩
theorem own_pd0 : parseMethodDescriptor "()B" = some ⟨[], some .byte⟩ := by decide +kernel
theorem own_d13_0 : decode jdk_42_method_54_code 0 = .ok (.aload_n 0, 1) := by decide +kernel
theorem own_d13_1 : decode jdk_42_method_54_code 1 = .ok (.getfield 9, 3) := by decide +kernel
theorem own_d13_4 : decode jdk_42_method_54_code 4 = .ok (.arraylength, 1) := by decide +kernel
theorem own_d13_5 : decode jdk_42_method_54_code 5 = .ok (.aload_n 0, 1) := by decide +kernel
theorem own_d13_6 : decode jdk_42_method_54_code 6 = .ok (.invokevirtual 335, 3) := by decide +kernel
theorem own_d13_9 : decode jdk_42_method_54_code 9 = .ok (.ishr, 1) := by decide +kernel
theorem own_d13_10 : decode jdk_42_method_54_code 10 = .ok (.ireturn, 1) := by decide +kernel
theorem own_pn13 : plainName "java/lang/String" = true := by first | (simp [plainName, overriddenIn]; done) | decide +kernel
theorem own_ef13 (m : MethodId) (x0 : Addr) : entryFrame m #[(.ref x0)] 1 = mkF m 0 #[.val (.ref x0)] [] := by first | (simp [entryFrame, mkF, argsToLocals, Value.category]; done) | rfl
def Q13 (Z : State) (a0_ : Addr) (b0_ : Addr) (k0_ : ClassId) (z0 : Int32) (v0 : List Value) (cs : Int32) (h0 : Heap) (n0 : Nat) (v : Option Value) (h : Heap) (L : List Loc) : Prop := v = some (.int z0) ∧ Fr n0 L ∧ h = h0
set_option maxRecDepth 65536 in
set_option maxHeartbeats 40000000 in
theorem rm13 (l : Launch) (Z : State) (a0 : Array Value) (hw : ∀ d ∈ tables_1, d.before a0 Z = true) (ws : List Jvm.Cond) (a0_ : Addr) (b0_ : Addr) (k0_ : ClassId) (z0 : Int32) (v0 : List Value) (cs : Int32) (h0 : Heap) (n0 : Nat) (Z0 : n0 ≤ h0.size) (Es0 : Exa Z h0 a0_ "java/lang/String") (Fcs0 : Fld Z h0 a0_ "java/lang/String" "coder" "B" (.int (0 : Int32))) (Fvs0 : Fld Z h0 a0_ "java/lang/String" "value" "[B" (.ref b0_)) (Vs0 : Arv Z h0 b0_ k0_ .byte z0 v0 (.int (0 : Int32))) (hl0 : v0.length = z0.toNatClampNeg) (SC : Sta Z Z.heap "java/lang/String" "COMPACT_STRINGS" "Z" (.int cs)) (hcs : ¬ cs = (0 : Int32)) (O0 : Old Z n0 h0) :
    MetFree l (⟨"java/lang/String", "length", "()I"⟩ : MethodName) (head1 (Jvm.Cond.code (⟨"java/lang/String", "length", "()I"⟩ : MethodName) jdk_42_method_54_code 1 (some .int) :: ws) ({ frames := 1, cells := 0, slots := 0, locals := 13 } : Room)) (fun a U => a = #[(.ref a0_)] ∧ Z.Warmed39 U.vm ∧ U.heap = h0) (fun _ _ _ _ _ => True) (fun _ U o U' => ∃ v L, o = .returned v ∧ Q13 Z a0_ b0_ k0_ z0 v0 cs h0 n0 v U'.heap L ∧ FrameEnd U o U' L ({ frames := 1, cells := 0, slots := 0, locals := 13 } : Room).cells ({ frames := 1, cells := 0, slots := 0, locals := 13 } : Room).slots) := by
  refine MetFree.of_bodySF (plainFor_of_name own_pn13) hisR ?_
  intro p e s m args below meth c s₁ Bd hml0 hP hK
  obtain ⟨rfl, hZ, hh⟩ := hP
  have hx := Bd.exec
  have hby := Bd.bytes
  have hml : c.maxLocals = 1 := hml0
  have hown : s.vm.findClass "java/lang/String" = some m.cls := findClass_of_methodNamed Bd.named
  have hnm := (name_of_methodNamed Bd.named Bd.method).1
  have X0 : Stand p l e ({ frames := 1, cells := 0, slots := 0, locals := 13 } : Room) s m #[(.ref a0_)] below meth c s₁ [] 0 0 := Stand.of_body Bd
  have e0 : s₁.heap = h0 := by rw [← hh, Bd.state]; rfl
  have N0 := Fr.nil n0
  have k0 : own_To p e below s₁ (mkF m 0 #[.val (.ref a0_)] []) s₁ (entryFrame m #[(.ref a0_)] 1) := fun t k => castTop (own_ef13 m a0_) k
  have ki : own_To p e below s₁ (mkF m 0 #[.val (.ref a0_)] []) s₁ (mkF m 0 #[.val (.ref a0_)] []) := fun t q => q
  obtain ⟨T1, X1, e1, st1⟩ := getF X0 hx hZ hown (host := "") (Or.inl (hw _ (List.mem_of_getElem? (i := 24) rfl))) Via.refl e0 Fvs0 (g := (mkF m 1 #[.val (.ref a0_)] [(.ref a0_)])) rfl rfl (hb hby own_d13_1)
  obtain ⟨clr2, Arr2, qr2, Sr2, Mr2, Hhr2, Gr2⟩ := id Vs0
  obtain ⟨cq3, kq3, q3a, q3b, q3c⟩ := isOf hZ e1 Es0
  obtain ⟨_, _, ⟨T3, L3, kk3, n3⟩, -, X3, ⟨Lc3, hQ3, l3, y3, z3⟩, st3⟩ := X1.virtualBack hx (y := (⟨"java/lang/String", "coder", "()B"⟩ : MethodName)) (z := (⟨"java/lang/String", "coder", "()B"⟩ : MethodName)) hown (mvT hZ (hw _ (List.mem_of_getElem? (i := 76) rfl))) (mvT hZ (hw _ (List.mem_of_getElem? (i := 77) rfl))) (notFace_of_selects (args := #[]) (mvT hZ (hw _ (List.mem_of_getElem? (i := 79) rfl)))) (mvT hZ (hw _ (List.mem_of_getElem? (i := 79) rfl))) (mvT hZ (hw _ (List.mem_of_getElem? (i := 78) rfl))) (by decide) (backOf (W := 1) (rm14 l Z a0 hw [] a0_ b0_ k0_ z0 v0 cs h0 n0 Z0 Es0 Fcs0 Fvs0 Vs0 hl0 SC hcs O0) hZ (hw _ (List.mem_of_getElem? (i := 80) rfl)) (hw _ (List.mem_of_getElem? (i := 6) rfl)) (by decide) (by decide)) q3a q3c (g := (mkF m 6 #[.val (.ref a0_)] [(.ref a0_), (.int z0)])) rfl (by rw [hml]; rfl) (Steps.refl _) (argsL := []) (rest := [(.int z0)]) (lenOf own_pd0 rfl) rfl (by show 2 * 0 + _ ≤ _; exact Nat.le_of_eq rfl) (hb hby own_d13_6) (fun _ _ => ⟨rfl, e1, (by decide : 0 + 0 ≤ _), (by decide : 0 + 0 ≤ _)⟩)
  dsimp only [Pt.U, Pt.locs, Pt.cells, Pt.slots] at X3 l3 y3 z3 st3 hQ3
  subst l3 y3 z3
  obtain ⟨rfl, N3q, e3⟩ := hQ3
  have N3 := Fr.app N0 N3q
  have k4 : own_To p e below T3 (mkF m 10 #[.val (.ref a0_)] [(.int (z0 >>> ((0 : Int32) &&& 31)))]) s₁ (mkF m 0 #[.val (.ref a0_)] []) := fun t q => ki t (by
    refine XS.aloadN X0.here hx rfl (hb hby own_d13_0) rfl rfl ?_
    show Steps p.tables e below (s₁.setTop (mkF m 1 #[.val (.ref a0_)] [(.ref a0_)])) _
    refine st1 _ ?_
    show Steps p.tables e below (T1.setTop (mkF m 4 #[.val (.ref a0_)] [(.ref b0_)])) _
    refine X1.arraylength hx (by rw [e1]; exact Arr2.1) (State.isArrayOf_alike hZ.alike Arr2.2.1) (g := (mkF m 4 #[.val (.ref a0_)] [(.ref b0_)])) rfl rfl (hb hby own_d13_4) _ ?_
    rw [len_of Sr2 Mr2]
    show Steps p.tables e below (T1.setTop (mkF m 5 #[.val (.ref a0_)] [(.int z0)])) _
    refine XS.aloadN X1.here hx rfl (hb hby own_d13_5) rfl rfl ?_
    show Steps p.tables e below (T1.setTop (mkF m 6 #[.val (.ref a0_)] [(.ref a0_), (.int z0)])) _
    refine st3.trans ?_
    show Steps p.tables e below (T3.setTop (mkF m 9 #[.val (.ref a0_)] [(.int (0 : Int32)), (.int z0)])) _
    refine XS.ishr X3.here hx rfl (hb hby own_d13_9) rfl ?_
    show Steps p.tables e below (T3.setTop (mkF m 10 #[.val (.ref a0_)] [(.int (z0 >>> ((0 : Int32) &&& 31)))])) _
    exact q)
  obtain ⟨fs, hr, hrun, hended, hW, hsame⟩ := X3.leave (v := some (.int (z0 >>> ((0 : Int32) &&& 31)))) (fun h => by rw [Bd.returns] at h; cases h)
  refine ⟨_, _, k0 _ (k4 _ ?_), hrun, hended, _, _, rfl, ?_, ⟨_, rfl⟩, hW, hsame.mono (by decide) (by decide)⟩
  · show Steps p.tables e below (T3.setTop (mkF m 10 #[.val (.ref a0_)] [(.int (z0 >>> ((0 : Int32) &&& 31)))])) _
    exact retOut X3 hx Bd.returns rfl (Or.inl ⟨rfl, Or.inl rfl, _, rfl⟩) (hb hby own_d13_10) hr
  · show Q13 Z a0_ b0_ k0_ z0 v0 cs h0 n0 _ T3.heap _
    rw [e3]
    exact ⟨congrArg (fun z => some (Value.int z)) (own_shr0 _), N3, rfl⟩
theorem own_d37_0 : decode jdk_42_method_154_code 0 = .ok (.getstatic 38, 3) := by decide +kernel
theorem own_d37_3 : decode jdk_42_method_154_code 3 = .ok (.ifCond .eq 14, 3) := by decide +kernel
theorem own_d37_6 : decode jdk_42_method_154_code 6 = .ok (.aload_n 0, 1) := by decide +kernel
theorem own_d37_7 : decode jdk_42_method_154_code 7 = .ok (.getfield 15, 3) := by decide +kernel
theorem own_d37_10 : decode jdk_42_method_154_code 10 = .ok (.ifCond .ne 7, 3) := by decide +kernel
theorem own_d37_13 : decode jdk_42_method_154_code 13 = .ok (.iconst 1, 1) := by decide +kernel
theorem own_d37_14 : decode jdk_42_method_154_code 14 = .ok (.goto 4, 3) := by decide +kernel
theorem own_d37_18 : decode jdk_42_method_154_code 18 = .ok (.ireturn, 1) := by decide +kernel
theorem own_pn37 : plainName "java/lang/String" = true := by first | (simp [plainName, overriddenIn]; done) | decide +kernel
theorem own_ef37 (m : MethodId) (x0 : Addr) : entryFrame m #[(.ref x0)] 1 = mkF m 0 #[.val (.ref x0)] [] := by first | (simp [entryFrame, mkF, argsToLocals, Value.category]; done) | rfl
def Q37 (Z : State) (a0_ : Addr) (b0_ : Addr) (k0_ : ClassId) (z0 : Int32) (v0 : List Value) (cs : Int32) (h0 : Heap) (n0 : Nat) (v : Option Value) (h : Heap) (L : List Loc) : Prop := v = some (.int (1 : Int32)) ∧ Fr n0 L ∧ h = h0
set_option maxRecDepth 65536 in
set_option maxHeartbeats 40000000 in
theorem rm37 (l : Launch) (Z : State) (a0 : Array Value) (hw : ∀ d ∈ tables_1, d.before a0 Z = true) (ws : List Jvm.Cond) (a0_ : Addr) (b0_ : Addr) (k0_ : ClassId) (z0 : Int32) (v0 : List Value) (cs : Int32) (h0 : Heap) (n0 : Nat) (Z0 : n0 ≤ h0.size) (Es0 : Exa Z h0 a0_ "java/lang/String") (Fcs0 : Fld Z h0 a0_ "java/lang/String" "coder" "B" (.int (0 : Int32))) (Fvs0 : Fld Z h0 a0_ "java/lang/String" "value" "[B" (.ref b0_)) (Vs0 : Arv Z h0 b0_ k0_ .byte z0 v0 (.int (0 : Int32))) (hl0 : v0.length = z0.toNatClampNeg) (SC : Sta Z Z.heap "java/lang/String" "COMPACT_STRINGS" "Z" (.int cs)) (hcs : ¬ cs = (0 : Int32)) (O0 : Old Z n0 h0) :
    MetFree l (⟨"java/lang/String", "isLatin1", "()Z"⟩ : MethodName) (head1 (Jvm.Cond.code (⟨"java/lang/String", "isLatin1", "()Z"⟩ : MethodName) jdk_42_method_154_code 1 (some .boolean) :: ws) ({ frames := 0, cells := 0, slots := 0, locals := 0 } : Room)) (fun a U => a = #[(.ref a0_)] ∧ Z.Warmed39 U.vm ∧ U.heap = h0) (fun _ _ _ _ _ => True) (fun _ U o U' => ∃ v L, o = .returned v ∧ Q37 Z a0_ b0_ k0_ z0 v0 cs h0 n0 v U'.heap L ∧ FrameEnd U o U' L ({ frames := 0, cells := 0, slots := 0, locals := 0 } : Room).cells ({ frames := 0, cells := 0, slots := 0, locals := 0 } : Room).slots) := by
  refine MetFree.of_bodySF (plainFor_of_name own_pn37) hisR ?_
  intro p e s m args below meth c s₁ Bd hml0 hP hK
  obtain ⟨rfl, hZ, hh⟩ := hP
  have hx := Bd.exec
  have hby := Bd.bytes
  have hml : c.maxLocals = 1 := hml0
  have hown : s.vm.findClass "java/lang/String" = some m.cls := findClass_of_methodNamed Bd.named
  have hnm := (name_of_methodNamed Bd.named Bd.method).1
  have X0 : Stand p l e ({ frames := 0, cells := 0, slots := 0, locals := 0 } : Room) s m #[(.ref a0_)] below meth c s₁ [] 0 0 := Stand.of_body Bd
  have e0 : s₁.heap = h0 := by rw [← hh, Bd.state]; rfl
  have N0 := Fr.nil n0
  have k0 : own_To p e below s₁ (mkF m 0 #[.val (.ref a0_)] []) s₁ (entryFrame m #[(.ref a0_)] 1) := fun t k => castTop (own_ef37 m a0_) k
  have ki : own_To p e below s₁ (mkF m 0 #[.val (.ref a0_)] []) s₁ (mkF m 0 #[.val (.ref a0_)] []) := fun t q => q
  obtain ⟨T1, X1, e1, st1⟩ := getS2 X0 hx hZ hown (host := "") (Or.inl (hw _ (List.mem_of_getElem? (i := 26) rfl))) Via.refl e0 (SC.ext O0.2) (g := (mkF m 0 #[.val (.ref a0_)] [])) rfl (hb hby own_d37_0)
  obtain ⟨T2, X2, e2, st2⟩ := getF X1 hx hZ hown (host := "") (Or.inl (hw _ (List.mem_of_getElem? (i := 25) rfl))) Via.refl e1 Fcs0 (g := (mkF m 7 #[.val (.ref a0_)] [(.ref a0_)])) rfl rfl (hb hby own_d37_7)
  have k3 : own_To p e below T2 (mkF m 18 #[.val (.ref a0_)] [(.int (1 : Int32))]) s₁ (mkF m 0 #[.val (.ref a0_)] []) := fun t q => ki t (by
    refine st1 _ ?_
    show Steps p.tables e below (T1.setTop (mkF m 3 #[.val (.ref a0_)] [(.int cs)])) _
    refine XS.ifNo X1.here hx rfl (hb hby own_d37_3) rfl ((if0 _ _).trans (feq hcs).1) ?_
    show Steps p.tables e below (T1.setTop (mkF m 6 #[.val (.ref a0_)] [])) _
    refine XS.aloadN X1.here hx rfl (hb hby own_d37_6) rfl rfl ?_
    show Steps p.tables e below (T1.setTop (mkF m 7 #[.val (.ref a0_)] [(.ref a0_)])) _
    refine st2 _ ?_
    show Steps p.tables e below (T2.setTop (mkF m 10 #[.val (.ref a0_)] [(.int (0 : Int32))])) _
    refine XS.ifNo X2.here hx rfl (hb hby own_d37_10) rfl ((if0 _ _).trans (teq rfl).2) ?_
    show Steps p.tables e below (T2.setTop (mkF m 13 #[.val (.ref a0_)] [])) _
    refine XS.iconst X2.here hx rfl (hb hby own_d37_13) ?_
    show Steps p.tables e below (T2.setTop (mkF m 14 #[.val (.ref a0_)] [(.int (1 : Int32))])) _
    refine XS.goto X2.here hx rfl (pc0 := 14) (pc' := 18) rfl (hb hby own_d37_14) (by decide) (by decide) ?_
    show Steps p.tables e below (T2.setTop (mkF m 18 #[.val (.ref a0_)] [(.int (1 : Int32))])) _
    exact q)
  obtain ⟨fs, hr, hrun, hended, hW, hsame⟩ := X2.leave (v := some (.int (1 : Int32))) (fun h => by rw [Bd.returns] at h; cases h)
  refine ⟨_, _, k0 _ (k3 _ ?_), hrun, hended, _, _, rfl, ?_, ⟨_, rfl⟩, hW, hsame.mono (by decide) (by decide)⟩
  · show Steps p.tables e below (T2.setTop (mkF m 18 #[.val (.ref a0_)] [(.int (1 : Int32))])) _
    exact retN X2 hx (t := .boolean) Bd.returns (by simp) (hb hby own_d37_18) hr
  · show Q37 Z a0_ b0_ k0_ z0 v0 cs h0 n0 _ T2.heap _
    rw [e2]
    exact ⟨rfl, N0, rfl⟩
theorem own_d40_0 : decode jdk_41_method_11_code 0 = .ok (.iload_n 0, 1) := by decide +kernel
theorem own_d40_1 : decode jdk_41_method_11_code 1 = .ok (.ifCond .lt 8, 3) := by decide +kernel
theorem own_d40_4 : decode jdk_41_method_11_code 4 = .ok (.iload_n 0, 1) := by decide +kernel
theorem own_d40_5 : decode jdk_41_method_11_code 5 = .ok (.iload_n 1, 1) := by decide +kernel
theorem own_d40_6 : decode jdk_41_method_11_code 6 = .ok (.if_icmp .lt 10, 3) := by decide +kernel
theorem own_d40_16 : decode jdk_41_method_11_code 16 = .ok (.iload_n 0, 1) := by decide +kernel
theorem own_d40_17 : decode jdk_41_method_11_code 17 = .ok (.ireturn, 1) := by decide +kernel
theorem own_pn40 : plainName "jdk/internal/util/Preconditions" = true := by first | (simp [plainName, overriddenIn]; done) | decide +kernel
theorem own_efPR (m : MethodId) (x0 : Int32) (x1 : Int32) (x2 : Addr) : entryFrame m #[(.int x0), (.int x1), (.ref x2)] 3 = mkF m 0 #[.val (.int x0), .val (.int x1), .val (.ref x2)] [] := by first | (simp [entryFrame, mkF, argsToLocals, Value.category]; done) | rfl
def QPR (Z : State) (p0 : Int32) (p1 : Int32) (a2 : Addr) (h0 : Heap) (n0 : Nat) (v : Option Value) (h : Heap) (L : List Loc) : Prop := v = some (.int p0) ∧ Fr n0 L ∧ h = h0
set_option maxRecDepth 65536 in
set_option maxHeartbeats 40000000 in
theorem rmPR (l : Launch) (Z : State) (a0 : Array Value) (hw : ∀ d ∈ tables_1, d.before a0 Z = true) (ws : List Jvm.Cond) (p0 : Int32) (p1 : Int32) (a2 : Addr) (h0 : Heap) (n0 : Nat) (Z0 : n0 ≤ h0.size) (h1 : ¬ p0 < (0 : Int32)) (h2 : p0 < p1) :
    MetFree l (⟨"jdk/internal/util/Preconditions", "checkIndex", "(IILjava/util/function/BiFunction;)I"⟩ : MethodName) (head1 (Jvm.Cond.code (⟨"jdk/internal/util/Preconditions", "checkIndex", "(IILjava/util/function/BiFunction;)I"⟩ : MethodName) jdk_41_method_11_code 3 (some .int) :: ws) ({ frames := 0, cells := 0, slots := 0, locals := 0 } : Room)) (fun a U => a = #[(.int p0), (.int p1), (.ref a2)] ∧ Z.Warmed39 U.vm ∧ U.heap = h0) (fun _ _ _ _ _ => True) (fun _ U o U' => ∃ v L, o = .returned v ∧ QPR Z p0 p1 a2 h0 n0 v U'.heap L ∧ FrameEnd U o U' L ({ frames := 0, cells := 0, slots := 0, locals := 0 } : Room).cells ({ frames := 0, cells := 0, slots := 0, locals := 0 } : Room).slots) := by
  refine MetFree.of_bodySF (plainFor_of_name own_pn40) hisR ?_
  intro p e s m args below meth c s₁ Bd hml0 hP hK
  obtain ⟨rfl, hZ, hh⟩ := hP
  have hx := Bd.exec
  have hby := Bd.bytes
  have hml : c.maxLocals = 3 := hml0
  have hown : s.vm.findClass "jdk/internal/util/Preconditions" = some m.cls := findClass_of_methodNamed Bd.named
  have hnm := (name_of_methodNamed Bd.named Bd.method).1
  have X0 : Stand p l e ({ frames := 0, cells := 0, slots := 0, locals := 0 } : Room) s m #[(.int p0), (.int p1), (.ref a2)] below meth c s₁ [] 0 0 := Stand.of_body Bd
  have e0 : s₁.heap = h0 := by rw [← hh, Bd.state]; rfl
  have N0 := Fr.nil n0
  have k0 : own_To p e below s₁ (mkF m 0 #[.val (.int p0), .val (.int p1), .val (.ref a2)] []) s₁ (entryFrame m #[(.int p0), (.int p1), (.ref a2)] 3) := fun t k => castTop (own_efPR m p0 p1 a2) k
  have ki : own_To p e below s₁ (mkF m 0 #[.val (.int p0), .val (.int p1), .val (.ref a2)] []) s₁ (mkF m 0 #[.val (.int p0), .val (.int p1), .val (.ref a2)] []) := fun t q => q
  have k1 : own_To p e below s₁ (mkF m 17 #[.val (.int p0), .val (.int p1), .val (.ref a2)] [(.int p0)]) s₁ (mkF m 0 #[.val (.int p0), .val (.int p1), .val (.ref a2)] []) := fun t q => ki t (by
    refine XS.iloadN X0.here hx rfl (hb hby own_d40_0) rfl ?_
    show Steps p.tables e below (s₁.setTop (mkF m 1 #[.val (.int p0), .val (.int p1), .val (.ref a2)] [(.int p0)])) _
    refine XS.ifNo X0.here hx rfl (hb hby own_d40_1) rfl ((if0 _ _).trans (flt h1).1) ?_
    show Steps p.tables e below (s₁.setTop (mkF m 4 #[.val (.int p0), .val (.int p1), .val (.ref a2)] [])) _
    refine XS.iloadN X0.here hx rfl (hb hby own_d40_4) rfl ?_
    show Steps p.tables e below (s₁.setTop (mkF m 5 #[.val (.int p0), .val (.int p1), .val (.ref a2)] [(.int p0)])) _
    refine XS.iloadN X0.here hx rfl (hb hby own_d40_5) rfl ?_
    show Steps p.tables e below (s₁.setTop (mkF m 6 #[.val (.int p0), .val (.int p1), .val (.ref a2)] [(.int p1), (.int p0)])) _
    refine XS.icmpYes X0.here hx rfl (pc0 := 6) (pc' := 16) rfl (hb hby own_d40_6) rfl (tlt h2).1 (by decide) (by decide) ?_
    show Steps p.tables e below (s₁.setTop (mkF m 16 #[.val (.int p0), .val (.int p1), .val (.ref a2)] [])) _
    refine XS.iloadN X0.here hx rfl (hb hby own_d40_16) rfl ?_
    show Steps p.tables e below (s₁.setTop (mkF m 17 #[.val (.int p0), .val (.int p1), .val (.ref a2)] [(.int p0)])) _
    exact q)
  obtain ⟨fs, hr, hrun, hended, hW, hsame⟩ := X0.leave (v := some (.int p0)) (fun h => by rw [Bd.returns] at h; cases h)
  refine ⟨_, _, k0 _ (k1 _ ?_), hrun, hended, _, _, rfl, ?_, ⟨_, rfl⟩, hW, hsame.mono (by decide) (by decide)⟩
  · show Steps p.tables e below (s₁.setTop (mkF m 17 #[.val (.int p0), .val (.int p1), .val (.ref a2)] [(.int p0)])) _
    exact retOut X0 hx Bd.returns rfl (Or.inl ⟨rfl, Or.inl rfl, _, rfl⟩) (hb hby own_d40_17) hr
  · show QPR Z p0 p1 a2 h0 n0 _ s₁.heap _
    rw [e0]
    exact ⟨rfl, N0, rfl⟩
theorem own_efPN (m : MethodId) (x0 : Int32) (x1 : Int32) : entryFrame m #[(.int x0), (.int x1), .null] 3 = mkF m 0 #[.val (.int x0), .val (.int x1), .val .null] [] := by first | (simp [entryFrame, mkF, argsToLocals, Value.category]; done) | rfl
def QPN (Z : State) (p0 : Int32) (p1 : Int32) (h0 : Heap) (n0 : Nat) (v : Option Value) (h : Heap) (L : List Loc) : Prop := v = some (.int p0) ∧ Fr n0 L ∧ h = h0
set_option maxRecDepth 65536 in
set_option maxHeartbeats 40000000 in
theorem rmPN (l : Launch) (Z : State) (a0 : Array Value) (hw : ∀ d ∈ tables_1, d.before a0 Z = true) (ws : List Jvm.Cond) (p0 : Int32) (p1 : Int32) (h0 : Heap) (n0 : Nat) (Z0 : n0 ≤ h0.size) (h1 : ¬ p0 < (0 : Int32)) (h2 : p0 < p1) :
    MetFree l (⟨"jdk/internal/util/Preconditions", "checkIndex", "(IILjava/util/function/BiFunction;)I"⟩ : MethodName) (head1 (Jvm.Cond.code (⟨"jdk/internal/util/Preconditions", "checkIndex", "(IILjava/util/function/BiFunction;)I"⟩ : MethodName) jdk_41_method_11_code 3 (some .int) :: ws) ({ frames := 0, cells := 0, slots := 0, locals := 0 } : Room)) (fun a U => a = #[(.int p0), (.int p1), .null] ∧ Z.Warmed39 U.vm ∧ U.heap = h0) (fun _ _ _ _ _ => True) (fun _ U o U' => ∃ v L, o = .returned v ∧ QPN Z p0 p1 h0 n0 v U'.heap L ∧ FrameEnd U o U' L ({ frames := 0, cells := 0, slots := 0, locals := 0 } : Room).cells ({ frames := 0, cells := 0, slots := 0, locals := 0 } : Room).slots) := by
  refine MetFree.of_bodySF (plainFor_of_name own_pn40) hisR ?_
  intro p e s m args below meth c s₁ Bd hml0 hP hK
  obtain ⟨rfl, hZ, hh⟩ := hP
  have hx := Bd.exec
  have hby := Bd.bytes
  have hml : c.maxLocals = 3 := hml0
  have hown : s.vm.findClass "jdk/internal/util/Preconditions" = some m.cls := findClass_of_methodNamed Bd.named
  have hnm := (name_of_methodNamed Bd.named Bd.method).1
  have X0 : Stand p l e ({ frames := 0, cells := 0, slots := 0, locals := 0 } : Room) s m #[(.int p0), (.int p1), .null] below meth c s₁ [] 0 0 := Stand.of_body Bd
  have e0 : s₁.heap = h0 := by rw [← hh, Bd.state]; rfl
  have N0 := Fr.nil n0
  have k0 : own_To p e below s₁ (mkF m 0 #[.val (.int p0), .val (.int p1), .val .null] []) s₁ (entryFrame m #[(.int p0), (.int p1), .null] 3) := fun t k => castTop (own_efPN m p0 p1) k
  have ki : own_To p e below s₁ (mkF m 0 #[.val (.int p0), .val (.int p1), .val .null] []) s₁ (mkF m 0 #[.val (.int p0), .val (.int p1), .val .null] []) := fun t q => q
  have k1 : own_To p e below s₁ (mkF m 17 #[.val (.int p0), .val (.int p1), .val .null] [(.int p0)]) s₁ (mkF m 0 #[.val (.int p0), .val (.int p1), .val .null] []) := fun t q => ki t (by
    refine XS.iloadN X0.here hx rfl (hb hby own_d40_0) rfl ?_
    show Steps p.tables e below (s₁.setTop (mkF m 1 #[.val (.int p0), .val (.int p1), .val .null] [(.int p0)])) _
    refine XS.ifNo X0.here hx rfl (hb hby own_d40_1) rfl ((if0 _ _).trans (flt h1).1) ?_
    show Steps p.tables e below (s₁.setTop (mkF m 4 #[.val (.int p0), .val (.int p1), .val .null] [])) _
    refine XS.iloadN X0.here hx rfl (hb hby own_d40_4) rfl ?_
    show Steps p.tables e below (s₁.setTop (mkF m 5 #[.val (.int p0), .val (.int p1), .val .null] [(.int p0)])) _
    refine XS.iloadN X0.here hx rfl (hb hby own_d40_5) rfl ?_
    show Steps p.tables e below (s₁.setTop (mkF m 6 #[.val (.int p0), .val (.int p1), .val .null] [(.int p1), (.int p0)])) _
    refine XS.icmpYes X0.here hx rfl (pc0 := 6) (pc' := 16) rfl (hb hby own_d40_6) rfl (tlt h2).1 (by decide) (by decide) ?_
    show Steps p.tables e below (s₁.setTop (mkF m 16 #[.val (.int p0), .val (.int p1), .val .null] [])) _
    refine XS.iloadN X0.here hx rfl (hb hby own_d40_16) rfl ?_
    show Steps p.tables e below (s₁.setTop (mkF m 17 #[.val (.int p0), .val (.int p1), .val .null] [(.int p0)])) _
    exact q)
  obtain ⟨fs, hr, hrun, hended, hW, hsame⟩ := X0.leave (v := some (.int p0)) (fun h => by rw [Bd.returns] at h; cases h)
  refine ⟨_, _, k0 _ (k1 _ ?_), hrun, hended, _, _, rfl, ?_, ⟨_, rfl⟩, hW, hsame.mono (by decide) (by decide)⟩
  · show Steps p.tables e below (s₁.setTop (mkF m 17 #[.val (.int p0), .val (.int p1), .val .null] [(.int p0)])) _
    exact retOut X0 hx Bd.returns rfl (Or.inl ⟨rfl, Or.inl rfl, _, rfl⟩) (hb hby own_d40_17) hr
  · show QPN Z p0 p1 h0 n0 _ s₁.heap _
    rw [e0]
    exact ⟨rfl, N0, rfl⟩
theorem own_pd17 : parseMethodDescriptor "(IILjava/util/function/BiFunction;)I" = some ⟨[.int, .int, (.object "java/util/function/BiFunction")], some .int⟩ := by decide +kernel
theorem own_d39_0 : decode jdk_42_method_155_code 0 = .ok (.iload_n 0, 1) := by decide +kernel
theorem own_d39_1 : decode jdk_42_method_155_code 1 = .ok (.iload_n 1, 1) := by decide +kernel
theorem own_d39_2 : decode jdk_42_method_155_code 2 = .ok (.getstatic 1053, 3) := by decide +kernel
theorem own_d39_5 : decode jdk_42_method_155_code 5 = .ok (.invokestatic 1059, 3) := by decide +kernel
theorem own_d39_8 : decode jdk_42_method_155_code 8 = .ok (.pop, 1) := by decide +kernel
theorem own_d39_9 : decode jdk_42_method_155_code 9 = .ok (.return_, 1) := by decide +kernel
theorem own_pn39 : plainName "java/lang/String" = true := by first | (simp [plainName, overriddenIn]; done) | decide +kernel
theorem own_ef39 (m : MethodId) (x0 : Int32) (x1 : Int32) : entryFrame m #[(.int x0), (.int x1)] 2 = mkF m 0 #[.val (.int x0), .val (.int x1)] [] := by first | (simp [entryFrame, mkF, argsToLocals, Value.category]; done) | rfl
def Q39 (Z : State) (p0 : Int32) (p1 : Int32) (fo : Value) (h0 : Heap) (n0 : Nat) (v : Option Value) (h : Heap) (L : List Loc) : Prop := v = none ∧ Fr n0 L ∧ h = h0
set_option maxRecDepth 65536 in
set_option maxHeartbeats 40000000 in
theorem rm39 (l : Launch) (Z : State) (a0 : Array Value) (hw : ∀ d ∈ tables_1, d.before a0 Z = true) (ws : List Jvm.Cond) (p0 : Int32) (p1 : Int32) (fo : Value) (h0 : Heap) (n0 : Nat) (Z0 : n0 ≤ h0.size) (h1 : ¬ p0 < (0 : Int32)) (h2 : p0 < p1) (O0 : Old Z n0 h0) (SF : Sta Z Z.heap "jdk/internal/util/Preconditions" "SIOOBE_FORMATTER" "Ljava/util/function/BiFunction;" fo) (hfo : fo = .null ∨ ∃ f, fo = .ref f) :
    MetFree l (⟨"java/lang/String", "checkIndex", "(II)V"⟩ : MethodName) (head1 (Jvm.Cond.code (⟨"java/lang/String", "checkIndex", "(II)V"⟩ : MethodName) jdk_42_method_155_code 2 none :: ws) ({ frames := 1, cells := 0, slots := 0, locals := 14 } : Room)) (fun a U => a = #[(.int p0), (.int p1)] ∧ Z.Warmed39 U.vm ∧ U.heap = h0) (fun _ _ _ _ _ => True) (fun _ U o U' => ∃ v L, o = .returned v ∧ Q39 Z p0 p1 fo h0 n0 v U'.heap L ∧ FrameEnd U o U' L ({ frames := 1, cells := 0, slots := 0, locals := 14 } : Room).cells ({ frames := 1, cells := 0, slots := 0, locals := 14 } : Room).slots) := by
  refine MetFree.of_bodySF (plainFor_of_name own_pn39) hisR ?_
  intro p e s m args below meth c s₁ Bd hml0 hP hK
  obtain ⟨rfl, hZ, hh⟩ := hP
  have hx := Bd.exec
  have hby := Bd.bytes
  have hml : c.maxLocals = 2 := hml0
  have hown : s.vm.findClass "java/lang/String" = some m.cls := findClass_of_methodNamed Bd.named
  have hnm := (name_of_methodNamed Bd.named Bd.method).1
  have X0 : Stand p l e ({ frames := 1, cells := 0, slots := 0, locals := 14 } : Room) s m #[(.int p0), (.int p1)] below meth c s₁ [] 0 0 := Stand.of_body Bd
  have e0 : s₁.heap = h0 := by rw [← hh, Bd.state]; rfl
  have N0 := Fr.nil n0
  have k0 : own_To p e below s₁ (mkF m 0 #[.val (.int p0), .val (.int p1)] []) s₁ (entryFrame m #[(.int p0), (.int p1)] 2) := fun t k => castTop (own_ef39 m p0 p1) k
  have ki : own_To p e below s₁ (mkF m 0 #[.val (.int p0), .val (.int p1)] []) s₁ (mkF m 0 #[.val (.int p0), .val (.int p1)] []) := fun t q => q
  obtain ⟨T1, X1, e1, st1⟩ := getS2 X0 hx hZ hown (host := "") (Or.inl (hw _ (List.mem_of_getElem? (i := 198) rfl))) Via.refl e0 (SF.ext O0.2) (g := (mkF m 2 #[.val (.int p0), .val (.int p1)] [(.int p1), (.int p0)])) rfl (hb hby own_d39_2)
  have k2 : own_To p e below T1 (mkF m 5 #[.val (.int p0), .val (.int p1)] [fo, (.int p1), (.int p0)]) s₁ (mkF m 0 #[.val (.int p0), .val (.int p1)] []) := fun t q => ki t (by
    refine XS.iloadN X0.here hx rfl (hb hby own_d39_0) rfl ?_
    show Steps p.tables e below (s₁.setTop (mkF m 1 #[.val (.int p0), .val (.int p1)] [(.int p0)])) _
    refine XS.iloadN X0.here hx rfl (hb hby own_d39_1) rfl ?_
    show Steps p.tables e below (s₁.setTop (mkF m 2 #[.val (.int p0), .val (.int p1)] [(.int p1), (.int p0)])) _
    refine st1 _ ?_
    show Steps p.tables e below (T1.setTop (mkF m 5 #[.val (.int p0), .val (.int p1)] [fo, (.int p1), (.int p0)])) _
    exact q)
  rcases hfo with hfo | ⟨f_, hfo⟩
  ·
    have k3 : own_To p e below T1 (mkF m 5 #[.val (.int p0), .val (.int p1)] [.null, (.int p1), (.int p0)]) s₁ (mkF m 0 #[.val (.int p0), .val (.int p1)] []) := by rw [hfo] at k2; exact k2
    obtain ⟨_, _, ⟨T4, L4, kk4, n4⟩, -, X4, ⟨Lc4, hQ4, l4, y4, z4⟩, st4⟩ := Jvm.LawKit.callS X1 hx (y := (⟨"jdk/internal/util/Preconditions", "checkIndex", "(IILjava/util/function/BiFunction;)I"⟩ : MethodName)) hown (mvT hZ (hw _ (List.mem_of_getElem? (i := 200) rfl))) (mvT hZ (hw _ (List.mem_of_getElem? (i := 201) rfl))) (mvT hZ (hw _ (List.mem_of_getElem? (i := 199) rfl))) (mvT hZ (hw _ (List.mem_of_getElem? (i := 202) rfl))) (by decide) (backOf (W := 0) (rmPN l Z a0 hw [] p0 p1 h0 n0 Z0 h1 h2) hZ (hw _ (List.mem_of_getElem? (i := 202) rfl)) (hw _ (List.mem_of_getElem? (i := 199) rfl)) (by decide) (by decide)) (g := (mkF m 5 #[.val (.int p0), .val (.int p1)] [.null, (.int p1), (.int p0)])) rfl (by rw [hml]; rfl) (argsL := [(.int p0), (.int p1), .null]) (rest := []) (lenOf own_pd17 rfl) rfl (by show 2 * 0 + _ ≤ _; exact Nat.le_of_eq rfl) (hb hby own_d39_5) (fun _ _ => ⟨rfl, e1, (by decide : 0 + 0 ≤ _), (by decide : 0 + 0 ≤ _)⟩)
    dsimp only [Pt.U, Pt.locs, Pt.cells, Pt.slots] at X4 l4 y4 z4 st4 hQ4
    subst l4 y4 z4
    obtain ⟨rfl, N4q, e4⟩ := hQ4
    have N4 := Fr.app N0 N4q
    have k5 : own_To p e below T4 (mkF m 9 #[.val (.int p0), .val (.int p1)] []) s₁ (mkF m 0 #[.val (.int p0), .val (.int p1)] []) := fun t q => k3 t (by
      refine st4 _ ?_
      show Steps p.tables e below (T4.setTop (mkF m 8 #[.val (.int p0), .val (.int p1)] [(.int p0)])) _
      refine XS.pop X4.here hx rfl (hb hby own_d39_8) rfl rfl ?_
      show Steps p.tables e below (T4.setTop (mkF m 9 #[.val (.int p0), .val (.int p1)] [])) _
      exact q)
    obtain ⟨fs, hr, hrun, hended, hW, hsame⟩ := X4.leave (v := none) (fun _ => rfl)
    refine ⟨_, _, k0 _ (k5 _ ?_), hrun, hended, _, _, rfl, ?_, ⟨_, rfl⟩, hW, hsame.mono (by decide) (by decide)⟩
    · show Steps p.tables e below (T4.setTop (mkF m 9 #[.val (.int p0), .val (.int p1)] [])) _
      exact X4.returnOut hx Bd.returns (hb hby own_d39_9) hr
    · show Q39 Z p0 p1 fo h0 n0 _ T4.heap _
      rw [e4]
      exact ⟨rfl, N4, rfl⟩
  ·
    have k6 : own_To p e below T1 (mkF m 5 #[.val (.int p0), .val (.int p1)] [(.ref f_), (.int p1), (.int p0)]) s₁ (mkF m 0 #[.val (.int p0), .val (.int p1)] []) := by rw [hfo] at k2; exact k2
    obtain ⟨_, _, ⟨T7, L7, kk7, n7⟩, -, X7, ⟨Lc7, hQ7, l7, y7, z7⟩, st7⟩ := Jvm.LawKit.callS X1 hx (y := (⟨"jdk/internal/util/Preconditions", "checkIndex", "(IILjava/util/function/BiFunction;)I"⟩ : MethodName)) hown (mvT hZ (hw _ (List.mem_of_getElem? (i := 200) rfl))) (mvT hZ (hw _ (List.mem_of_getElem? (i := 201) rfl))) (mvT hZ (hw _ (List.mem_of_getElem? (i := 199) rfl))) (mvT hZ (hw _ (List.mem_of_getElem? (i := 202) rfl))) (by decide) (backOf (W := 0) (rmPR l Z a0 hw [] p0 p1 f_ h0 n0 Z0 h1 h2) hZ (hw _ (List.mem_of_getElem? (i := 202) rfl)) (hw _ (List.mem_of_getElem? (i := 199) rfl)) (by decide) (by decide)) (g := (mkF m 5 #[.val (.int p0), .val (.int p1)] [(.ref f_), (.int p1), (.int p0)])) rfl (by rw [hml]; rfl) (argsL := [(.int p0), (.int p1), (.ref f_)]) (rest := []) (lenOf own_pd17 rfl) rfl (by show 2 * 0 + _ ≤ _; exact Nat.le_of_eq rfl) (hb hby own_d39_5) (fun _ _ => ⟨rfl, e1, (by decide : 0 + 0 ≤ _), (by decide : 0 + 0 ≤ _)⟩)
    dsimp only [Pt.U, Pt.locs, Pt.cells, Pt.slots] at X7 l7 y7 z7 st7 hQ7
    subst l7 y7 z7
    obtain ⟨rfl, N7q, e7⟩ := hQ7
    have N7 := Fr.app N0 N7q
    have k8 : own_To p e below T7 (mkF m 9 #[.val (.int p0), .val (.int p1)] []) s₁ (mkF m 0 #[.val (.int p0), .val (.int p1)] []) := fun t q => k6 t (by
      refine st7 _ ?_
      show Steps p.tables e below (T7.setTop (mkF m 8 #[.val (.int p0), .val (.int p1)] [(.int p0)])) _
      refine XS.pop X7.here hx rfl (hb hby own_d39_8) rfl rfl ?_
      show Steps p.tables e below (T7.setTop (mkF m 9 #[.val (.int p0), .val (.int p1)] [])) _
      exact q)
    obtain ⟨fs, hr, hrun, hended, hW, hsame⟩ := X7.leave (v := none) (fun _ => rfl)
    refine ⟨_, _, k0 _ (k8 _ ?_), hrun, hended, _, _, rfl, ?_, ⟨_, rfl⟩, hW, hsame.mono (by decide) (by decide)⟩
    · show Steps p.tables e below (T7.setTop (mkF m 9 #[.val (.int p0), .val (.int p1)] [])) _
      exact X7.returnOut hx Bd.returns (hb hby own_d39_9) hr
    · show Q39 Z p0 p1 fo h0 n0 _ T7.heap _
      rw [e7]
      exact ⟨rfl, N7, rfl⟩
def own_iv : Value → Int32 | .int x => x | _ => 0
theorem own_byte {v : Value} (h : fits .byte v = true) : ∃ x, v = .int x := by
  cases v <;> simp [fits] at h <;> exact ⟨_, rfl⟩
theorem own_at {Z : State} {h : Heap} {a : Addr} {k : ClassId} {z i : Int32} {vs : List Value} (F : Arv Z h a k .byte z vs (.int (0 : Int32))) (h1 : ¬ i < 0) (h2 : i < z) : ∃ x, vs.getD i.toNatClampNeg (.int (0 : Int32)) = .int x := by
  obtain ⟨c, -, -, S, -, -, G⟩ := F
  rw [Int32.lt_iff_toInt_lt] at h1 h2
  rw [show (0 : Int32).toInt = 0 from rfl] at h1
  exact own_byte (G _ (by rw [S]; simp only [Int32.toNatClampNeg]; omega))
/-- the character at a place -/
def own_ch (vs : List Value) (i : Int32) : Int32 := nar .char ((own_iv (vs.getD i.toNatClampNeg (.int (0 : Int32))) &&& (255 : Int32)).toUInt32.toUInt16.toUInt32.toInt32)
def own_cA (vs : List Value) (i : Int32) : Int32 := nar .char (own_ch vs i)
theorem own_d38_0 : decode jdk_43_method_2_code 0 = .ok (.iload_n 1, 1) := by decide +kernel
theorem own_d38_1 : decode jdk_43_method_2_code 1 = .ok (.aload_n 0, 1) := by decide +kernel
theorem own_d38_2 : decode jdk_43_method_2_code 2 = .ok (.arraylength, 1) := by decide +kernel
theorem own_d38_3 : decode jdk_43_method_2_code 3 = .ok (.invokestatic 9, 3) := by decide +kernel
theorem own_d38_6 : decode jdk_43_method_2_code 6 = .ok (.aload_n 0, 1) := by decide +kernel
theorem own_d38_7 : decode jdk_43_method_2_code 7 = .ok (.iload_n 1, 1) := by decide +kernel
theorem own_d38_8 : decode jdk_43_method_2_code 8 = .ok (.baload, 1) := by decide +kernel
theorem own_d38_9 : decode jdk_43_method_2_code 9 = .ok (.sipush 255, 3) := by decide +kernel
theorem own_d38_12 : decode jdk_43_method_2_code 12 = .ok (.iand, 1) := by decide +kernel
theorem own_d38_13 : decode jdk_43_method_2_code 13 = .ok (.i2c, 1) := by decide +kernel
theorem own_d38_14 : decode jdk_43_method_2_code 14 = .ok (.ireturn, 1) := by decide +kernel
theorem own_pn38 : plainName "java/lang/StringLatin1" = true := by first | (simp [plainName, overriddenIn]; done) | decide +kernel
theorem own_ef38 (m : MethodId) (x0 : Addr) (x1 : Int32) : entryFrame m #[(.ref x0), (.int x1)] 2 = mkF m 0 #[.val (.ref x0), .val (.int x1)] [] := by first | (simp [entryFrame, mkF, argsToLocals, Value.category]; done) | rfl
def Q38 (Z : State) (a0_ : Addr) (p1 : Int32) (ks_ : ClassId) (z_ : Int32) (vs_ : List Value) (fo : Value) (h0 : Heap) (n0 : Nat) (v : Option Value) (h : Heap) (L : List Loc) : Prop := v = some (.int (own_ch vs_ p1)) ∧ Fr n0 L ∧ h = h0
set_option maxRecDepth 65536 in
set_option maxHeartbeats 40000000 in
theorem rm38 (l : Launch) (Z : State) (a0 : Array Value) (hw : ∀ d ∈ tables_1, d.before a0 Z = true) (ws : List Jvm.Cond) (a0_ : Addr) (p1 : Int32) (ks_ : ClassId) (z_ : Int32) (vs_ : List Value) (fo : Value) (h0 : Heap) (n0 : Nat) (Z0 : n0 ≤ h0.size) (V0 : Arv Z h0 a0_ ks_ .byte z_ vs_ (.int (0 : Int32))) (h1 : ¬ p1 < (0 : Int32)) (h2 : p1 < z_) (O0 : Old Z n0 h0) (SF : Sta Z Z.heap "jdk/internal/util/Preconditions" "SIOOBE_FORMATTER" "Ljava/util/function/BiFunction;" fo) (hfo : fo = .null ∨ ∃ f, fo = .ref f) :
    MetFree l (⟨"java/lang/StringLatin1", "charAt", "([BI)C"⟩ : MethodName) (head1 (Jvm.Cond.code (⟨"java/lang/StringLatin1", "charAt", "([BI)C"⟩ : MethodName) jdk_43_method_2_code 2 (some .char) :: ws) ({ frames := 2, cells := 0, slots := 0, locals := 27 } : Room)) (fun a U => a = #[(.ref a0_), (.int p1)] ∧ Z.Warmed39 U.vm ∧ U.heap = h0) (fun _ _ _ _ _ => True) (fun _ U o U' => ∃ v L, o = .returned v ∧ Q38 Z a0_ p1 ks_ z_ vs_ fo h0 n0 v U'.heap L ∧ FrameEnd U o U' L ({ frames := 2, cells := 0, slots := 0, locals := 27 } : Room).cells ({ frames := 2, cells := 0, slots := 0, locals := 27 } : Room).slots) := by
  refine MetFree.of_bodySF (plainFor_of_name own_pn38) hisR ?_
  intro p e s m args below meth c s₁ Bd hml0 hP hK
  obtain ⟨rfl, hZ, hh⟩ := hP
  have hx := Bd.exec
  have hby := Bd.bytes
  have hml : c.maxLocals = 2 := hml0
  have hown : s.vm.findClass "java/lang/StringLatin1" = some m.cls := findClass_of_methodNamed Bd.named
  have hnm := (name_of_methodNamed Bd.named Bd.method).1
  have X0 : Stand p l e ({ frames := 2, cells := 0, slots := 0, locals := 27 } : Room) s m #[(.ref a0_), (.int p1)] below meth c s₁ [] 0 0 := Stand.of_body Bd
  have e0 : s₁.heap = h0 := by rw [← hh, Bd.state]; rfl
  have N0 := Fr.nil n0
  have k0 : own_To p e below s₁ (mkF m 0 #[.val (.ref a0_), .val (.int p1)] []) s₁ (entryFrame m #[(.ref a0_), (.int p1)] 2) := fun t k => castTop (own_ef38 m a0_ p1) k
  have ki : own_To p e below s₁ (mkF m 0 #[.val (.ref a0_), .val (.int p1)] []) s₁ (mkF m 0 #[.val (.ref a0_), .val (.int p1)] []) := fun t q => q
  obtain ⟨x0, hx0⟩ := own_at V0 h1 h2
  obtain ⟨clr1, Arr1, qr1, Sr1, Mr1, Hhr1, Gr1⟩ := id V0
  obtain ⟨_, _, ⟨T2, L2, kk2, n2⟩, -, X2, ⟨Lc2, hQ2, l2, y2, z2⟩, st2⟩ := Jvm.LawKit.callS X0 hx (y := (⟨"java/lang/String", "checkIndex", "(II)V"⟩ : MethodName)) hown (mvT hZ (hw _ (List.mem_of_getElem? (i := 195) rfl))) (mvT hZ (hw _ (List.mem_of_getElem? (i := 196) rfl))) (mvT hZ (hw _ (List.mem_of_getElem? (i := 6) rfl))) (mvT hZ (hw _ (List.mem_of_getElem? (i := 197) rfl))) (by decide) (backOf (W := 0) (rm39 l Z a0 hw [] p1 z_ fo h0 n0 Z0 h1 h2 O0 SF hfo) hZ (hw _ (List.mem_of_getElem? (i := 197) rfl)) (hw _ (List.mem_of_getElem? (i := 6) rfl)) (by decide) (by decide)) (g := (mkF m 3 #[.val (.ref a0_), .val (.int p1)] [(.int z_), (.int p1)])) rfl (by rw [hml]; rfl) (argsL := [(.int p1), (.int z_)]) (rest := []) (lenOf own_pd15 rfl) rfl (by show 2 * 0 + _ ≤ _; exact Nat.le_of_eq rfl) (hb hby own_d38_3) (fun _ _ => ⟨rfl, e0, (by decide : 0 + 0 ≤ _), (by decide : 0 + 0 ≤ _)⟩)
  dsimp only [Pt.U, Pt.locs, Pt.cells, Pt.slots] at X2 l2 y2 z2 st2 hQ2
  subst l2 y2 z2
  obtain ⟨rfl, N2q, e2⟩ := hQ2
  have N2 := Fr.app N0 N2q
  obtain ⟨clr3, Arr3, qr3, Sr3, Mr3, Hhr3, Gr3⟩ := id V0
  have hinr3 : ¬ (p1 < 0 ∨ clr3.slots.size ≤ (p1).toNatClampNeg) := inb_of Sr3 ⟨h1, h2⟩
  have hatr3 : clr3.slots[(p1).toNatClampNeg]? = some (.int x0) := Has.at Hhr3 hinr3 hx0
  have k4 : own_To p e below T2 (mkF m 14 #[.val (.ref a0_), .val (.int p1)] [(.int ((x0 &&& (255 : Int32)).toUInt32.toUInt16.toUInt32.toInt32))]) s₁ (mkF m 0 #[.val (.ref a0_), .val (.int p1)] []) := fun t q => ki t (by
    refine XS.iloadN X0.here hx rfl (hb hby own_d38_0) rfl ?_
    show Steps p.tables e below (s₁.setTop (mkF m 1 #[.val (.ref a0_), .val (.int p1)] [(.int p1)])) _
    refine XS.aloadN X0.here hx rfl (hb hby own_d38_1) rfl rfl ?_
    show Steps p.tables e below (s₁.setTop (mkF m 2 #[.val (.ref a0_), .val (.int p1)] [(.ref a0_), (.int p1)])) _
    refine X0.arraylength hx (by rw [e0]; exact Arr1.1) (State.isArrayOf_alike hZ.alike Arr1.2.1) (g := (mkF m 2 #[.val (.ref a0_), .val (.int p1)] [(.ref a0_), (.int p1)])) rfl rfl (hb hby own_d38_2) _ ?_
    rw [len_of Sr1 Mr1]
    show Steps p.tables e below (s₁.setTop (mkF m 3 #[.val (.ref a0_), .val (.int p1)] [(.int z_), (.int p1)])) _
    refine st2 _ ?_
    show Steps p.tables e below (T2.setTop (mkF m 6 #[.val (.ref a0_), .val (.int p1)] [])) _
    refine XS.aloadN X2.here hx rfl (hb hby own_d38_6) rfl rfl ?_
    show Steps p.tables e below (T2.setTop (mkF m 7 #[.val (.ref a0_), .val (.int p1)] [(.ref a0_)])) _
    refine XS.iloadN X2.here hx rfl (hb hby own_d38_7) rfl ?_
    show Steps p.tables e below (T2.setTop (mkF m 8 #[.val (.ref a0_), .val (.int p1)] [(.int p1), (.ref a0_)])) _
    refine X2.baloadBytes hx (j := p1) (v := (.int x0)) (by rw [e2]; exact Arr3.1) (State.isArrayOf_alike hZ.alike Arr3.2.1) Arr3.2.2 hinr3 hatr3 (g := (mkF m 8 #[.val (.ref a0_), .val (.int p1)] [(.int p1), (.ref a0_)])) rfl rfl (hb hby own_d38_8) _ ?_
    show Steps p.tables e below (T2.setTop (mkF m 9 #[.val (.ref a0_), .val (.int p1)] [(.int x0)])) _
    refine XS.sipush X2.here hx rfl (hb hby own_d38_9) ?_
    show Steps p.tables e below (T2.setTop (mkF m 12 #[.val (.ref a0_), .val (.int p1)] [(.int (255 : Int32)), (.int x0)])) _
    refine XS.iand X2.here hx rfl (hb hby own_d38_12) rfl ?_
    show Steps p.tables e below (T2.setTop (mkF m 13 #[.val (.ref a0_), .val (.int p1)] [(.int (x0 &&& (255 : Int32)))])) _
    refine XS.i2c X2.here hx rfl (hb hby own_d38_13) rfl ?_
    show Steps p.tables e below (T2.setTop (mkF m 14 #[.val (.ref a0_), .val (.int p1)] [(.int ((x0 &&& (255 : Int32)).toUInt32.toUInt16.toUInt32.toInt32))])) _
    exact q)
  obtain ⟨fs, hr, hrun, hended, hW, hsame⟩ := X2.leave (v := some (.int (nar .char ((x0 &&& (255 : Int32)).toUInt32.toUInt16.toUInt32.toInt32)))) (fun h => by rw [Bd.returns] at h; cases h)
  refine ⟨_, _, k0 _ (k4 _ ?_), hrun, hended, _, _, rfl, ?_, ⟨_, rfl⟩, hW, hsame.mono (by decide) (by decide)⟩
  · show Steps p.tables e below (T2.setTop (mkF m 14 #[.val (.ref a0_), .val (.int p1)] [(.int ((x0 &&& (255 : Int32)).toUInt32.toUInt16.toUInt32.toInt32))])) _
    exact retN X2 hx (t := .char) Bd.returns (by simp) (hb hby own_d38_14) hr
  · show Q38 Z a0_ p1 ks_ z_ vs_ fo h0 n0 _ T2.heap _
    rw [e2]
    exact ⟨by rw [own_ch, hx0]; rfl, N2, rfl⟩
theorem own_pd5 : parseMethodDescriptor "()Z" = some ⟨[], some .boolean⟩ := by decide +kernel
theorem own_pd30 : parseMethodDescriptor "([BI)C" = some ⟨[(.array .byte), .int], some .char⟩ := by decide +kernel
theorem own_d36_0 : decode jdk_42_method_56_code 0 = .ok (.aload_n 0, 1) := by decide +kernel
theorem own_d36_1 : decode jdk_42_method_56_code 1 = .ok (.invokevirtual 492, 3) := by decide +kernel
theorem own_d36_4 : decode jdk_42_method_56_code 4 = .ok (.ifCond .eq 12, 3) := by decide +kernel
theorem own_d36_7 : decode jdk_42_method_56_code 7 = .ok (.aload_n 0, 1) := by decide +kernel
theorem own_d36_8 : decode jdk_42_method_56_code 8 = .ok (.getfield 9, 3) := by decide +kernel
theorem own_d36_11 : decode jdk_42_method_56_code 11 = .ok (.iload_n 1, 1) := by decide +kernel
theorem own_d36_12 : decode jdk_42_method_56_code 12 = .ok (.invokestatic 495, 3) := by decide +kernel
theorem own_d36_15 : decode jdk_42_method_56_code 15 = .ok (.ireturn, 1) := by decide +kernel
theorem own_pn36 : plainName "java/lang/String" = true := by first | (simp [plainName, overriddenIn]; done) | decide +kernel
theorem own_ef36 (m : MethodId) (x0 : Addr) (x1 : Int32) : entryFrame m #[(.ref x0), (.int x1)] 2 = mkF m 0 #[.val (.ref x0), .val (.int x1)] [] := by first | (simp [entryFrame, mkF, argsToLocals, Value.category]; done) | rfl
def Q36 (Z : State) (a0_ : Addr) (p1 : Int32) (b0_ : Addr) (k0_ : ClassId) (z0 : Int32) (v0 : List Value) (cs : Int32) (fo : Value) (h0 : Heap) (n0 : Nat) (v : Option Value) (h : Heap) (L : List Loc) : Prop := v = some (.int (own_cA v0 p1)) ∧ Fr n0 L ∧ h = h0
set_option maxRecDepth 65536 in
set_option maxHeartbeats 40000000 in
theorem rm36 (l : Launch) (Z : State) (a0 : Array Value) (hw : ∀ d ∈ tables_1, d.before a0 Z = true) (ws : List Jvm.Cond) (a0_ : Addr) (p1 : Int32) (b0_ : Addr) (k0_ : ClassId) (z0 : Int32) (v0 : List Value) (cs : Int32) (fo : Value) (h0 : Heap) (n0 : Nat) (Z0 : n0 ≤ h0.size) (Es0 : Exa Z h0 a0_ "java/lang/String") (Fcs0 : Fld Z h0 a0_ "java/lang/String" "coder" "B" (.int (0 : Int32))) (Fvs0 : Fld Z h0 a0_ "java/lang/String" "value" "[B" (.ref b0_)) (Vs0 : Arv Z h0 b0_ k0_ .byte z0 v0 (.int (0 : Int32))) (hl0 : v0.length = z0.toNatClampNeg) (SC : Sta Z Z.heap "java/lang/String" "COMPACT_STRINGS" "Z" (.int cs)) (hcs : ¬ cs = (0 : Int32)) (O0 : Old Z n0 h0) (h1 : ¬ p1 < (0 : Int32)) (h2 : p1 < z0) (SF : Sta Z Z.heap "jdk/internal/util/Preconditions" "SIOOBE_FORMATTER" "Ljava/util/function/BiFunction;" fo) (hfo : fo = .null ∨ ∃ f, fo = .ref f) :
    MetFree l (⟨"java/lang/String", "charAt", "(I)C"⟩ : MethodName) (head1 (Jvm.Cond.code (⟨"java/lang/String", "charAt", "(I)C"⟩ : MethodName) jdk_42_method_56_code 2 (some .char) :: ws) ({ frames := 3, cells := 0, slots := 0, locals := 40 } : Room)) (fun a U => a = #[(.ref a0_), (.int p1)] ∧ Z.Warmed39 U.vm ∧ U.heap = h0) (fun _ _ _ _ _ => True) (fun _ U o U' => ∃ v L, o = .returned v ∧ Q36 Z a0_ p1 b0_ k0_ z0 v0 cs fo h0 n0 v U'.heap L ∧ FrameEnd U o U' L ({ frames := 3, cells := 0, slots := 0, locals := 40 } : Room).cells ({ frames := 3, cells := 0, slots := 0, locals := 40 } : Room).slots) := by
  refine MetFree.of_bodySF (plainFor_of_name own_pn36) hisR ?_
  intro p e s m args below meth c s₁ Bd hml0 hP hK
  obtain ⟨rfl, hZ, hh⟩ := hP
  have hx := Bd.exec
  have hby := Bd.bytes
  have hml : c.maxLocals = 2 := hml0
  have hown : s.vm.findClass "java/lang/String" = some m.cls := findClass_of_methodNamed Bd.named
  have hnm := (name_of_methodNamed Bd.named Bd.method).1
  have X0 : Stand p l e ({ frames := 3, cells := 0, slots := 0, locals := 40 } : Room) s m #[(.ref a0_), (.int p1)] below meth c s₁ [] 0 0 := Stand.of_body Bd
  have e0 : s₁.heap = h0 := by rw [← hh, Bd.state]; rfl
  have N0 := Fr.nil n0
  have k0 : own_To p e below s₁ (mkF m 0 #[.val (.ref a0_), .val (.int p1)] []) s₁ (entryFrame m #[(.ref a0_), (.int p1)] 2) := fun t k => castTop (own_ef36 m a0_ p1) k
  have ki : own_To p e below s₁ (mkF m 0 #[.val (.ref a0_), .val (.int p1)] []) s₁ (mkF m 0 #[.val (.ref a0_), .val (.int p1)] []) := fun t q => q
  obtain ⟨cq1, kq1, q1a, q1b, q1c⟩ := isOf hZ e0 Es0
  obtain ⟨_, _, ⟨T1, L1, kk1, n1⟩, -, X1, ⟨Lc1, hQ1, l1, y1, z1⟩, st1⟩ := X0.virtualBack hx (y := (⟨"java/lang/String", "isLatin1", "()Z"⟩ : MethodName)) (z := (⟨"java/lang/String", "isLatin1", "()Z"⟩ : MethodName)) hown (mvT hZ (hw _ (List.mem_of_getElem? (i := 186) rfl))) (mvT hZ (hw _ (List.mem_of_getElem? (i := 187) rfl))) (notFace_of_selects (args := #[]) (mvT hZ (hw _ (List.mem_of_getElem? (i := 189) rfl)))) (mvT hZ (hw _ (List.mem_of_getElem? (i := 189) rfl))) (mvT hZ (hw _ (List.mem_of_getElem? (i := 188) rfl))) (by decide) (backOf (W := 0) (rm37 l Z a0 hw [] a0_ b0_ k0_ z0 v0 cs h0 n0 Z0 Es0 Fcs0 Fvs0 Vs0 hl0 SC hcs O0) hZ (hw _ (List.mem_of_getElem? (i := 190) rfl)) (hw _ (List.mem_of_getElem? (i := 6) rfl)) (by decide) (by decide)) q1a q1c (g := (mkF m 1 #[.val (.ref a0_), .val (.int p1)] [(.ref a0_)])) rfl (by rw [hml]; rfl) (Steps.refl _) (argsL := []) (rest := []) (lenOf own_pd5 rfl) rfl (by show 2 * 0 + _ ≤ _; exact Nat.le_of_eq rfl) (hb hby own_d36_1) (fun _ _ => ⟨rfl, e0, (by decide : 0 + 0 ≤ _), (by decide : 0 + 0 ≤ _)⟩)
  dsimp only [Pt.U, Pt.locs, Pt.cells, Pt.slots] at X1 l1 y1 z1 st1 hQ1
  subst l1 y1 z1
  obtain ⟨rfl, N1q, e1⟩ := hQ1
  have N1 := Fr.app N0 N1q
  obtain ⟨T2, X2, e2, st2⟩ := getF X1 hx hZ hown (host := "") (Or.inl (hw _ (List.mem_of_getElem? (i := 24) rfl))) Via.refl e1 Fvs0 (g := (mkF m 8 #[.val (.ref a0_), .val (.int p1)] [(.ref a0_)])) rfl rfl (hb hby own_d36_8)
  obtain ⟨_, _, ⟨T3, L3, kk3, n3⟩, -, X3, ⟨Lc3, hQ3, l3, y3, z3⟩, st3⟩ := Jvm.LawKit.callS X2 hx (y := (⟨"java/lang/StringLatin1", "charAt", "([BI)C"⟩ : MethodName)) hown (mvT hZ (hw _ (List.mem_of_getElem? (i := 191) rfl))) (mvT hZ (hw _ (List.mem_of_getElem? (i := 192) rfl))) (mvT hZ (hw _ (List.mem_of_getElem? (i := 193) rfl))) (mvT hZ (hw _ (List.mem_of_getElem? (i := 194) rfl))) (by decide) (backOf (W := 0) (rm38 l Z a0 hw [] b0_ p1 k0_ z0 v0 fo h0 n0 Z0 Vs0 h1 h2 O0 SF hfo) hZ (hw _ (List.mem_of_getElem? (i := 194) rfl)) (hw _ (List.mem_of_getElem? (i := 193) rfl)) (by decide) (by decide)) (g := (mkF m 12 #[.val (.ref a0_), .val (.int p1)] [(.int p1), (.ref b0_)])) rfl (by rw [hml]; rfl) (argsL := [(.ref b0_), (.int p1)]) (rest := []) (lenOf own_pd30 rfl) rfl (by show 2 * 0 + _ ≤ _; exact Nat.le_of_eq rfl) (hb hby own_d36_12) (fun _ _ => ⟨rfl, e2, (by decide : 0 + 0 ≤ _), (by decide : 0 + 0 ≤ _)⟩)
  dsimp only [Pt.U, Pt.locs, Pt.cells, Pt.slots] at X3 l3 y3 z3 st3 hQ3
  subst l3 y3 z3
  obtain ⟨rfl, N3q, e3⟩ := hQ3
  have N3 := Fr.app N1 N3q
  have k4 : own_To p e below T3 (mkF m 15 #[.val (.ref a0_), .val (.int p1)] [(.int (own_ch v0 p1))]) s₁ (mkF m 0 #[.val (.ref a0_), .val (.int p1)] []) := fun t q => ki t (by
    refine XS.aloadN X0.here hx rfl (hb hby own_d36_0) rfl rfl ?_
    show Steps p.tables e below (s₁.setTop (mkF m 1 #[.val (.ref a0_), .val (.int p1)] [(.ref a0_)])) _
    refine st1.trans ?_
    show Steps p.tables e below (T1.setTop (mkF m 4 #[.val (.ref a0_), .val (.int p1)] [(.int (1 : Int32))])) _
    refine XS.ifNo X1.here hx rfl (hb hby own_d36_4) rfl ((if0 _ _).trans (feq (by decide)).1) ?_
    show Steps p.tables e below (T1.setTop (mkF m 7 #[.val (.ref a0_), .val (.int p1)] [])) _
    refine XS.aloadN X1.here hx rfl (hb hby own_d36_7) rfl rfl ?_
    show Steps p.tables e below (T1.setTop (mkF m 8 #[.val (.ref a0_), .val (.int p1)] [(.ref a0_)])) _
    refine st2 _ ?_
    show Steps p.tables e below (T2.setTop (mkF m 11 #[.val (.ref a0_), .val (.int p1)] [(.ref b0_)])) _
    refine XS.iloadN X2.here hx rfl (hb hby own_d36_11) rfl ?_
    show Steps p.tables e below (T2.setTop (mkF m 12 #[.val (.ref a0_), .val (.int p1)] [(.int p1), (.ref b0_)])) _
    refine st3 _ ?_
    show Steps p.tables e below (T3.setTop (mkF m 15 #[.val (.ref a0_), .val (.int p1)] [(.int (own_ch v0 p1))])) _
    exact q)
  obtain ⟨fs, hr, hrun, hended, hW, hsame⟩ := X3.leave (v := some (.int (nar .char (own_ch v0 p1)))) (fun h => by rw [Bd.returns] at h; cases h)
  refine ⟨_, _, k0 _ (k4 _ ?_), hrun, hended, _, _, rfl, ?_, ⟨_, rfl⟩, hW, hsame.mono (by decide) (by decide)⟩
  · show Steps p.tables e below (T3.setTop (mkF m 15 #[.val (.ref a0_), .val (.int p1)] [(.int (own_ch v0 p1))])) _
    exact retN X3 hx (t := .char) Bd.returns (by simp) (hb hby own_d36_15) hr
  · show Q36 Z a0_ p1 b0_ k0_ z0 v0 cs fo h0 n0 _ T3.heap _
    rw [e3]
    exact ⟨rfl, N3, rfl⟩
theorem own_nlt {a b z : Int32} (h : ¬ a < z) (q : ¬ b < a) : ¬ b < z := by rw [Int32.lt_iff_toInt_lt] at *; omega
theorem own_ix {p i z2 z0 : Int32} (hp : 0 ≤ p.toInt) (hb : p.toInt + z2.toInt ≤ z0.toInt) (hi : i < z2) (i0 : 0 ≤ i.toInt) : (¬ (p + i) < 0) ∧ (p + i) < z0 ∧ (p + i).toNatClampNeg = p.toNatClampNeg + i.toNatClampNeg := by
  rw [Int32.lt_iff_toInt_lt] at hi
  have r := rng32 z0
  have q := own_add p i (by omega)
  refine ⟨own_nn (by omega), by rw [Int32.lt_iff_toInt_lt]; omega, ?_⟩
  have := own_tn (z := p + i) (by omega)
  have := own_tn hp
  have := own_tn i0
  omega
theorem own_ixs {p i : Int32} {z2 z0 : Int32} {v0 v2 : List Value} (hp : 0 ≤ p.toInt) (hb : p.toInt + z2.toInt ≤ z0.toInt) (hi : i < z2) (i0 : 0 ≤ i.toInt) (hm : ∀ j : Nat, j < z2.toNatClampNeg → v0.getD (p.toNatClampNeg + j) (.int (0 : Int32)) = v2.getD j (.int (0 : Int32))) : own_cA v0 (p + i) = own_cA v2 i := by
  have h := (own_ix hp hb hi i0).2.2
  rw [Int32.lt_iff_toInt_lt] at hi
  unfold own_cA own_ch
  rw [h, hm _ (by simp only [Int32.toNatClampNeg]; omega)]
theorem own_ix0 {p z2 z0 : Int32} (hp : 0 ≤ p.toInt) (hb : p.toInt + z2.toInt ≤ z0.toInt) (hi : (0 : Int32) < z2) : (¬ p < 0) ∧ p < z0 := by
  rw [Int32.lt_iff_toInt_lt] at hi
  have : (0 : Int32).toInt = 0 := rfl
  exact ⟨own_nn hp, by rw [Int32.lt_iff_toInt_lt]; omega⟩
theorem own_ix0s {p : Int32} {z2 : Int32} {v0 v2 : List Value} (hi : (0 : Int32) < z2) (hm : ∀ j : Nat, j < z2.toNatClampNeg → v0.getD (p.toNatClampNeg + j) (.int (0 : Int32)) = v2.getD j (.int (0 : Int32))) : own_cA v0 p = own_cA v2 0 := by
  have h := hm 0 (by rw [Int32.lt_iff_toInt_lt] at hi; have : (0 : Int32).toInt = 0 := rfl; simp only [Int32.toNatClampNeg]; omega)
  unfold own_cA own_ch
  rw [show (0 : Int32).toNatClampNeg = 0 from rfl, ← h, Nat.add_zero]
theorem own_pd1 : parseMethodDescriptor "()I" = some ⟨[], some .int⟩ := by decide +kernel
theorem own_pd10 : parseMethodDescriptor "(I)C" = some ⟨[.int], some .char⟩ := by decide +kernel
theorem own_d35_0 : decode method_4_code 0 = .ok (.aload_n 2, 1) := by decide +kernel
theorem own_d35_1 : decode method_4_code 1 = .ok (.invokevirtual 19, 3) := by decide +kernel
theorem own_d35_4 : decode method_4_code 4 = .ok (.istore_n 3, 1) := by decide +kernel
theorem own_d35_5 : decode method_4_code 5 = .ok (.iload_n 3, 1) := by decide +kernel
theorem own_d35_6 : decode method_4_code 6 = .ok (.ifCond .le 18, 3) := by decide +kernel
theorem own_d35_9 : decode method_4_code 9 = .ok (.aload_n 0, 1) := by decide +kernel
theorem own_d35_10 : decode method_4_code 10 = .ok (.iload_n 1, 1) := by decide +kernel
theorem own_d35_11 : decode method_4_code 11 = .ok (.invokevirtual 42, 3) := by decide +kernel
theorem own_d35_14 : decode method_4_code 14 = .ok (.aload_n 2, 1) := by decide +kernel
theorem own_d35_15 : decode method_4_code 15 = .ok (.iconst 0, 1) := by decide +kernel
theorem own_d35_16 : decode method_4_code 16 = .ok (.invokevirtual 42, 3) := by decide +kernel
theorem own_d35_19 : decode method_4_code 19 = .ok (.if_icmp .eq 5, 3) := by decide +kernel
theorem own_d35_24 : decode method_4_code 24 = .ok (.iload_n 3, 1) := by decide +kernel
theorem own_d35_25 : decode method_4_code 25 = .ok (.iconst 1, 1) := by decide +kernel
theorem own_d35_26 : decode method_4_code 26 = .ok (.if_icmp .le 20, 3) := by decide +kernel
theorem own_d35_29 : decode method_4_code 29 = .ok (.aload_n 0, 1) := by decide +kernel
theorem own_d35_30 : decode method_4_code 30 = .ok (.iload_n 1, 1) := by decide +kernel
theorem own_d35_31 : decode method_4_code 31 = .ok (.iconst 1, 1) := by decide +kernel
theorem own_d35_32 : decode method_4_code 32 = .ok (.iadd, 1) := by decide +kernel
theorem own_d35_33 : decode method_4_code 33 = .ok (.invokevirtual 42, 3) := by decide +kernel
theorem own_d35_36 : decode method_4_code 36 = .ok (.aload_n 2, 1) := by decide +kernel
theorem own_d35_37 : decode method_4_code 37 = .ok (.iconst 1, 1) := by decide +kernel
theorem own_d35_38 : decode method_4_code 38 = .ok (.invokevirtual 42, 3) := by decide +kernel
theorem own_d35_41 : decode method_4_code 41 = .ok (.if_icmp .eq 5, 3) := by decide +kernel
theorem own_d35_46 : decode method_4_code 46 = .ok (.iload_n 3, 1) := by decide +kernel
theorem own_d35_47 : decode method_4_code 47 = .ok (.iconst 2, 1) := by decide +kernel
theorem own_d35_48 : decode method_4_code 48 = .ok (.if_icmp .le 20, 3) := by decide +kernel
theorem own_d35_51 : decode method_4_code 51 = .ok (.aload_n 0, 1) := by decide +kernel
theorem own_d35_52 : decode method_4_code 52 = .ok (.iload_n 1, 1) := by decide +kernel
theorem own_d35_53 : decode method_4_code 53 = .ok (.iconst 2, 1) := by decide +kernel
theorem own_d35_54 : decode method_4_code 54 = .ok (.iadd, 1) := by decide +kernel
theorem own_d35_55 : decode method_4_code 55 = .ok (.invokevirtual 42, 3) := by decide +kernel
theorem own_d35_58 : decode method_4_code 58 = .ok (.aload_n 2, 1) := by decide +kernel
theorem own_d35_59 : decode method_4_code 59 = .ok (.iconst 2, 1) := by decide +kernel
theorem own_d35_60 : decode method_4_code 60 = .ok (.invokevirtual 42, 3) := by decide +kernel
theorem own_d35_63 : decode method_4_code 63 = .ok (.if_icmp .eq 5, 3) := by decide +kernel
theorem own_d35_68 : decode method_4_code 68 = .ok (.iload_n 3, 1) := by decide +kernel
theorem own_d35_69 : decode method_4_code 69 = .ok (.iconst 3, 1) := by decide +kernel
theorem own_d35_70 : decode method_4_code 70 = .ok (.if_icmp .le 20, 3) := by decide +kernel
theorem own_d35_73 : decode method_4_code 73 = .ok (.aload_n 0, 1) := by decide +kernel
theorem own_d35_74 : decode method_4_code 74 = .ok (.iload_n 1, 1) := by decide +kernel
theorem own_d35_75 : decode method_4_code 75 = .ok (.iconst 3, 1) := by decide +kernel
theorem own_d35_76 : decode method_4_code 76 = .ok (.iadd, 1) := by decide +kernel
theorem own_d35_77 : decode method_4_code 77 = .ok (.invokevirtual 42, 3) := by decide +kernel
theorem own_d35_80 : decode method_4_code 80 = .ok (.aload_n 2, 1) := by decide +kernel
theorem own_d35_81 : decode method_4_code 81 = .ok (.iconst 3, 1) := by decide +kernel
theorem own_d35_82 : decode method_4_code 82 = .ok (.invokevirtual 42, 3) := by decide +kernel
theorem own_d35_85 : decode method_4_code 85 = .ok (.if_icmp .eq 5, 3) := by decide +kernel
theorem own_d35_90 : decode method_4_code 90 = .ok (.iload_n 3, 1) := by decide +kernel
theorem own_d35_91 : decode method_4_code 91 = .ok (.iconst 4, 1) := by decide +kernel
theorem own_d35_92 : decode method_4_code 92 = .ok (.if_icmp .le 20, 3) := by decide +kernel
theorem own_d35_95 : decode method_4_code 95 = .ok (.aload_n 0, 1) := by decide +kernel
theorem own_d35_96 : decode method_4_code 96 = .ok (.iload_n 1, 1) := by decide +kernel
theorem own_d35_97 : decode method_4_code 97 = .ok (.iconst 4, 1) := by decide +kernel
theorem own_d35_98 : decode method_4_code 98 = .ok (.iadd, 1) := by decide +kernel
theorem own_d35_99 : decode method_4_code 99 = .ok (.invokevirtual 42, 3) := by decide +kernel
theorem own_d35_102 : decode method_4_code 102 = .ok (.aload_n 2, 1) := by decide +kernel
theorem own_d35_103 : decode method_4_code 103 = .ok (.iconst 4, 1) := by decide +kernel
theorem own_d35_104 : decode method_4_code 104 = .ok (.invokevirtual 42, 3) := by decide +kernel
theorem own_d35_107 : decode method_4_code 107 = .ok (.if_icmp .eq 5, 3) := by decide +kernel
theorem own_d35_112 : decode method_4_code 112 = .ok (.iload_n 3, 1) := by decide +kernel
theorem own_d35_113 : decode method_4_code 113 = .ok (.iconst 5, 1) := by decide +kernel
theorem own_d35_114 : decode method_4_code 114 = .ok (.if_icmp .le 20, 3) := by decide +kernel
theorem own_d35_117 : decode method_4_code 117 = .ok (.aload_n 0, 1) := by decide +kernel
theorem own_d35_118 : decode method_4_code 118 = .ok (.iload_n 1, 1) := by decide +kernel
theorem own_d35_119 : decode method_4_code 119 = .ok (.iconst 5, 1) := by decide +kernel
theorem own_d35_120 : decode method_4_code 120 = .ok (.iadd, 1) := by decide +kernel
theorem own_d35_121 : decode method_4_code 121 = .ok (.invokevirtual 42, 3) := by decide +kernel
theorem own_d35_124 : decode method_4_code 124 = .ok (.aload_n 2, 1) := by decide +kernel
theorem own_d35_125 : decode method_4_code 125 = .ok (.iconst 5, 1) := by decide +kernel
theorem own_d35_126 : decode method_4_code 126 = .ok (.invokevirtual 42, 3) := by decide +kernel
theorem own_d35_129 : decode method_4_code 129 = .ok (.if_icmp .eq 5, 3) := by decide +kernel
theorem own_d35_134 : decode method_4_code 134 = .ok (.iconst 1, 1) := by decide +kernel
theorem own_d35_135 : decode method_4_code 135 = .ok (.ireturn, 1) := by decide +kernel
theorem own_pn35 : plainName "com/example/issuer/issuer/identity/CallerRoleArnPinLaw" = true := by first | (simp [plainName, overriddenIn]; done) | decide +kernel
theorem own_ef35 (m : MethodId) (x0 : Addr) (x1 : Int32) (x2 : Addr) : entryFrame m #[(.ref x0), (.int x1), (.ref x2)] 4 = mkF m 0 #[.val (.ref x0), .val (.int x1), .val (.ref x2), .unset] [] := by first | (simp [entryFrame, mkF, argsToLocals, Value.category]; done) | rfl
def Q35 (Z : State) (a0_ : Addr) (p1 : Int32) (a2 : Addr) (b0_ : Addr) (k0_ : ClassId) (z0 : Int32) (v0 : List Value) (b2_ : Addr) (k2_ : ClassId) (z2 : Int32) (v2 : List Value) (cs : Int32) (fo : Value) (h0 : Heap) (n0 : Nat) (v : Option Value) (h : Heap) (L : List Loc) : Prop := v = some (.int (1 : Int32)) ∧ Fr n0 L ∧ h = h0
set_option maxRecDepth 65536 in
set_option maxHeartbeats 40000000 in
theorem rm35 (l : Launch) (Z : State) (a0 : Array Value) (hw : ∀ d ∈ tables_1, d.before a0 Z = true) (ws : List Jvm.Cond) (a0_ : Addr) (p1 : Int32) (a2 : Addr) (b0_ : Addr) (k0_ : ClassId) (z0 : Int32) (v0 : List Value) (b2_ : Addr) (k2_ : ClassId) (z2 : Int32) (v2 : List Value) (cs : Int32) (fo : Value) (h0 : Heap) (n0 : Nat) (Z0 : n0 ≤ h0.size) (Es0 : Exa Z h0 a0_ "java/lang/String") (Fcs0 : Fld Z h0 a0_ "java/lang/String" "coder" "B" (.int (0 : Int32))) (Fvs0 : Fld Z h0 a0_ "java/lang/String" "value" "[B" (.ref b0_)) (Vs0 : Arv Z h0 b0_ k0_ .byte z0 v0 (.int (0 : Int32))) (hl0 : v0.length = z0.toNatClampNeg) (Es2 : Exa Z h0 a2 "java/lang/String") (Fcs2 : Fld Z h0 a2 "java/lang/String" "coder" "B" (.int (0 : Int32))) (Fvs2 : Fld Z h0 a2 "java/lang/String" "value" "[B" (.ref b2_)) (Vs2 : Arv Z h0 b2_ k2_ .byte z2 v2 (.int (0 : Int32))) (hl2 : v2.length = z2.toNatClampNeg) (SC : Sta Z Z.heap "java/lang/String" "COMPACT_STRINGS" "Z" (.int cs)) (hcs : ¬ cs = (0 : Int32)) (O0 : Old Z n0 h0) (SF : Sta Z Z.heap "jdk/internal/util/Preconditions" "SIOOBE_FORMATTER" "Ljava/util/function/BiFunction;" fo) (hfo : fo = .null ∨ ∃ f, fo = .ref f) (hp : 0 ≤ p1.toInt) (hbq : p1.toInt + z2.toInt ≤ z0.toInt) (hm : ∀ j : Nat, j < z2.toNatClampNeg → v0.getD (p1.toNatClampNeg + j) (.int (0 : Int32)) = v2.getD j (.int (0 : Int32))) :
    MetFree l (⟨"com/example/issuer/issuer/identity/CallerRoleArnPinLaw", "lit", "(Ljava/lang/String;ILjava/lang/String;)Z"⟩ : MethodName) (head1 (Jvm.Cond.code (⟨"com/example/issuer/issuer/identity/CallerRoleArnPinLaw", "lit", "(Ljava/lang/String;ILjava/lang/String;)Z"⟩ : MethodName) method_4_code 4 (some .boolean) :: ws) ({ frames := 4, cells := 0, slots := 0, locals := 54 } : Room)) (fun a U => a = #[(.ref a0_), (.int p1), (.ref a2)] ∧ Z.Warmed39 U.vm ∧ U.heap = h0) (fun _ _ _ _ _ => True) (fun _ U o U' => ∃ v L, o = .returned v ∧ Q35 Z a0_ p1 a2 b0_ k0_ z0 v0 b2_ k2_ z2 v2 cs fo h0 n0 v U'.heap L ∧ FrameEnd U o U' L ({ frames := 4, cells := 0, slots := 0, locals := 54 } : Room).cells ({ frames := 4, cells := 0, slots := 0, locals := 54 } : Room).slots) := by
  refine MetFree.of_bodySF (plainFor_of_name own_pn35) hisR ?_
  intro p e s m args below meth c s₁ Bd hml0 hP hK
  obtain ⟨rfl, hZ, hh⟩ := hP
  have hx := Bd.exec
  have hby := Bd.bytes
  have hml : c.maxLocals = 4 := hml0
  have hown : s.vm.findClass "com/example/issuer/issuer/identity/CallerRoleArnPinLaw" = some m.cls := findClass_of_methodNamed Bd.named
  have hnm := (name_of_methodNamed Bd.named Bd.method).1
  have X0 : Stand p l e ({ frames := 4, cells := 0, slots := 0, locals := 54 } : Room) s m #[(.ref a0_), (.int p1), (.ref a2)] below meth c s₁ [] 0 0 := Stand.of_body Bd
  have e0 : s₁.heap = h0 := by rw [← hh, Bd.state]; rfl
  have N0 := Fr.nil n0
  have k0 : own_To p e below s₁ (mkF m 0 #[.val (.ref a0_), .val (.int p1), .val (.ref a2), .unset] []) s₁ (entryFrame m #[(.ref a0_), (.int p1), (.ref a2)] 4) := fun t k => castTop (own_ef35 m a0_ p1 a2) k
  have ki : own_To p e below s₁ (mkF m 0 #[.val (.ref a0_), .val (.int p1), .val (.ref a2), .unset] []) s₁ (mkF m 0 #[.val (.ref a0_), .val (.int p1), .val (.ref a2), .unset] []) := fun t q => q
  obtain ⟨cq1, kq1, q1a, q1b, q1c⟩ := isOf hZ e0 Es2
  obtain ⟨_, _, ⟨T1, L1, kk1, n1⟩, -, X1, ⟨Lc1, hQ1, l1, y1, z1⟩, st1⟩ := X0.virtualBack hx (y := (⟨"java/lang/String", "length", "()I"⟩ : MethodName)) (z := (⟨"java/lang/String", "length", "()I"⟩ : MethodName)) hown (mvT hZ (hw _ (List.mem_of_getElem? (i := 176) rfl))) (mvT hZ (hw _ (List.mem_of_getElem? (i := 72) rfl))) (notFace_of_selects (args := #[]) (mvT hZ (hw _ (List.mem_of_getElem? (i := 74) rfl)))) (mvT hZ (hw _ (List.mem_of_getElem? (i := 74) rfl))) (mvT hZ (hw _ (List.mem_of_getElem? (i := 73) rfl))) (by decide) (backOf (W := 0) (rm13 l Z a0 hw [] a2 b2_ k2_ z2 v2 cs h0 n0 Z0 Es2 Fcs2 Fvs2 Vs2 hl2 SC hcs O0) hZ (hw _ (List.mem_of_getElem? (i := 75) rfl)) (hw _ (List.mem_of_getElem? (i := 6) rfl)) (by decide) (by decide)) q1a q1c (g := (mkF m 1 #[.val (.ref a0_), .val (.int p1), .val (.ref a2), .unset] [(.ref a2)])) rfl (by rw [hml]; rfl) (Steps.refl _) (argsL := []) (rest := []) (lenOf own_pd1 rfl) rfl (by show 2 * 0 + _ ≤ _; exact Nat.le_of_eq rfl) (hb hby own_d35_1) (fun _ _ => ⟨rfl, e0, (by decide : 0 + 0 ≤ _), (by decide : 0 + 0 ≤ _)⟩)
  dsimp only [Pt.U, Pt.locs, Pt.cells, Pt.slots] at X1 l1 y1 z1 st1 hQ1
  subst l1 y1 z1
  obtain ⟨rfl, N1q, e1⟩ := hQ1
  have N1 := Fr.app N0 N1q
  have k2 : own_To p e below T1 (mkF m 6 #[.val (.ref a0_), .val (.int p1), .val (.ref a2), .val (.int z2)] [(.int z2)]) s₁ (mkF m 0 #[.val (.ref a0_), .val (.int p1), .val (.ref a2), .unset] []) := fun t q => ki t (by
    refine XS.aloadN X0.here hx rfl (hb hby own_d35_0) rfl rfl ?_
    show Steps p.tables e below (s₁.setTop (mkF m 1 #[.val (.ref a0_), .val (.int p1), .val (.ref a2), .unset] [(.ref a2)])) _
    refine st1.trans ?_
    show Steps p.tables e below (T1.setTop (mkF m 4 #[.val (.ref a0_), .val (.int p1), .val (.ref a2), .unset] [(.int z2)])) _
    refine XS.istoreN X1.here hx rfl (hb hby own_d35_4) rfl (l' := #[.val (.ref a0_), .val (.int p1), .val (.ref a2), .val (.int z2)]) rfl ?_
    show Steps p.tables e below (T1.setTop (mkF m 5 #[.val (.ref a0_), .val (.int p1), .val (.ref a2), .val (.int z2)] [])) _
    refine XS.iloadN X1.here hx rfl (hb hby own_d35_5) rfl ?_
    show Steps p.tables e below (T1.setTop (mkF m 6 #[.val (.ref a0_), .val (.int p1), .val (.ref a2), .val (.int z2)] [(.int z2)])) _
    exact q)
  by_cases hk0 : (0 : Int32) < z2
  ·
    have hb0 := own_ix0 hp hbq hk0
    obtain ⟨cq3, kq3, q3a, q3b, q3c⟩ := isOf hZ e1 Es0
    obtain ⟨_, _, ⟨T3, L3, kk3, n3⟩, -, X3, ⟨Lc3, hQ3, l3, y3, z3⟩, st3⟩ := X1.virtualBack hx (y := (⟨"java/lang/String", "charAt", "(I)C"⟩ : MethodName)) (z := (⟨"java/lang/String", "charAt", "(I)C"⟩ : MethodName)) hown (mvT hZ (hw _ (List.mem_of_getElem? (i := 181) rfl))) (mvT hZ (hw _ (List.mem_of_getElem? (i := 182) rfl))) (notFace_of_selects (args := #[]) (mvT hZ (hw _ (List.mem_of_getElem? (i := 184) rfl)))) (mvT hZ (hw _ (List.mem_of_getElem? (i := 184) rfl))) (mvT hZ (hw _ (List.mem_of_getElem? (i := 183) rfl))) (by decide) (backOf (W := 0) (rm36 l Z a0 hw [] a0_ p1 b0_ k0_ z0 v0 cs fo h0 n0 Z0 Es0 Fcs0 Fvs0 Vs0 hl0 SC hcs O0 hb0.1 hb0.2 SF hfo) hZ (hw _ (List.mem_of_getElem? (i := 185) rfl)) (hw _ (List.mem_of_getElem? (i := 6) rfl)) (by decide) (by decide)) q3a q3c (g := (mkF m 11 #[.val (.ref a0_), .val (.int p1), .val (.ref a2), .val (.int z2)] [(.int p1), (.ref a0_)])) rfl (by rw [hml]; rfl) (Steps.refl _) (argsL := [(.int p1)]) (rest := []) (lenOf own_pd10 rfl) rfl (by show 2 * 0 + _ ≤ _; exact Nat.le_of_eq rfl) (hb hby own_d35_11) (fun _ _ => ⟨rfl, e1, (by decide : 0 + 0 ≤ _), (by decide : 0 + 0 ≤ _)⟩)
    dsimp only [Pt.U, Pt.locs, Pt.cells, Pt.slots] at X3 l3 y3 z3 st3 hQ3
    subst l3 y3 z3
    obtain ⟨rfl, N3q, e3⟩ := hQ3
    have N3 := Fr.app N1 N3q
    obtain ⟨cq4, kq4, q4a, q4b, q4c⟩ := isOf hZ e3 Es2
    obtain ⟨_, _, ⟨T4, L4, kk4, n4⟩, -, X4, ⟨Lc4, hQ4, l4, y4, z4⟩, st4⟩ := X3.virtualBack hx (y := (⟨"java/lang/String", "charAt", "(I)C"⟩ : MethodName)) (z := (⟨"java/lang/String", "charAt", "(I)C"⟩ : MethodName)) hown (mvT hZ (hw _ (List.mem_of_getElem? (i := 181) rfl))) (mvT hZ (hw _ (List.mem_of_getElem? (i := 182) rfl))) (notFace_of_selects (args := #[]) (mvT hZ (hw _ (List.mem_of_getElem? (i := 184) rfl)))) (mvT hZ (hw _ (List.mem_of_getElem? (i := 184) rfl))) (mvT hZ (hw _ (List.mem_of_getElem? (i := 183) rfl))) (by decide) (backOf (W := 1) (rm36 l Z a0 hw [] a2 (0 : Int32) b2_ k2_ z2 v2 cs fo h0 n0 Z0 Es2 Fcs2 Fvs2 Vs2 hl2 SC hcs O0 (by decide) hk0 SF hfo) hZ (hw _ (List.mem_of_getElem? (i := 185) rfl)) (hw _ (List.mem_of_getElem? (i := 6) rfl)) (by decide) (by decide)) q4a q4c (g := (mkF m 16 #[.val (.ref a0_), .val (.int p1), .val (.ref a2), .val (.int z2)] [(.int (0 : Int32)), (.ref a2), (.int (own_cA v0 p1))])) rfl (by rw [hml]; rfl) (Steps.refl _) (argsL := [(.int (0 : Int32))]) (rest := [(.int (own_cA v0 p1))]) (lenOf own_pd10 rfl) rfl (by show 2 * 0 + _ ≤ _; exact Nat.le_of_eq rfl) (hb hby own_d35_16) (fun _ _ => ⟨rfl, e3, (by decide : 0 + 0 ≤ _), (by decide : 0 + 0 ≤ _)⟩)
    dsimp only [Pt.U, Pt.locs, Pt.cells, Pt.slots] at X4 l4 y4 z4 st4 hQ4
    subst l4 y4 z4
    obtain ⟨rfl, N4q, e4⟩ := hQ4
    have N4 := Fr.app N3 N4q
    have k5 : own_To p e below T4 (mkF m 26 #[.val (.ref a0_), .val (.int p1), .val (.ref a2), .val (.int z2)] [(.int (1 : Int32)), (.int z2)]) s₁ (mkF m 0 #[.val (.ref a0_), .val (.int p1), .val (.ref a2), .unset] []) := fun t q => k2 t (by
      refine XS.ifNo X1.here hx rfl (hb hby own_d35_6) rfl ((if0 _ _).trans (tlt hk0).2.2.2) ?_
      show Steps p.tables e below (T1.setTop (mkF m 9 #[.val (.ref a0_), .val (.int p1), .val (.ref a2), .val (.int z2)] [])) _
      refine XS.aloadN X1.here hx rfl (hb hby own_d35_9) rfl rfl ?_
      show Steps p.tables e below (T1.setTop (mkF m 10 #[.val (.ref a0_), .val (.int p1), .val (.ref a2), .val (.int z2)] [(.ref a0_)])) _
      refine XS.iloadN X1.here hx rfl (hb hby own_d35_10) rfl ?_
      show Steps p.tables e below (T1.setTop (mkF m 11 #[.val (.ref a0_), .val (.int p1), .val (.ref a2), .val (.int z2)] [(.int p1), (.ref a0_)])) _
      refine st3.trans ?_
      show Steps p.tables e below (T3.setTop (mkF m 14 #[.val (.ref a0_), .val (.int p1), .val (.ref a2), .val (.int z2)] [(.int (own_cA v0 p1))])) _
      refine XS.aloadN X3.here hx rfl (hb hby own_d35_14) rfl rfl ?_
      show Steps p.tables e below (T3.setTop (mkF m 15 #[.val (.ref a0_), .val (.int p1), .val (.ref a2), .val (.int z2)] [(.ref a2), (.int (own_cA v0 p1))])) _
      refine XS.iconst X3.here hx rfl (hb hby own_d35_15) ?_
      show Steps p.tables e below (T3.setTop (mkF m 16 #[.val (.ref a0_), .val (.int p1), .val (.ref a2), .val (.int z2)] [(.int (0 : Int32)), (.ref a2), (.int (own_cA v0 p1))])) _
      refine st4.trans ?_
      show Steps p.tables e below (T4.setTop (mkF m 19 #[.val (.ref a0_), .val (.int p1), .val (.ref a2), .val (.int z2)] [(.int (own_cA v2 (0 : Int32))), (.int (own_cA v0 p1))])) _
      refine XS.icmpYes X4.here hx rfl (pc0 := 19) (pc' := 24) rfl (hb hby own_d35_19) rfl (teq (own_ix0s hk0 hm)).1 (by decide) (by decide) ?_
      show Steps p.tables e below (T4.setTop (mkF m 24 #[.val (.ref a0_), .val (.int p1), .val (.ref a2), .val (.int z2)] [])) _
      refine XS.iloadN X4.here hx rfl (hb hby own_d35_24) rfl ?_
      show Steps p.tables e below (T4.setTop (mkF m 25 #[.val (.ref a0_), .val (.int p1), .val (.ref a2), .val (.int z2)] [(.int z2)])) _
      refine XS.iconst X4.here hx rfl (hb hby own_d35_25) ?_
      show Steps p.tables e below (T4.setTop (mkF m 26 #[.val (.ref a0_), .val (.int p1), .val (.ref a2), .val (.int z2)] [(.int (1 : Int32)), (.int z2)])) _
      exact q)
    by_cases hk1 : (1 : Int32) < z2
    ·
      have hb1 := own_ix hp hbq hk1 (by decide)
      obtain ⟨cq6, kq6, q6a, q6b, q6c⟩ := isOf hZ e4 Es0
      obtain ⟨_, _, ⟨T6, L6, kk6, n6⟩, -, X6, ⟨Lc6, hQ6, l6, y6, z6⟩, st6⟩ := X4.virtualBack hx (y := (⟨"java/lang/String", "charAt", "(I)C"⟩ : MethodName)) (z := (⟨"java/lang/String", "charAt", "(I)C"⟩ : MethodName)) hown (mvT hZ (hw _ (List.mem_of_getElem? (i := 181) rfl))) (mvT hZ (hw _ (List.mem_of_getElem? (i := 182) rfl))) (notFace_of_selects (args := #[]) (mvT hZ (hw _ (List.mem_of_getElem? (i := 184) rfl)))) (mvT hZ (hw _ (List.mem_of_getElem? (i := 184) rfl))) (mvT hZ (hw _ (List.mem_of_getElem? (i := 183) rfl))) (by decide) (backOf (W := 0) (rm36 l Z a0 hw [] a0_ (p1 + (1 : Int32)) b0_ k0_ z0 v0 cs fo h0 n0 Z0 Es0 Fcs0 Fvs0 Vs0 hl0 SC hcs O0 hb1.1 hb1.2.1 SF hfo) hZ (hw _ (List.mem_of_getElem? (i := 185) rfl)) (hw _ (List.mem_of_getElem? (i := 6) rfl)) (by decide) (by decide)) q6a q6c (g := (mkF m 33 #[.val (.ref a0_), .val (.int p1), .val (.ref a2), .val (.int z2)] [(.int (p1 + (1 : Int32))), (.ref a0_)])) rfl (by rw [hml]; rfl) (Steps.refl _) (argsL := [(.int (p1 + (1 : Int32)))]) (rest := []) (lenOf own_pd10 rfl) rfl (by show 2 * 0 + _ ≤ _; exact Nat.le_of_eq rfl) (hb hby own_d35_33) (fun _ _ => ⟨rfl, e4, (by decide : 0 + 0 ≤ _), (by decide : 0 + 0 ≤ _)⟩)
      dsimp only [Pt.U, Pt.locs, Pt.cells, Pt.slots] at X6 l6 y6 z6 st6 hQ6
      subst l6 y6 z6
      obtain ⟨rfl, N6q, e6⟩ := hQ6
      have N6 := Fr.app N4 N6q
      obtain ⟨cq7, kq7, q7a, q7b, q7c⟩ := isOf hZ e6 Es2
      obtain ⟨_, _, ⟨T7, L7, kk7, n7⟩, -, X7, ⟨Lc7, hQ7, l7, y7, z7⟩, st7⟩ := X6.virtualBack hx (y := (⟨"java/lang/String", "charAt", "(I)C"⟩ : MethodName)) (z := (⟨"java/lang/String", "charAt", "(I)C"⟩ : MethodName)) hown (mvT hZ (hw _ (List.mem_of_getElem? (i := 181) rfl))) (mvT hZ (hw _ (List.mem_of_getElem? (i := 182) rfl))) (notFace_of_selects (args := #[]) (mvT hZ (hw _ (List.mem_of_getElem? (i := 184) rfl)))) (mvT hZ (hw _ (List.mem_of_getElem? (i := 184) rfl))) (mvT hZ (hw _ (List.mem_of_getElem? (i := 183) rfl))) (by decide) (backOf (W := 1) (rm36 l Z a0 hw [] a2 (1 : Int32) b2_ k2_ z2 v2 cs fo h0 n0 Z0 Es2 Fcs2 Fvs2 Vs2 hl2 SC hcs O0 (by decide) hk1 SF hfo) hZ (hw _ (List.mem_of_getElem? (i := 185) rfl)) (hw _ (List.mem_of_getElem? (i := 6) rfl)) (by decide) (by decide)) q7a q7c (g := (mkF m 38 #[.val (.ref a0_), .val (.int p1), .val (.ref a2), .val (.int z2)] [(.int (1 : Int32)), (.ref a2), (.int (own_cA v0 (p1 + (1 : Int32))))])) rfl (by rw [hml]; rfl) (Steps.refl _) (argsL := [(.int (1 : Int32))]) (rest := [(.int (own_cA v0 (p1 + (1 : Int32))))]) (lenOf own_pd10 rfl) rfl (by show 2 * 0 + _ ≤ _; exact Nat.le_of_eq rfl) (hb hby own_d35_38) (fun _ _ => ⟨rfl, e6, (by decide : 0 + 0 ≤ _), (by decide : 0 + 0 ≤ _)⟩)
      dsimp only [Pt.U, Pt.locs, Pt.cells, Pt.slots] at X7 l7 y7 z7 st7 hQ7
      subst l7 y7 z7
      obtain ⟨rfl, N7q, e7⟩ := hQ7
      have N7 := Fr.app N6 N7q
      have k8 : own_To p e below T7 (mkF m 48 #[.val (.ref a0_), .val (.int p1), .val (.ref a2), .val (.int z2)] [(.int (2 : Int32)), (.int z2)]) s₁ (mkF m 0 #[.val (.ref a0_), .val (.int p1), .val (.ref a2), .unset] []) := fun t q => k5 t (by
        refine XS.icmpNo X4.here hx rfl (hb hby own_d35_26) rfl (tlt hk1).2.2.2 ?_
        show Steps p.tables e below (T4.setTop (mkF m 29 #[.val (.ref a0_), .val (.int p1), .val (.ref a2), .val (.int z2)] [])) _
        refine XS.aloadN X4.here hx rfl (hb hby own_d35_29) rfl rfl ?_
        show Steps p.tables e below (T4.setTop (mkF m 30 #[.val (.ref a0_), .val (.int p1), .val (.ref a2), .val (.int z2)] [(.ref a0_)])) _
        refine XS.iloadN X4.here hx rfl (hb hby own_d35_30) rfl ?_
        show Steps p.tables e below (T4.setTop (mkF m 31 #[.val (.ref a0_), .val (.int p1), .val (.ref a2), .val (.int z2)] [(.int p1), (.ref a0_)])) _
        refine XS.iconst X4.here hx rfl (hb hby own_d35_31) ?_
        show Steps p.tables e below (T4.setTop (mkF m 32 #[.val (.ref a0_), .val (.int p1), .val (.ref a2), .val (.int z2)] [(.int (1 : Int32)), (.int p1), (.ref a0_)])) _
        refine XS.iadd X4.here hx rfl (hb hby own_d35_32) rfl ?_
        show Steps p.tables e below (T4.setTop (mkF m 33 #[.val (.ref a0_), .val (.int p1), .val (.ref a2), .val (.int z2)] [(.int (p1 + (1 : Int32))), (.ref a0_)])) _
        refine st6.trans ?_
        show Steps p.tables e below (T6.setTop (mkF m 36 #[.val (.ref a0_), .val (.int p1), .val (.ref a2), .val (.int z2)] [(.int (own_cA v0 (p1 + (1 : Int32))))])) _
        refine XS.aloadN X6.here hx rfl (hb hby own_d35_36) rfl rfl ?_
        show Steps p.tables e below (T6.setTop (mkF m 37 #[.val (.ref a0_), .val (.int p1), .val (.ref a2), .val (.int z2)] [(.ref a2), (.int (own_cA v0 (p1 + (1 : Int32))))])) _
        refine XS.iconst X6.here hx rfl (hb hby own_d35_37) ?_
        show Steps p.tables e below (T6.setTop (mkF m 38 #[.val (.ref a0_), .val (.int p1), .val (.ref a2), .val (.int z2)] [(.int (1 : Int32)), (.ref a2), (.int (own_cA v0 (p1 + (1 : Int32))))])) _
        refine st7.trans ?_
        show Steps p.tables e below (T7.setTop (mkF m 41 #[.val (.ref a0_), .val (.int p1), .val (.ref a2), .val (.int z2)] [(.int (own_cA v2 (1 : Int32))), (.int (own_cA v0 (p1 + (1 : Int32))))])) _
        refine XS.icmpYes X7.here hx rfl (pc0 := 41) (pc' := 46) rfl (hb hby own_d35_41) rfl (teq (own_ixs hp hbq hk1 (by decide) hm)).1 (by decide) (by decide) ?_
        show Steps p.tables e below (T7.setTop (mkF m 46 #[.val (.ref a0_), .val (.int p1), .val (.ref a2), .val (.int z2)] [])) _
        refine XS.iloadN X7.here hx rfl (hb hby own_d35_46) rfl ?_
        show Steps p.tables e below (T7.setTop (mkF m 47 #[.val (.ref a0_), .val (.int p1), .val (.ref a2), .val (.int z2)] [(.int z2)])) _
        refine XS.iconst X7.here hx rfl (hb hby own_d35_47) ?_
        show Steps p.tables e below (T7.setTop (mkF m 48 #[.val (.ref a0_), .val (.int p1), .val (.ref a2), .val (.int z2)] [(.int (2 : Int32)), (.int z2)])) _
        exact q)
      by_cases hk2 : (2 : Int32) < z2
      ·
        have hb2 := own_ix hp hbq hk2 (by decide)
        obtain ⟨cq9, kq9, q9a, q9b, q9c⟩ := isOf hZ e7 Es0
        obtain ⟨_, _, ⟨T9, L9, kk9, n9⟩, -, X9, ⟨Lc9, hQ9, l9, y9, z9⟩, st9⟩ := X7.virtualBack hx (y := (⟨"java/lang/String", "charAt", "(I)C"⟩ : MethodName)) (z := (⟨"java/lang/String", "charAt", "(I)C"⟩ : MethodName)) hown (mvT hZ (hw _ (List.mem_of_getElem? (i := 181) rfl))) (mvT hZ (hw _ (List.mem_of_getElem? (i := 182) rfl))) (notFace_of_selects (args := #[]) (mvT hZ (hw _ (List.mem_of_getElem? (i := 184) rfl)))) (mvT hZ (hw _ (List.mem_of_getElem? (i := 184) rfl))) (mvT hZ (hw _ (List.mem_of_getElem? (i := 183) rfl))) (by decide) (backOf (W := 0) (rm36 l Z a0 hw [] a0_ (p1 + (2 : Int32)) b0_ k0_ z0 v0 cs fo h0 n0 Z0 Es0 Fcs0 Fvs0 Vs0 hl0 SC hcs O0 hb2.1 hb2.2.1 SF hfo) hZ (hw _ (List.mem_of_getElem? (i := 185) rfl)) (hw _ (List.mem_of_getElem? (i := 6) rfl)) (by decide) (by decide)) q9a q9c (g := (mkF m 55 #[.val (.ref a0_), .val (.int p1), .val (.ref a2), .val (.int z2)] [(.int (p1 + (2 : Int32))), (.ref a0_)])) rfl (by rw [hml]; rfl) (Steps.refl _) (argsL := [(.int (p1 + (2 : Int32)))]) (rest := []) (lenOf own_pd10 rfl) rfl (by show 2 * 0 + _ ≤ _; exact Nat.le_of_eq rfl) (hb hby own_d35_55) (fun _ _ => ⟨rfl, e7, (by decide : 0 + 0 ≤ _), (by decide : 0 + 0 ≤ _)⟩)
        dsimp only [Pt.U, Pt.locs, Pt.cells, Pt.slots] at X9 l9 y9 z9 st9 hQ9
        subst l9 y9 z9
        obtain ⟨rfl, N9q, e9⟩ := hQ9
        have N9 := Fr.app N7 N9q
        obtain ⟨cq10, kq10, q10a, q10b, q10c⟩ := isOf hZ e9 Es2
        obtain ⟨_, _, ⟨T10, L10, kk10, n10⟩, -, X10, ⟨Lc10, hQ10, l10, y10, z10⟩, st10⟩ := X9.virtualBack hx (y := (⟨"java/lang/String", "charAt", "(I)C"⟩ : MethodName)) (z := (⟨"java/lang/String", "charAt", "(I)C"⟩ : MethodName)) hown (mvT hZ (hw _ (List.mem_of_getElem? (i := 181) rfl))) (mvT hZ (hw _ (List.mem_of_getElem? (i := 182) rfl))) (notFace_of_selects (args := #[]) (mvT hZ (hw _ (List.mem_of_getElem? (i := 184) rfl)))) (mvT hZ (hw _ (List.mem_of_getElem? (i := 184) rfl))) (mvT hZ (hw _ (List.mem_of_getElem? (i := 183) rfl))) (by decide) (backOf (W := 1) (rm36 l Z a0 hw [] a2 (2 : Int32) b2_ k2_ z2 v2 cs fo h0 n0 Z0 Es2 Fcs2 Fvs2 Vs2 hl2 SC hcs O0 (by decide) hk2 SF hfo) hZ (hw _ (List.mem_of_getElem? (i := 185) rfl)) (hw _ (List.mem_of_getElem? (i := 6) rfl)) (by decide) (by decide)) q10a q10c (g := (mkF m 60 #[.val (.ref a0_), .val (.int p1), .val (.ref a2), .val (.int z2)] [(.int (2 : Int32)), (.ref a2), (.int (own_cA v0 (p1 + (2 : Int32))))])) rfl (by rw [hml]; rfl) (Steps.refl _) (argsL := [(.int (2 : Int32))]) (rest := [(.int (own_cA v0 (p1 + (2 : Int32))))]) (lenOf own_pd10 rfl) rfl (by show 2 * 0 + _ ≤ _; exact Nat.le_of_eq rfl) (hb hby own_d35_60) (fun _ _ => ⟨rfl, e9, (by decide : 0 + 0 ≤ _), (by decide : 0 + 0 ≤ _)⟩)
        dsimp only [Pt.U, Pt.locs, Pt.cells, Pt.slots] at X10 l10 y10 z10 st10 hQ10
        subst l10 y10 z10
        obtain ⟨rfl, N10q, e10⟩ := hQ10
        have N10 := Fr.app N9 N10q
        have k11 : own_To p e below T10 (mkF m 70 #[.val (.ref a0_), .val (.int p1), .val (.ref a2), .val (.int z2)] [(.int (3 : Int32)), (.int z2)]) s₁ (mkF m 0 #[.val (.ref a0_), .val (.int p1), .val (.ref a2), .unset] []) := fun t q => k8 t (by
          refine XS.icmpNo X7.here hx rfl (hb hby own_d35_48) rfl (tlt hk2).2.2.2 ?_
          show Steps p.tables e below (T7.setTop (mkF m 51 #[.val (.ref a0_), .val (.int p1), .val (.ref a2), .val (.int z2)] [])) _
          refine XS.aloadN X7.here hx rfl (hb hby own_d35_51) rfl rfl ?_
          show Steps p.tables e below (T7.setTop (mkF m 52 #[.val (.ref a0_), .val (.int p1), .val (.ref a2), .val (.int z2)] [(.ref a0_)])) _
          refine XS.iloadN X7.here hx rfl (hb hby own_d35_52) rfl ?_
          show Steps p.tables e below (T7.setTop (mkF m 53 #[.val (.ref a0_), .val (.int p1), .val (.ref a2), .val (.int z2)] [(.int p1), (.ref a0_)])) _
          refine XS.iconst X7.here hx rfl (hb hby own_d35_53) ?_
          show Steps p.tables e below (T7.setTop (mkF m 54 #[.val (.ref a0_), .val (.int p1), .val (.ref a2), .val (.int z2)] [(.int (2 : Int32)), (.int p1), (.ref a0_)])) _
          refine XS.iadd X7.here hx rfl (hb hby own_d35_54) rfl ?_
          show Steps p.tables e below (T7.setTop (mkF m 55 #[.val (.ref a0_), .val (.int p1), .val (.ref a2), .val (.int z2)] [(.int (p1 + (2 : Int32))), (.ref a0_)])) _
          refine st9.trans ?_
          show Steps p.tables e below (T9.setTop (mkF m 58 #[.val (.ref a0_), .val (.int p1), .val (.ref a2), .val (.int z2)] [(.int (own_cA v0 (p1 + (2 : Int32))))])) _
          refine XS.aloadN X9.here hx rfl (hb hby own_d35_58) rfl rfl ?_
          show Steps p.tables e below (T9.setTop (mkF m 59 #[.val (.ref a0_), .val (.int p1), .val (.ref a2), .val (.int z2)] [(.ref a2), (.int (own_cA v0 (p1 + (2 : Int32))))])) _
          refine XS.iconst X9.here hx rfl (hb hby own_d35_59) ?_
          show Steps p.tables e below (T9.setTop (mkF m 60 #[.val (.ref a0_), .val (.int p1), .val (.ref a2), .val (.int z2)] [(.int (2 : Int32)), (.ref a2), (.int (own_cA v0 (p1 + (2 : Int32))))])) _
          refine st10.trans ?_
          show Steps p.tables e below (T10.setTop (mkF m 63 #[.val (.ref a0_), .val (.int p1), .val (.ref a2), .val (.int z2)] [(.int (own_cA v2 (2 : Int32))), (.int (own_cA v0 (p1 + (2 : Int32))))])) _
          refine XS.icmpYes X10.here hx rfl (pc0 := 63) (pc' := 68) rfl (hb hby own_d35_63) rfl (teq (own_ixs hp hbq hk2 (by decide) hm)).1 (by decide) (by decide) ?_
          show Steps p.tables e below (T10.setTop (mkF m 68 #[.val (.ref a0_), .val (.int p1), .val (.ref a2), .val (.int z2)] [])) _
          refine XS.iloadN X10.here hx rfl (hb hby own_d35_68) rfl ?_
          show Steps p.tables e below (T10.setTop (mkF m 69 #[.val (.ref a0_), .val (.int p1), .val (.ref a2), .val (.int z2)] [(.int z2)])) _
          refine XS.iconst X10.here hx rfl (hb hby own_d35_69) ?_
          show Steps p.tables e below (T10.setTop (mkF m 70 #[.val (.ref a0_), .val (.int p1), .val (.ref a2), .val (.int z2)] [(.int (3 : Int32)), (.int z2)])) _
          exact q)
        by_cases hk3 : (3 : Int32) < z2
        ·
          have hb3 := own_ix hp hbq hk3 (by decide)
          obtain ⟨cq12, kq12, q12a, q12b, q12c⟩ := isOf hZ e10 Es0
          obtain ⟨_, _, ⟨T12, L12, kk12, n12⟩, -, X12, ⟨Lc12, hQ12, l12, y12, z12⟩, st12⟩ := X10.virtualBack hx (y := (⟨"java/lang/String", "charAt", "(I)C"⟩ : MethodName)) (z := (⟨"java/lang/String", "charAt", "(I)C"⟩ : MethodName)) hown (mvT hZ (hw _ (List.mem_of_getElem? (i := 181) rfl))) (mvT hZ (hw _ (List.mem_of_getElem? (i := 182) rfl))) (notFace_of_selects (args := #[]) (mvT hZ (hw _ (List.mem_of_getElem? (i := 184) rfl)))) (mvT hZ (hw _ (List.mem_of_getElem? (i := 184) rfl))) (mvT hZ (hw _ (List.mem_of_getElem? (i := 183) rfl))) (by decide) (backOf (W := 0) (rm36 l Z a0 hw [] a0_ (p1 + (3 : Int32)) b0_ k0_ z0 v0 cs fo h0 n0 Z0 Es0 Fcs0 Fvs0 Vs0 hl0 SC hcs O0 hb3.1 hb3.2.1 SF hfo) hZ (hw _ (List.mem_of_getElem? (i := 185) rfl)) (hw _ (List.mem_of_getElem? (i := 6) rfl)) (by decide) (by decide)) q12a q12c (g := (mkF m 77 #[.val (.ref a0_), .val (.int p1), .val (.ref a2), .val (.int z2)] [(.int (p1 + (3 : Int32))), (.ref a0_)])) rfl (by rw [hml]; rfl) (Steps.refl _) (argsL := [(.int (p1 + (3 : Int32)))]) (rest := []) (lenOf own_pd10 rfl) rfl (by show 2 * 0 + _ ≤ _; exact Nat.le_of_eq rfl) (hb hby own_d35_77) (fun _ _ => ⟨rfl, e10, (by decide : 0 + 0 ≤ _), (by decide : 0 + 0 ≤ _)⟩)
          dsimp only [Pt.U, Pt.locs, Pt.cells, Pt.slots] at X12 l12 y12 z12 st12 hQ12
          subst l12 y12 z12
          obtain ⟨rfl, N12q, e12⟩ := hQ12
          have N12 := Fr.app N10 N12q
          obtain ⟨cq13, kq13, q13a, q13b, q13c⟩ := isOf hZ e12 Es2
          obtain ⟨_, _, ⟨T13, L13, kk13, n13⟩, -, X13, ⟨Lc13, hQ13, l13, y13, z13⟩, st13⟩ := X12.virtualBack hx (y := (⟨"java/lang/String", "charAt", "(I)C"⟩ : MethodName)) (z := (⟨"java/lang/String", "charAt", "(I)C"⟩ : MethodName)) hown (mvT hZ (hw _ (List.mem_of_getElem? (i := 181) rfl))) (mvT hZ (hw _ (List.mem_of_getElem? (i := 182) rfl))) (notFace_of_selects (args := #[]) (mvT hZ (hw _ (List.mem_of_getElem? (i := 184) rfl)))) (mvT hZ (hw _ (List.mem_of_getElem? (i := 184) rfl))) (mvT hZ (hw _ (List.mem_of_getElem? (i := 183) rfl))) (by decide) (backOf (W := 1) (rm36 l Z a0 hw [] a2 (3 : Int32) b2_ k2_ z2 v2 cs fo h0 n0 Z0 Es2 Fcs2 Fvs2 Vs2 hl2 SC hcs O0 (by decide) hk3 SF hfo) hZ (hw _ (List.mem_of_getElem? (i := 185) rfl)) (hw _ (List.mem_of_getElem? (i := 6) rfl)) (by decide) (by decide)) q13a q13c (g := (mkF m 82 #[.val (.ref a0_), .val (.int p1), .val (.ref a2), .val (.int z2)] [(.int (3 : Int32)), (.ref a2), (.int (own_cA v0 (p1 + (3 : Int32))))])) rfl (by rw [hml]; rfl) (Steps.refl _) (argsL := [(.int (3 : Int32))]) (rest := [(.int (own_cA v0 (p1 + (3 : Int32))))]) (lenOf own_pd10 rfl) rfl (by show 2 * 0 + _ ≤ _; exact Nat.le_of_eq rfl) (hb hby own_d35_82) (fun _ _ => ⟨rfl, e12, (by decide : 0 + 0 ≤ _), (by decide : 0 + 0 ≤ _)⟩)
          dsimp only [Pt.U, Pt.locs, Pt.cells, Pt.slots] at X13 l13 y13 z13 st13 hQ13
          subst l13 y13 z13
          obtain ⟨rfl, N13q, e13⟩ := hQ13
          have N13 := Fr.app N12 N13q
          have k14 : own_To p e below T13 (mkF m 92 #[.val (.ref a0_), .val (.int p1), .val (.ref a2), .val (.int z2)] [(.int (4 : Int32)), (.int z2)]) s₁ (mkF m 0 #[.val (.ref a0_), .val (.int p1), .val (.ref a2), .unset] []) := fun t q => k11 t (by
            refine XS.icmpNo X10.here hx rfl (hb hby own_d35_70) rfl (tlt hk3).2.2.2 ?_
            show Steps p.tables e below (T10.setTop (mkF m 73 #[.val (.ref a0_), .val (.int p1), .val (.ref a2), .val (.int z2)] [])) _
            refine XS.aloadN X10.here hx rfl (hb hby own_d35_73) rfl rfl ?_
            show Steps p.tables e below (T10.setTop (mkF m 74 #[.val (.ref a0_), .val (.int p1), .val (.ref a2), .val (.int z2)] [(.ref a0_)])) _
            refine XS.iloadN X10.here hx rfl (hb hby own_d35_74) rfl ?_
            show Steps p.tables e below (T10.setTop (mkF m 75 #[.val (.ref a0_), .val (.int p1), .val (.ref a2), .val (.int z2)] [(.int p1), (.ref a0_)])) _
            refine XS.iconst X10.here hx rfl (hb hby own_d35_75) ?_
            show Steps p.tables e below (T10.setTop (mkF m 76 #[.val (.ref a0_), .val (.int p1), .val (.ref a2), .val (.int z2)] [(.int (3 : Int32)), (.int p1), (.ref a0_)])) _
            refine XS.iadd X10.here hx rfl (hb hby own_d35_76) rfl ?_
            show Steps p.tables e below (T10.setTop (mkF m 77 #[.val (.ref a0_), .val (.int p1), .val (.ref a2), .val (.int z2)] [(.int (p1 + (3 : Int32))), (.ref a0_)])) _
            refine st12.trans ?_
            show Steps p.tables e below (T12.setTop (mkF m 80 #[.val (.ref a0_), .val (.int p1), .val (.ref a2), .val (.int z2)] [(.int (own_cA v0 (p1 + (3 : Int32))))])) _
            refine XS.aloadN X12.here hx rfl (hb hby own_d35_80) rfl rfl ?_
            show Steps p.tables e below (T12.setTop (mkF m 81 #[.val (.ref a0_), .val (.int p1), .val (.ref a2), .val (.int z2)] [(.ref a2), (.int (own_cA v0 (p1 + (3 : Int32))))])) _
            refine XS.iconst X12.here hx rfl (hb hby own_d35_81) ?_
            show Steps p.tables e below (T12.setTop (mkF m 82 #[.val (.ref a0_), .val (.int p1), .val (.ref a2), .val (.int z2)] [(.int (3 : Int32)), (.ref a2), (.int (own_cA v0 (p1 + (3 : Int32))))])) _
            refine st13.trans ?_
            show Steps p.tables e below (T13.setTop (mkF m 85 #[.val (.ref a0_), .val (.int p1), .val (.ref a2), .val (.int z2)] [(.int (own_cA v2 (3 : Int32))), (.int (own_cA v0 (p1 + (3 : Int32))))])) _
            refine XS.icmpYes X13.here hx rfl (pc0 := 85) (pc' := 90) rfl (hb hby own_d35_85) rfl (teq (own_ixs hp hbq hk3 (by decide) hm)).1 (by decide) (by decide) ?_
            show Steps p.tables e below (T13.setTop (mkF m 90 #[.val (.ref a0_), .val (.int p1), .val (.ref a2), .val (.int z2)] [])) _
            refine XS.iloadN X13.here hx rfl (hb hby own_d35_90) rfl ?_
            show Steps p.tables e below (T13.setTop (mkF m 91 #[.val (.ref a0_), .val (.int p1), .val (.ref a2), .val (.int z2)] [(.int z2)])) _
            refine XS.iconst X13.here hx rfl (hb hby own_d35_91) ?_
            show Steps p.tables e below (T13.setTop (mkF m 92 #[.val (.ref a0_), .val (.int p1), .val (.ref a2), .val (.int z2)] [(.int (4 : Int32)), (.int z2)])) _
            exact q)
          by_cases hk4 : (4 : Int32) < z2
          ·
            have hb4 := own_ix hp hbq hk4 (by decide)
            obtain ⟨cq15, kq15, q15a, q15b, q15c⟩ := isOf hZ e13 Es0
            obtain ⟨_, _, ⟨T15, L15, kk15, n15⟩, -, X15, ⟨Lc15, hQ15, l15, y15, z15⟩, st15⟩ := X13.virtualBack hx (y := (⟨"java/lang/String", "charAt", "(I)C"⟩ : MethodName)) (z := (⟨"java/lang/String", "charAt", "(I)C"⟩ : MethodName)) hown (mvT hZ (hw _ (List.mem_of_getElem? (i := 181) rfl))) (mvT hZ (hw _ (List.mem_of_getElem? (i := 182) rfl))) (notFace_of_selects (args := #[]) (mvT hZ (hw _ (List.mem_of_getElem? (i := 184) rfl)))) (mvT hZ (hw _ (List.mem_of_getElem? (i := 184) rfl))) (mvT hZ (hw _ (List.mem_of_getElem? (i := 183) rfl))) (by decide) (backOf (W := 0) (rm36 l Z a0 hw [] a0_ (p1 + (4 : Int32)) b0_ k0_ z0 v0 cs fo h0 n0 Z0 Es0 Fcs0 Fvs0 Vs0 hl0 SC hcs O0 hb4.1 hb4.2.1 SF hfo) hZ (hw _ (List.mem_of_getElem? (i := 185) rfl)) (hw _ (List.mem_of_getElem? (i := 6) rfl)) (by decide) (by decide)) q15a q15c (g := (mkF m 99 #[.val (.ref a0_), .val (.int p1), .val (.ref a2), .val (.int z2)] [(.int (p1 + (4 : Int32))), (.ref a0_)])) rfl (by rw [hml]; rfl) (Steps.refl _) (argsL := [(.int (p1 + (4 : Int32)))]) (rest := []) (lenOf own_pd10 rfl) rfl (by show 2 * 0 + _ ≤ _; exact Nat.le_of_eq rfl) (hb hby own_d35_99) (fun _ _ => ⟨rfl, e13, (by decide : 0 + 0 ≤ _), (by decide : 0 + 0 ≤ _)⟩)
            dsimp only [Pt.U, Pt.locs, Pt.cells, Pt.slots] at X15 l15 y15 z15 st15 hQ15
            subst l15 y15 z15
            obtain ⟨rfl, N15q, e15⟩ := hQ15
            have N15 := Fr.app N13 N15q
            obtain ⟨cq16, kq16, q16a, q16b, q16c⟩ := isOf hZ e15 Es2
            obtain ⟨_, _, ⟨T16, L16, kk16, n16⟩, -, X16, ⟨Lc16, hQ16, l16, y16, z16⟩, st16⟩ := X15.virtualBack hx (y := (⟨"java/lang/String", "charAt", "(I)C"⟩ : MethodName)) (z := (⟨"java/lang/String", "charAt", "(I)C"⟩ : MethodName)) hown (mvT hZ (hw _ (List.mem_of_getElem? (i := 181) rfl))) (mvT hZ (hw _ (List.mem_of_getElem? (i := 182) rfl))) (notFace_of_selects (args := #[]) (mvT hZ (hw _ (List.mem_of_getElem? (i := 184) rfl)))) (mvT hZ (hw _ (List.mem_of_getElem? (i := 184) rfl))) (mvT hZ (hw _ (List.mem_of_getElem? (i := 183) rfl))) (by decide) (backOf (W := 1) (rm36 l Z a0 hw [] a2 (4 : Int32) b2_ k2_ z2 v2 cs fo h0 n0 Z0 Es2 Fcs2 Fvs2 Vs2 hl2 SC hcs O0 (by decide) hk4 SF hfo) hZ (hw _ (List.mem_of_getElem? (i := 185) rfl)) (hw _ (List.mem_of_getElem? (i := 6) rfl)) (by decide) (by decide)) q16a q16c (g := (mkF m 104 #[.val (.ref a0_), .val (.int p1), .val (.ref a2), .val (.int z2)] [(.int (4 : Int32)), (.ref a2), (.int (own_cA v0 (p1 + (4 : Int32))))])) rfl (by rw [hml]; rfl) (Steps.refl _) (argsL := [(.int (4 : Int32))]) (rest := [(.int (own_cA v0 (p1 + (4 : Int32))))]) (lenOf own_pd10 rfl) rfl (by show 2 * 0 + _ ≤ _; exact Nat.le_of_eq rfl) (hb hby own_d35_104) (fun _ _ => ⟨rfl, e15, (by decide : 0 + 0 ≤ _), (by decide : 0 + 0 ≤ _)⟩)
            dsimp only [Pt.U, Pt.locs, Pt.cells, Pt.slots] at X16 l16 y16 z16 st16 hQ16
            subst l16 y16 z16
            obtain ⟨rfl, N16q, e16⟩ := hQ16
            have N16 := Fr.app N15 N16q
            have k17 : own_To p e below T16 (mkF m 114 #[.val (.ref a0_), .val (.int p1), .val (.ref a2), .val (.int z2)] [(.int (5 : Int32)), (.int z2)]) s₁ (mkF m 0 #[.val (.ref a0_), .val (.int p1), .val (.ref a2), .unset] []) := fun t q => k14 t (by
              refine XS.icmpNo X13.here hx rfl (hb hby own_d35_92) rfl (tlt hk4).2.2.2 ?_
              show Steps p.tables e below (T13.setTop (mkF m 95 #[.val (.ref a0_), .val (.int p1), .val (.ref a2), .val (.int z2)] [])) _
              refine XS.aloadN X13.here hx rfl (hb hby own_d35_95) rfl rfl ?_
              show Steps p.tables e below (T13.setTop (mkF m 96 #[.val (.ref a0_), .val (.int p1), .val (.ref a2), .val (.int z2)] [(.ref a0_)])) _
              refine XS.iloadN X13.here hx rfl (hb hby own_d35_96) rfl ?_
              show Steps p.tables e below (T13.setTop (mkF m 97 #[.val (.ref a0_), .val (.int p1), .val (.ref a2), .val (.int z2)] [(.int p1), (.ref a0_)])) _
              refine XS.iconst X13.here hx rfl (hb hby own_d35_97) ?_
              show Steps p.tables e below (T13.setTop (mkF m 98 #[.val (.ref a0_), .val (.int p1), .val (.ref a2), .val (.int z2)] [(.int (4 : Int32)), (.int p1), (.ref a0_)])) _
              refine XS.iadd X13.here hx rfl (hb hby own_d35_98) rfl ?_
              show Steps p.tables e below (T13.setTop (mkF m 99 #[.val (.ref a0_), .val (.int p1), .val (.ref a2), .val (.int z2)] [(.int (p1 + (4 : Int32))), (.ref a0_)])) _
              refine st15.trans ?_
              show Steps p.tables e below (T15.setTop (mkF m 102 #[.val (.ref a0_), .val (.int p1), .val (.ref a2), .val (.int z2)] [(.int (own_cA v0 (p1 + (4 : Int32))))])) _
              refine XS.aloadN X15.here hx rfl (hb hby own_d35_102) rfl rfl ?_
              show Steps p.tables e below (T15.setTop (mkF m 103 #[.val (.ref a0_), .val (.int p1), .val (.ref a2), .val (.int z2)] [(.ref a2), (.int (own_cA v0 (p1 + (4 : Int32))))])) _
              refine XS.iconst X15.here hx rfl (hb hby own_d35_103) ?_
              show Steps p.tables e below (T15.setTop (mkF m 104 #[.val (.ref a0_), .val (.int p1), .val (.ref a2), .val (.int z2)] [(.int (4 : Int32)), (.ref a2), (.int (own_cA v0 (p1 + (4 : Int32))))])) _
              refine st16.trans ?_
              show Steps p.tables e below (T16.setTop (mkF m 107 #[.val (.ref a0_), .val (.int p1), .val (.ref a2), .val (.int z2)] [(.int (own_cA v2 (4 : Int32))), (.int (own_cA v0 (p1 + (4 : Int32))))])) _
              refine XS.icmpYes X16.here hx rfl (pc0 := 107) (pc' := 112) rfl (hb hby own_d35_107) rfl (teq (own_ixs hp hbq hk4 (by decide) hm)).1 (by decide) (by decide) ?_
              show Steps p.tables e below (T16.setTop (mkF m 112 #[.val (.ref a0_), .val (.int p1), .val (.ref a2), .val (.int z2)] [])) _
              refine XS.iloadN X16.here hx rfl (hb hby own_d35_112) rfl ?_
              show Steps p.tables e below (T16.setTop (mkF m 113 #[.val (.ref a0_), .val (.int p1), .val (.ref a2), .val (.int z2)] [(.int z2)])) _
              refine XS.iconst X16.here hx rfl (hb hby own_d35_113) ?_
              show Steps p.tables e below (T16.setTop (mkF m 114 #[.val (.ref a0_), .val (.int p1), .val (.ref a2), .val (.int z2)] [(.int (5 : Int32)), (.int z2)])) _
              exact q)
            by_cases hk5 : (5 : Int32) < z2
            ·
              have hb5 := own_ix hp hbq hk5 (by decide)
              obtain ⟨cq18, kq18, q18a, q18b, q18c⟩ := isOf hZ e16 Es0
              obtain ⟨_, _, ⟨T18, L18, kk18, n18⟩, -, X18, ⟨Lc18, hQ18, l18, y18, z18⟩, st18⟩ := X16.virtualBack hx (y := (⟨"java/lang/String", "charAt", "(I)C"⟩ : MethodName)) (z := (⟨"java/lang/String", "charAt", "(I)C"⟩ : MethodName)) hown (mvT hZ (hw _ (List.mem_of_getElem? (i := 181) rfl))) (mvT hZ (hw _ (List.mem_of_getElem? (i := 182) rfl))) (notFace_of_selects (args := #[]) (mvT hZ (hw _ (List.mem_of_getElem? (i := 184) rfl)))) (mvT hZ (hw _ (List.mem_of_getElem? (i := 184) rfl))) (mvT hZ (hw _ (List.mem_of_getElem? (i := 183) rfl))) (by decide) (backOf (W := 0) (rm36 l Z a0 hw [] a0_ (p1 + (5 : Int32)) b0_ k0_ z0 v0 cs fo h0 n0 Z0 Es0 Fcs0 Fvs0 Vs0 hl0 SC hcs O0 hb5.1 hb5.2.1 SF hfo) hZ (hw _ (List.mem_of_getElem? (i := 185) rfl)) (hw _ (List.mem_of_getElem? (i := 6) rfl)) (by decide) (by decide)) q18a q18c (g := (mkF m 121 #[.val (.ref a0_), .val (.int p1), .val (.ref a2), .val (.int z2)] [(.int (p1 + (5 : Int32))), (.ref a0_)])) rfl (by rw [hml]; rfl) (Steps.refl _) (argsL := [(.int (p1 + (5 : Int32)))]) (rest := []) (lenOf own_pd10 rfl) rfl (by show 2 * 0 + _ ≤ _; exact Nat.le_of_eq rfl) (hb hby own_d35_121) (fun _ _ => ⟨rfl, e16, (by decide : 0 + 0 ≤ _), (by decide : 0 + 0 ≤ _)⟩)
              dsimp only [Pt.U, Pt.locs, Pt.cells, Pt.slots] at X18 l18 y18 z18 st18 hQ18
              subst l18 y18 z18
              obtain ⟨rfl, N18q, e18⟩ := hQ18
              have N18 := Fr.app N16 N18q
              obtain ⟨cq19, kq19, q19a, q19b, q19c⟩ := isOf hZ e18 Es2
              obtain ⟨_, _, ⟨T19, L19, kk19, n19⟩, -, X19, ⟨Lc19, hQ19, l19, y19, z19⟩, st19⟩ := X18.virtualBack hx (y := (⟨"java/lang/String", "charAt", "(I)C"⟩ : MethodName)) (z := (⟨"java/lang/String", "charAt", "(I)C"⟩ : MethodName)) hown (mvT hZ (hw _ (List.mem_of_getElem? (i := 181) rfl))) (mvT hZ (hw _ (List.mem_of_getElem? (i := 182) rfl))) (notFace_of_selects (args := #[]) (mvT hZ (hw _ (List.mem_of_getElem? (i := 184) rfl)))) (mvT hZ (hw _ (List.mem_of_getElem? (i := 184) rfl))) (mvT hZ (hw _ (List.mem_of_getElem? (i := 183) rfl))) (by decide) (backOf (W := 1) (rm36 l Z a0 hw [] a2 (5 : Int32) b2_ k2_ z2 v2 cs fo h0 n0 Z0 Es2 Fcs2 Fvs2 Vs2 hl2 SC hcs O0 (by decide) hk5 SF hfo) hZ (hw _ (List.mem_of_getElem? (i := 185) rfl)) (hw _ (List.mem_of_getElem? (i := 6) rfl)) (by decide) (by decide)) q19a q19c (g := (mkF m 126 #[.val (.ref a0_), .val (.int p1), .val (.ref a2), .val (.int z2)] [(.int (5 : Int32)), (.ref a2), (.int (own_cA v0 (p1 + (5 : Int32))))])) rfl (by rw [hml]; rfl) (Steps.refl _) (argsL := [(.int (5 : Int32))]) (rest := [(.int (own_cA v0 (p1 + (5 : Int32))))]) (lenOf own_pd10 rfl) rfl (by show 2 * 0 + _ ≤ _; exact Nat.le_of_eq rfl) (hb hby own_d35_126) (fun _ _ => ⟨rfl, e18, (by decide : 0 + 0 ≤ _), (by decide : 0 + 0 ≤ _)⟩)
              dsimp only [Pt.U, Pt.locs, Pt.cells, Pt.slots] at X19 l19 y19 z19 st19 hQ19
              subst l19 y19 z19
              obtain ⟨rfl, N19q, e19⟩ := hQ19
              have N19 := Fr.app N18 N19q
              have k20 : own_To p e below T19 (mkF m 135 #[.val (.ref a0_), .val (.int p1), .val (.ref a2), .val (.int z2)] [(.int (1 : Int32))]) s₁ (mkF m 0 #[.val (.ref a0_), .val (.int p1), .val (.ref a2), .unset] []) := fun t q => k17 t (by
                refine XS.icmpNo X16.here hx rfl (hb hby own_d35_114) rfl (tlt hk5).2.2.2 ?_
                show Steps p.tables e below (T16.setTop (mkF m 117 #[.val (.ref a0_), .val (.int p1), .val (.ref a2), .val (.int z2)] [])) _
                refine XS.aloadN X16.here hx rfl (hb hby own_d35_117) rfl rfl ?_
                show Steps p.tables e below (T16.setTop (mkF m 118 #[.val (.ref a0_), .val (.int p1), .val (.ref a2), .val (.int z2)] [(.ref a0_)])) _
                refine XS.iloadN X16.here hx rfl (hb hby own_d35_118) rfl ?_
                show Steps p.tables e below (T16.setTop (mkF m 119 #[.val (.ref a0_), .val (.int p1), .val (.ref a2), .val (.int z2)] [(.int p1), (.ref a0_)])) _
                refine XS.iconst X16.here hx rfl (hb hby own_d35_119) ?_
                show Steps p.tables e below (T16.setTop (mkF m 120 #[.val (.ref a0_), .val (.int p1), .val (.ref a2), .val (.int z2)] [(.int (5 : Int32)), (.int p1), (.ref a0_)])) _
                refine XS.iadd X16.here hx rfl (hb hby own_d35_120) rfl ?_
                show Steps p.tables e below (T16.setTop (mkF m 121 #[.val (.ref a0_), .val (.int p1), .val (.ref a2), .val (.int z2)] [(.int (p1 + (5 : Int32))), (.ref a0_)])) _
                refine st18.trans ?_
                show Steps p.tables e below (T18.setTop (mkF m 124 #[.val (.ref a0_), .val (.int p1), .val (.ref a2), .val (.int z2)] [(.int (own_cA v0 (p1 + (5 : Int32))))])) _
                refine XS.aloadN X18.here hx rfl (hb hby own_d35_124) rfl rfl ?_
                show Steps p.tables e below (T18.setTop (mkF m 125 #[.val (.ref a0_), .val (.int p1), .val (.ref a2), .val (.int z2)] [(.ref a2), (.int (own_cA v0 (p1 + (5 : Int32))))])) _
                refine XS.iconst X18.here hx rfl (hb hby own_d35_125) ?_
                show Steps p.tables e below (T18.setTop (mkF m 126 #[.val (.ref a0_), .val (.int p1), .val (.ref a2), .val (.int z2)] [(.int (5 : Int32)), (.ref a2), (.int (own_cA v0 (p1 + (5 : Int32))))])) _
                refine st19.trans ?_
                show Steps p.tables e below (T19.setTop (mkF m 129 #[.val (.ref a0_), .val (.int p1), .val (.ref a2), .val (.int z2)] [(.int (own_cA v2 (5 : Int32))), (.int (own_cA v0 (p1 + (5 : Int32))))])) _
                refine XS.icmpYes X19.here hx rfl (pc0 := 129) (pc' := 134) rfl (hb hby own_d35_129) rfl (teq (own_ixs hp hbq hk5 (by decide) hm)).1 (by decide) (by decide) ?_
                show Steps p.tables e below (T19.setTop (mkF m 134 #[.val (.ref a0_), .val (.int p1), .val (.ref a2), .val (.int z2)] [])) _
                refine XS.iconst X19.here hx rfl (hb hby own_d35_134) ?_
                show Steps p.tables e below (T19.setTop (mkF m 135 #[.val (.ref a0_), .val (.int p1), .val (.ref a2), .val (.int z2)] [(.int (1 : Int32))])) _
                exact q)
              obtain ⟨fs, hr, hrun, hended, hW, hsame⟩ := X19.leave (v := some (.int (1 : Int32))) (fun h => by rw [Bd.returns] at h; cases h)
              refine ⟨_, _, k0 _ (k20 _ ?_), hrun, hended, _, _, rfl, ?_, ⟨_, rfl⟩, hW, hsame.mono (by decide) (by decide)⟩
              · show Steps p.tables e below (T19.setTop (mkF m 135 #[.val (.ref a0_), .val (.int p1), .val (.ref a2), .val (.int z2)] [(.int (1 : Int32))])) _
                exact retN X19 hx (t := .boolean) Bd.returns (by simp) (hb hby own_d35_135) hr
              · show Q35 Z a0_ p1 a2 b0_ k0_ z0 v0 b2_ k2_ z2 v2 cs fo h0 n0 _ T19.heap _
                rw [e19]
                exact ⟨rfl, N19, rfl⟩
            ·
              have k21 : own_To p e below T16 (mkF m 135 #[.val (.ref a0_), .val (.int p1), .val (.ref a2), .val (.int z2)] [(.int (1 : Int32))]) s₁ (mkF m 0 #[.val (.ref a0_), .val (.int p1), .val (.ref a2), .unset] []) := fun t q => k17 t (by
                refine XS.icmpYes X16.here hx rfl (pc0 := 114) (pc' := 134) rfl (hb hby own_d35_114) rfl (flt hk5).2.2.2 (by decide) (by decide) ?_
                show Steps p.tables e below (T16.setTop (mkF m 134 #[.val (.ref a0_), .val (.int p1), .val (.ref a2), .val (.int z2)] [])) _
                refine XS.iconst X16.here hx rfl (hb hby own_d35_134) ?_
                show Steps p.tables e below (T16.setTop (mkF m 135 #[.val (.ref a0_), .val (.int p1), .val (.ref a2), .val (.int z2)] [(.int (1 : Int32))])) _
                exact q)
              obtain ⟨fs, hr, hrun, hended, hW, hsame⟩ := X16.leave (v := some (.int (1 : Int32))) (fun h => by rw [Bd.returns] at h; cases h)
              refine ⟨_, _, k0 _ (k21 _ ?_), hrun, hended, _, _, rfl, ?_, ⟨_, rfl⟩, hW, hsame.mono (by decide) (by decide)⟩
              · show Steps p.tables e below (T16.setTop (mkF m 135 #[.val (.ref a0_), .val (.int p1), .val (.ref a2), .val (.int z2)] [(.int (1 : Int32))])) _
                exact retN X16 hx (t := .boolean) Bd.returns (by simp) (hb hby own_d35_135) hr
              · show Q35 Z a0_ p1 a2 b0_ k0_ z0 v0 b2_ k2_ z2 v2 cs fo h0 n0 _ T16.heap _
                rw [e16]
                exact ⟨rfl, N16, rfl⟩
          ·
            have k22 : own_To p e below T13 (mkF m 135 #[.val (.ref a0_), .val (.int p1), .val (.ref a2), .val (.int z2)] [(.int (1 : Int32))]) s₁ (mkF m 0 #[.val (.ref a0_), .val (.int p1), .val (.ref a2), .unset] []) := fun t q => k14 t (by
              refine XS.icmpYes X13.here hx rfl (pc0 := 92) (pc' := 112) rfl (hb hby own_d35_92) rfl (flt hk4).2.2.2 (by decide) (by decide) ?_
              show Steps p.tables e below (T13.setTop (mkF m 112 #[.val (.ref a0_), .val (.int p1), .val (.ref a2), .val (.int z2)] [])) _
              refine XS.iloadN X13.here hx rfl (hb hby own_d35_112) rfl ?_
              show Steps p.tables e below (T13.setTop (mkF m 113 #[.val (.ref a0_), .val (.int p1), .val (.ref a2), .val (.int z2)] [(.int z2)])) _
              refine XS.iconst X13.here hx rfl (hb hby own_d35_113) ?_
              show Steps p.tables e below (T13.setTop (mkF m 114 #[.val (.ref a0_), .val (.int p1), .val (.ref a2), .val (.int z2)] [(.int (5 : Int32)), (.int z2)])) _
              refine XS.icmpYes X13.here hx rfl (pc0 := 114) (pc' := 134) rfl (hb hby own_d35_114) rfl (flt (own_nlt hk4 (by decide))).2.2.2 (by decide) (by decide) ?_
              show Steps p.tables e below (T13.setTop (mkF m 134 #[.val (.ref a0_), .val (.int p1), .val (.ref a2), .val (.int z2)] [])) _
              refine XS.iconst X13.here hx rfl (hb hby own_d35_134) ?_
              show Steps p.tables e below (T13.setTop (mkF m 135 #[.val (.ref a0_), .val (.int p1), .val (.ref a2), .val (.int z2)] [(.int (1 : Int32))])) _
              exact q)
            obtain ⟨fs, hr, hrun, hended, hW, hsame⟩ := X13.leave (v := some (.int (1 : Int32))) (fun h => by rw [Bd.returns] at h; cases h)
            refine ⟨_, _, k0 _ (k22 _ ?_), hrun, hended, _, _, rfl, ?_, ⟨_, rfl⟩, hW, hsame.mono (by decide) (by decide)⟩
            · show Steps p.tables e below (T13.setTop (mkF m 135 #[.val (.ref a0_), .val (.int p1), .val (.ref a2), .val (.int z2)] [(.int (1 : Int32))])) _
              exact retN X13 hx (t := .boolean) Bd.returns (by simp) (hb hby own_d35_135) hr
            · show Q35 Z a0_ p1 a2 b0_ k0_ z0 v0 b2_ k2_ z2 v2 cs fo h0 n0 _ T13.heap _
              rw [e13]
              exact ⟨rfl, N13, rfl⟩
        ·
          have k23 : own_To p e below T10 (mkF m 135 #[.val (.ref a0_), .val (.int p1), .val (.ref a2), .val (.int z2)] [(.int (1 : Int32))]) s₁ (mkF m 0 #[.val (.ref a0_), .val (.int p1), .val (.ref a2), .unset] []) := fun t q => k11 t (by
            refine XS.icmpYes X10.here hx rfl (pc0 := 70) (pc' := 90) rfl (hb hby own_d35_70) rfl (flt hk3).2.2.2 (by decide) (by decide) ?_
            show Steps p.tables e below (T10.setTop (mkF m 90 #[.val (.ref a0_), .val (.int p1), .val (.ref a2), .val (.int z2)] [])) _
            refine XS.iloadN X10.here hx rfl (hb hby own_d35_90) rfl ?_
            show Steps p.tables e below (T10.setTop (mkF m 91 #[.val (.ref a0_), .val (.int p1), .val (.ref a2), .val (.int z2)] [(.int z2)])) _
            refine XS.iconst X10.here hx rfl (hb hby own_d35_91) ?_
            show Steps p.tables e below (T10.setTop (mkF m 92 #[.val (.ref a0_), .val (.int p1), .val (.ref a2), .val (.int z2)] [(.int (4 : Int32)), (.int z2)])) _
            refine XS.icmpYes X10.here hx rfl (pc0 := 92) (pc' := 112) rfl (hb hby own_d35_92) rfl (flt (own_nlt hk3 (by decide))).2.2.2 (by decide) (by decide) ?_
            show Steps p.tables e below (T10.setTop (mkF m 112 #[.val (.ref a0_), .val (.int p1), .val (.ref a2), .val (.int z2)] [])) _
            refine XS.iloadN X10.here hx rfl (hb hby own_d35_112) rfl ?_
            show Steps p.tables e below (T10.setTop (mkF m 113 #[.val (.ref a0_), .val (.int p1), .val (.ref a2), .val (.int z2)] [(.int z2)])) _
            refine XS.iconst X10.here hx rfl (hb hby own_d35_113) ?_
            show Steps p.tables e below (T10.setTop (mkF m 114 #[.val (.ref a0_), .val (.int p1), .val (.ref a2), .val (.int z2)] [(.int (5 : Int32)), (.int z2)])) _
            refine XS.icmpYes X10.here hx rfl (pc0 := 114) (pc' := 134) rfl (hb hby own_d35_114) rfl (flt (own_nlt hk3 (by decide))).2.2.2 (by decide) (by decide) ?_
            show Steps p.tables e below (T10.setTop (mkF m 134 #[.val (.ref a0_), .val (.int p1), .val (.ref a2), .val (.int z2)] [])) _
            refine XS.iconst X10.here hx rfl (hb hby own_d35_134) ?_
            show Steps p.tables e below (T10.setTop (mkF m 135 #[.val (.ref a0_), .val (.int p1), .val (.ref a2), .val (.int z2)] [(.int (1 : Int32))])) _
            exact q)
          obtain ⟨fs, hr, hrun, hended, hW, hsame⟩ := X10.leave (v := some (.int (1 : Int32))) (fun h => by rw [Bd.returns] at h; cases h)
          refine ⟨_, _, k0 _ (k23 _ ?_), hrun, hended, _, _, rfl, ?_, ⟨_, rfl⟩, hW, hsame.mono (by decide) (by decide)⟩
          · show Steps p.tables e below (T10.setTop (mkF m 135 #[.val (.ref a0_), .val (.int p1), .val (.ref a2), .val (.int z2)] [(.int (1 : Int32))])) _
            exact retN X10 hx (t := .boolean) Bd.returns (by simp) (hb hby own_d35_135) hr
          · show Q35 Z a0_ p1 a2 b0_ k0_ z0 v0 b2_ k2_ z2 v2 cs fo h0 n0 _ T10.heap _
            rw [e10]
            exact ⟨rfl, N10, rfl⟩
      ·
        have k24 : own_To p e below T7 (mkF m 135 #[.val (.ref a0_), .val (.int p1), .val (.ref a2), .val (.int z2)] [(.int (1 : Int32))]) s₁ (mkF m 0 #[.val (.ref a0_), .val (.int p1), .val (.ref a2), .unset] []) := fun t q => k8 t (by
          refine XS.icmpYes X7.here hx rfl (pc0 := 48) (pc' := 68) rfl (hb hby own_d35_48) rfl (flt hk2).2.2.2 (by decide) (by decide) ?_
          show Steps p.tables e below (T7.setTop (mkF m 68 #[.val (.ref a0_), .val (.int p1), .val (.ref a2), .val (.int z2)] [])) _
          refine XS.iloadN X7.here hx rfl (hb hby own_d35_68) rfl ?_
          show Steps p.tables e below (T7.setTop (mkF m 69 #[.val (.ref a0_), .val (.int p1), .val (.ref a2), .val (.int z2)] [(.int z2)])) _
          refine XS.iconst X7.here hx rfl (hb hby own_d35_69) ?_
          show Steps p.tables e below (T7.setTop (mkF m 70 #[.val (.ref a0_), .val (.int p1), .val (.ref a2), .val (.int z2)] [(.int (3 : Int32)), (.int z2)])) _
          refine XS.icmpYes X7.here hx rfl (pc0 := 70) (pc' := 90) rfl (hb hby own_d35_70) rfl (flt (own_nlt hk2 (by decide))).2.2.2 (by decide) (by decide) ?_
          show Steps p.tables e below (T7.setTop (mkF m 90 #[.val (.ref a0_), .val (.int p1), .val (.ref a2), .val (.int z2)] [])) _
          refine XS.iloadN X7.here hx rfl (hb hby own_d35_90) rfl ?_
          show Steps p.tables e below (T7.setTop (mkF m 91 #[.val (.ref a0_), .val (.int p1), .val (.ref a2), .val (.int z2)] [(.int z2)])) _
          refine XS.iconst X7.here hx rfl (hb hby own_d35_91) ?_
          show Steps p.tables e below (T7.setTop (mkF m 92 #[.val (.ref a0_), .val (.int p1), .val (.ref a2), .val (.int z2)] [(.int (4 : Int32)), (.int z2)])) _
          refine XS.icmpYes X7.here hx rfl (pc0 := 92) (pc' := 112) rfl (hb hby own_d35_92) rfl (flt (own_nlt hk2 (by decide))).2.2.2 (by decide) (by decide) ?_
          show Steps p.tables e below (T7.setTop (mkF m 112 #[.val (.ref a0_), .val (.int p1), .val (.ref a2), .val (.int z2)] [])) _
          refine XS.iloadN X7.here hx rfl (hb hby own_d35_112) rfl ?_
          show Steps p.tables e below (T7.setTop (mkF m 113 #[.val (.ref a0_), .val (.int p1), .val (.ref a2), .val (.int z2)] [(.int z2)])) _
          refine XS.iconst X7.here hx rfl (hb hby own_d35_113) ?_
          show Steps p.tables e below (T7.setTop (mkF m 114 #[.val (.ref a0_), .val (.int p1), .val (.ref a2), .val (.int z2)] [(.int (5 : Int32)), (.int z2)])) _
          refine XS.icmpYes X7.here hx rfl (pc0 := 114) (pc' := 134) rfl (hb hby own_d35_114) rfl (flt (own_nlt hk2 (by decide))).2.2.2 (by decide) (by decide) ?_
          show Steps p.tables e below (T7.setTop (mkF m 134 #[.val (.ref a0_), .val (.int p1), .val (.ref a2), .val (.int z2)] [])) _
          refine XS.iconst X7.here hx rfl (hb hby own_d35_134) ?_
          show Steps p.tables e below (T7.setTop (mkF m 135 #[.val (.ref a0_), .val (.int p1), .val (.ref a2), .val (.int z2)] [(.int (1 : Int32))])) _
          exact q)
        obtain ⟨fs, hr, hrun, hended, hW, hsame⟩ := X7.leave (v := some (.int (1 : Int32))) (fun h => by rw [Bd.returns] at h; cases h)
        refine ⟨_, _, k0 _ (k24 _ ?_), hrun, hended, _, _, rfl, ?_, ⟨_, rfl⟩, hW, hsame.mono (by decide) (by decide)⟩
        · show Steps p.tables e below (T7.setTop (mkF m 135 #[.val (.ref a0_), .val (.int p1), .val (.ref a2), .val (.int z2)] [(.int (1 : Int32))])) _
          exact retN X7 hx (t := .boolean) Bd.returns (by simp) (hb hby own_d35_135) hr
        · show Q35 Z a0_ p1 a2 b0_ k0_ z0 v0 b2_ k2_ z2 v2 cs fo h0 n0 _ T7.heap _
          rw [e7]
          exact ⟨rfl, N7, rfl⟩
    ·
      have k25 : own_To p e below T4 (mkF m 114 #[.val (.ref a0_), .val (.int p1), .val (.ref a2), .val (.int z2)] [(.int (5 : Int32)), (.int z2)]) s₁ (mkF m 0 #[.val (.ref a0_), .val (.int p1), .val (.ref a2), .unset] []) := fun t q => k5 t (by
        refine XS.icmpYes X4.here hx rfl (pc0 := 26) (pc' := 46) rfl (hb hby own_d35_26) rfl (flt hk1).2.2.2 (by decide) (by decide) ?_
        show Steps p.tables e below (T4.setTop (mkF m 46 #[.val (.ref a0_), .val (.int p1), .val (.ref a2), .val (.int z2)] [])) _
        refine XS.iloadN X4.here hx rfl (hb hby own_d35_46) rfl ?_
        show Steps p.tables e below (T4.setTop (mkF m 47 #[.val (.ref a0_), .val (.int p1), .val (.ref a2), .val (.int z2)] [(.int z2)])) _
        refine XS.iconst X4.here hx rfl (hb hby own_d35_47) ?_
        show Steps p.tables e below (T4.setTop (mkF m 48 #[.val (.ref a0_), .val (.int p1), .val (.ref a2), .val (.int z2)] [(.int (2 : Int32)), (.int z2)])) _
        refine XS.icmpYes X4.here hx rfl (pc0 := 48) (pc' := 68) rfl (hb hby own_d35_48) rfl (flt (own_nlt hk1 (by decide))).2.2.2 (by decide) (by decide) ?_
        show Steps p.tables e below (T4.setTop (mkF m 68 #[.val (.ref a0_), .val (.int p1), .val (.ref a2), .val (.int z2)] [])) _
        refine XS.iloadN X4.here hx rfl (hb hby own_d35_68) rfl ?_
        show Steps p.tables e below (T4.setTop (mkF m 69 #[.val (.ref a0_), .val (.int p1), .val (.ref a2), .val (.int z2)] [(.int z2)])) _
        refine XS.iconst X4.here hx rfl (hb hby own_d35_69) ?_
        show Steps p.tables e below (T4.setTop (mkF m 70 #[.val (.ref a0_), .val (.int p1), .val (.ref a2), .val (.int z2)] [(.int (3 : Int32)), (.int z2)])) _
        refine XS.icmpYes X4.here hx rfl (pc0 := 70) (pc' := 90) rfl (hb hby own_d35_70) rfl (flt (own_nlt hk1 (by decide))).2.2.2 (by decide) (by decide) ?_
        show Steps p.tables e below (T4.setTop (mkF m 90 #[.val (.ref a0_), .val (.int p1), .val (.ref a2), .val (.int z2)] [])) _
        refine XS.iloadN X4.here hx rfl (hb hby own_d35_90) rfl ?_
        show Steps p.tables e below (T4.setTop (mkF m 91 #[.val (.ref a0_), .val (.int p1), .val (.ref a2), .val (.int z2)] [(.int z2)])) _
        refine XS.iconst X4.here hx rfl (hb hby own_d35_91) ?_
        show Steps p.tables e below (T4.setTop (mkF m 92 #[.val (.ref a0_), .val (.int p1), .val (.ref a2), .val (.int z2)] [(.int (4 : Int32)), (.int z2)])) _
        refine XS.icmpYes X4.here hx rfl (pc0 := 92) (pc' := 112) rfl (hb hby own_d35_92) rfl (flt (own_nlt hk1 (by decide))).2.2.2 (by decide) (by decide) ?_
        show Steps p.tables e below (T4.setTop (mkF m 112 #[.val (.ref a0_), .val (.int p1), .val (.ref a2), .val (.int z2)] [])) _
        refine XS.iloadN X4.here hx rfl (hb hby own_d35_112) rfl ?_
        show Steps p.tables e below (T4.setTop (mkF m 113 #[.val (.ref a0_), .val (.int p1), .val (.ref a2), .val (.int z2)] [(.int z2)])) _
        refine XS.iconst X4.here hx rfl (hb hby own_d35_113) ?_
        show Steps p.tables e below (T4.setTop (mkF m 114 #[.val (.ref a0_), .val (.int p1), .val (.ref a2), .val (.int z2)] [(.int (5 : Int32)), (.int z2)])) _
        exact q)
      have k26 : own_To p e below T4 (mkF m 135 #[.val (.ref a0_), .val (.int p1), .val (.ref a2), .val (.int z2)] [(.int (1 : Int32))]) s₁ (mkF m 0 #[.val (.ref a0_), .val (.int p1), .val (.ref a2), .unset] []) := fun t q => k25 t (by
        refine XS.icmpYes X4.here hx rfl (pc0 := 114) (pc' := 134) rfl (hb hby own_d35_114) rfl (flt (own_nlt hk1 (by decide))).2.2.2 (by decide) (by decide) ?_
        show Steps p.tables e below (T4.setTop (mkF m 134 #[.val (.ref a0_), .val (.int p1), .val (.ref a2), .val (.int z2)] [])) _
        refine XS.iconst X4.here hx rfl (hb hby own_d35_134) ?_
        show Steps p.tables e below (T4.setTop (mkF m 135 #[.val (.ref a0_), .val (.int p1), .val (.ref a2), .val (.int z2)] [(.int (1 : Int32))])) _
        exact q)
      obtain ⟨fs, hr, hrun, hended, hW, hsame⟩ := X4.leave (v := some (.int (1 : Int32))) (fun h => by rw [Bd.returns] at h; cases h)
      refine ⟨_, _, k0 _ (k26 _ ?_), hrun, hended, _, _, rfl, ?_, ⟨_, rfl⟩, hW, hsame.mono (by decide) (by decide)⟩
      · show Steps p.tables e below (T4.setTop (mkF m 135 #[.val (.ref a0_), .val (.int p1), .val (.ref a2), .val (.int z2)] [(.int (1 : Int32))])) _
        exact retN X4 hx (t := .boolean) Bd.returns (by simp) (hb hby own_d35_135) hr
      · show Q35 Z a0_ p1 a2 b0_ k0_ z0 v0 b2_ k2_ z2 v2 cs fo h0 n0 _ T4.heap _
        rw [e4]
        exact ⟨rfl, N4, rfl⟩
  ·
    have k27 : own_To p e below T1 (mkF m 92 #[.val (.ref a0_), .val (.int p1), .val (.ref a2), .val (.int z2)] [(.int (4 : Int32)), (.int z2)]) s₁ (mkF m 0 #[.val (.ref a0_), .val (.int p1), .val (.ref a2), .unset] []) := fun t q => k2 t (by
      refine XS.ifYes X1.here hx rfl (pc0 := 6) (pc' := 24) rfl (hb hby own_d35_6) rfl ((if0 _ _).trans (flt hk0).2.2.2) (by decide) (by decide) ?_
      show Steps p.tables e below (T1.setTop (mkF m 24 #[.val (.ref a0_), .val (.int p1), .val (.ref a2), .val (.int z2)] [])) _
      refine XS.iloadN X1.here hx rfl (hb hby own_d35_24) rfl ?_
      show Steps p.tables e below (T1.setTop (mkF m 25 #[.val (.ref a0_), .val (.int p1), .val (.ref a2), .val (.int z2)] [(.int z2)])) _
      refine XS.iconst X1.here hx rfl (hb hby own_d35_25) ?_
      show Steps p.tables e below (T1.setTop (mkF m 26 #[.val (.ref a0_), .val (.int p1), .val (.ref a2), .val (.int z2)] [(.int (1 : Int32)), (.int z2)])) _
      refine XS.icmpYes X1.here hx rfl (pc0 := 26) (pc' := 46) rfl (hb hby own_d35_26) rfl (flt (own_nlt hk0 (by decide))).2.2.2 (by decide) (by decide) ?_
      show Steps p.tables e below (T1.setTop (mkF m 46 #[.val (.ref a0_), .val (.int p1), .val (.ref a2), .val (.int z2)] [])) _
      refine XS.iloadN X1.here hx rfl (hb hby own_d35_46) rfl ?_
      show Steps p.tables e below (T1.setTop (mkF m 47 #[.val (.ref a0_), .val (.int p1), .val (.ref a2), .val (.int z2)] [(.int z2)])) _
      refine XS.iconst X1.here hx rfl (hb hby own_d35_47) ?_
      show Steps p.tables e below (T1.setTop (mkF m 48 #[.val (.ref a0_), .val (.int p1), .val (.ref a2), .val (.int z2)] [(.int (2 : Int32)), (.int z2)])) _
      refine XS.icmpYes X1.here hx rfl (pc0 := 48) (pc' := 68) rfl (hb hby own_d35_48) rfl (flt (own_nlt hk0 (by decide))).2.2.2 (by decide) (by decide) ?_
      show Steps p.tables e below (T1.setTop (mkF m 68 #[.val (.ref a0_), .val (.int p1), .val (.ref a2), .val (.int z2)] [])) _
      refine XS.iloadN X1.here hx rfl (hb hby own_d35_68) rfl ?_
      show Steps p.tables e below (T1.setTop (mkF m 69 #[.val (.ref a0_), .val (.int p1), .val (.ref a2), .val (.int z2)] [(.int z2)])) _
      refine XS.iconst X1.here hx rfl (hb hby own_d35_69) ?_
      show Steps p.tables e below (T1.setTop (mkF m 70 #[.val (.ref a0_), .val (.int p1), .val (.ref a2), .val (.int z2)] [(.int (3 : Int32)), (.int z2)])) _
      refine XS.icmpYes X1.here hx rfl (pc0 := 70) (pc' := 90) rfl (hb hby own_d35_70) rfl (flt (own_nlt hk0 (by decide))).2.2.2 (by decide) (by decide) ?_
      show Steps p.tables e below (T1.setTop (mkF m 90 #[.val (.ref a0_), .val (.int p1), .val (.ref a2), .val (.int z2)] [])) _
      refine XS.iloadN X1.here hx rfl (hb hby own_d35_90) rfl ?_
      show Steps p.tables e below (T1.setTop (mkF m 91 #[.val (.ref a0_), .val (.int p1), .val (.ref a2), .val (.int z2)] [(.int z2)])) _
      refine XS.iconst X1.here hx rfl (hb hby own_d35_91) ?_
      show Steps p.tables e below (T1.setTop (mkF m 92 #[.val (.ref a0_), .val (.int p1), .val (.ref a2), .val (.int z2)] [(.int (4 : Int32)), (.int z2)])) _
      exact q)
    have k28 : own_To p e below T1 (mkF m 135 #[.val (.ref a0_), .val (.int p1), .val (.ref a2), .val (.int z2)] [(.int (1 : Int32))]) s₁ (mkF m 0 #[.val (.ref a0_), .val (.int p1), .val (.ref a2), .unset] []) := fun t q => k27 t (by
      refine XS.icmpYes X1.here hx rfl (pc0 := 92) (pc' := 112) rfl (hb hby own_d35_92) rfl (flt (own_nlt hk0 (by decide))).2.2.2 (by decide) (by decide) ?_
      show Steps p.tables e below (T1.setTop (mkF m 112 #[.val (.ref a0_), .val (.int p1), .val (.ref a2), .val (.int z2)] [])) _
      refine XS.iloadN X1.here hx rfl (hb hby own_d35_112) rfl ?_
      show Steps p.tables e below (T1.setTop (mkF m 113 #[.val (.ref a0_), .val (.int p1), .val (.ref a2), .val (.int z2)] [(.int z2)])) _
      refine XS.iconst X1.here hx rfl (hb hby own_d35_113) ?_
      show Steps p.tables e below (T1.setTop (mkF m 114 #[.val (.ref a0_), .val (.int p1), .val (.ref a2), .val (.int z2)] [(.int (5 : Int32)), (.int z2)])) _
      refine XS.icmpYes X1.here hx rfl (pc0 := 114) (pc' := 134) rfl (hb hby own_d35_114) rfl (flt (own_nlt hk0 (by decide))).2.2.2 (by decide) (by decide) ?_
      show Steps p.tables e below (T1.setTop (mkF m 134 #[.val (.ref a0_), .val (.int p1), .val (.ref a2), .val (.int z2)] [])) _
      refine XS.iconst X1.here hx rfl (hb hby own_d35_134) ?_
      show Steps p.tables e below (T1.setTop (mkF m 135 #[.val (.ref a0_), .val (.int p1), .val (.ref a2), .val (.int z2)] [(.int (1 : Int32))])) _
      exact q)
    obtain ⟨fs, hr, hrun, hended, hW, hsame⟩ := X1.leave (v := some (.int (1 : Int32))) (fun h => by rw [Bd.returns] at h; cases h)
    refine ⟨_, _, k0 _ (k28 _ ?_), hrun, hended, _, _, rfl, ?_, ⟨_, rfl⟩, hW, hsame.mono (by decide) (by decide)⟩
    · show Steps p.tables e below (T1.setTop (mkF m 135 #[.val (.ref a0_), .val (.int p1), .val (.ref a2), .val (.int z2)] [(.int (1 : Int32))])) _
      exact retN X1 hx (t := .boolean) Bd.returns (by simp) (hb hby own_d35_135) hr
    · show Q35 Z a0_ p1 a2 b0_ k0_ z0 v0 b2_ k2_ z2 v2 cs fo h0 n0 _ T1.heap _
      rw [e1]
      exact ⟨rfl, N1, rfl⟩
theorem own_d18_0 : decode jdk_42_method_147_code 0 = .ok (.aload_n 0, 1) := by decide +kernel
theorem own_d18_1 : decode jdk_42_method_147_code 1 = .ok (.invokevirtual 335, 3) := by decide +kernel
theorem own_d18_4 : decode jdk_42_method_147_code 4 = .ok (.iload_n 3, 1) := by decide +kernel
theorem own_d18_5 : decode jdk_42_method_147_code 5 = .ok (.if_icmp .ne 23, 3) := by decide +kernel
theorem own_d18_8 : decode jdk_42_method_147_code 8 = .ok (.aload_n 0, 1) := by decide +kernel
theorem own_d18_9 : decode jdk_42_method_147_code 9 = .ok (.getfield 9, 3) := by decide +kernel
theorem own_d18_12 : decode jdk_42_method_147_code 12 = .ok (.iconst 0, 1) := by decide +kernel
theorem own_d18_13 : decode jdk_42_method_147_code 13 = .ok (.aload_n 1, 1) := by decide +kernel
theorem own_d18_14 : decode jdk_42_method_147_code 14 = .ok (.iload_n 2, 1) := by decide +kernel
theorem own_d18_15 : decode jdk_42_method_147_code 15 = .ok (.iload_n 3, 1) := by decide +kernel
theorem own_d18_16 : decode jdk_42_method_147_code 16 = .ok (.ishl, 1) := by decide +kernel
theorem own_d18_17 : decode jdk_42_method_147_code 17 = .ok (.aload_n 0, 1) := by decide +kernel
theorem own_d18_18 : decode jdk_42_method_147_code 18 = .ok (.getfield 9, 3) := by decide +kernel
theorem own_d18_21 : decode jdk_42_method_147_code 21 = .ok (.arraylength, 1) := by decide +kernel
theorem own_d18_22 : decode jdk_42_method_147_code 22 = .ok (.invokestatic 212, 3) := by decide +kernel
theorem own_d18_25 : decode jdk_42_method_147_code 25 = .ok (.goto 18, 3) := by decide +kernel
theorem own_d18_43 : decode jdk_42_method_147_code 43 = .ok (.return_, 1) := by decide +kernel
theorem own_pn18 : plainName "java/lang/String" = true := by first | (simp [plainName, overriddenIn]; done) | decide +kernel
theorem own_ef18 (m : MethodId) (x0 : Addr) (x1 : Addr) (x2 : Int32) : entryFrame m #[(.ref x0), (.ref x1), (.int x2), (.int (0 : Int32))] 4 = mkF m 0 #[.val (.ref x0), .val (.ref x1), .val (.int x2), .val (.int (0 : Int32))] [] := by first | (simp [entryFrame, mkF, argsToLocals, Value.category]; done) | rfl
def Q18 (Z : State) (a0_ : Addr) (a1 : Addr) (p2 : Int32) (b0_ : Addr) (k0_ : ClassId) (z0 : Int32) (v0 : List Value) (cs : Int32) (kd_ : ClassId) (zd_ : Int32) (vd_ : List Value) (h0 : Heap) (n0 : Nat) (v : Option Value) (h : Heap) (L : List Loc) : Prop := v = none ∧ Fr n0 L ∧ Keep h0 h [a1] ∧ Arv Z h a1 kd_ .byte zd_ (vd_ ++ v0) (.int (0 : Int32))
set_option maxRecDepth 65536 in
set_option maxHeartbeats 40000000 in
theorem rm18 (l : Launch) (Z : State) (a0 : Array Value) (hw : ∀ d ∈ tables_1, d.before a0 Z = true) (ws : List Jvm.Cond) (a0_ : Addr) (a1 : Addr) (p2 : Int32) (b0_ : Addr) (k0_ : ClassId) (z0 : Int32) (v0 : List Value) (cs : Int32) (kd_ : ClassId) (zd_ : Int32) (vd_ : List Value) (h0 : Heap) (n0 : Nat) (Z0 : n0 ≤ h0.size) (Es0 : Exa Z h0 a0_ "java/lang/String") (Fcs0 : Fld Z h0 a0_ "java/lang/String" "coder" "B" (.int (0 : Int32))) (Fvs0 : Fld Z h0 a0_ "java/lang/String" "value" "[B" (.ref b0_)) (Vs0 : Arv Z h0 b0_ k0_ .byte z0 v0 (.int (0 : Int32))) (hl0 : v0.length = z0.toNatClampNeg) (SC : Sta Z Z.heap "java/lang/String" "COMPACT_STRINGS" "Z" (.int cs)) (hcs : ¬ cs = (0 : Int32)) (O0 : Old Z n0 h0) (D1 : Arv Z h0 a1 kd_ .byte zd_ vd_ (.int (0 : Int32))) (gd_ : n0 ≤ a1) (hp2 : ¬ p2 < (0 : Int32)) (hbd : p2.toNatClampNeg + z0.toNatClampNeg ≤ zd_.toNatClampNeg) (hld : vd_.length = p2.toNatClampNeg) :
    MetFree l (⟨"java/lang/String", "getBytes", "([BIB)V"⟩ : MethodName) (head1 (Jvm.Cond.code (⟨"java/lang/String", "getBytes", "([BIB)V"⟩ : MethodName) jdk_42_method_147_code 4 none :: ws) ({ frames := 1, cells := 0, slots := 0, locals := 18 } : Room)) (fun a U => a = #[(.ref a0_), (.ref a1), (.int p2), (.int (0 : Int32))] ∧ Z.Warmed39 U.vm ∧ U.heap = h0) (fun _ _ _ _ _ => True) (fun _ U o U' => ∃ v L, o = .returned v ∧ Q18 Z a0_ a1 p2 b0_ k0_ z0 v0 cs kd_ zd_ vd_ h0 n0 v U'.heap L ∧ FrameEnd U o U' L ({ frames := 1, cells := 0, slots := 0, locals := 18 } : Room).cells ({ frames := 1, cells := 0, slots := 0, locals := 18 } : Room).slots) := by
  refine MetFree.of_bodySF (plainFor_of_name own_pn18) hisR ?_
  intro p e s m args below meth c s₁ Bd hml0 hP hK
  obtain ⟨rfl, hZ, hh⟩ := hP
  have hx := Bd.exec
  have hby := Bd.bytes
  have hml : c.maxLocals = 4 := hml0
  have hown : s.vm.findClass "java/lang/String" = some m.cls := findClass_of_methodNamed Bd.named
  have hnm := (name_of_methodNamed Bd.named Bd.method).1
  have X0 : Stand p l e ({ frames := 1, cells := 0, slots := 0, locals := 18 } : Room) s m #[(.ref a0_), (.ref a1), (.int p2), (.int (0 : Int32))] below meth c s₁ [] 0 0 := Stand.of_body Bd
  have e0 : s₁.heap = h0 := by rw [← hh, Bd.state]; rfl
  have N0 := Fr.nil n0
  have k0 : own_To p e below s₁ (mkF m 0 #[.val (.ref a0_), .val (.ref a1), .val (.int p2), .val (.int (0 : Int32))] []) s₁ (entryFrame m #[(.ref a0_), (.ref a1), (.int p2), (.int (0 : Int32))] 4) := fun t k => castTop (own_ef18 m a0_ a1 p2) k
  have ki : own_To p e below s₁ (mkF m 0 #[.val (.ref a0_), .val (.ref a1), .val (.int p2), .val (.int (0 : Int32))] []) s₁ (mkF m 0 #[.val (.ref a0_), .val (.ref a1), .val (.int p2), .val (.int (0 : Int32))] []) := fun t q => q
  obtain ⟨cq1, kq1, q1a, q1b, q1c⟩ := isOf hZ e0 Es0
  obtain ⟨_, _, ⟨T1, L1, kk1, n1⟩, -, X1, ⟨Lc1, hQ1, l1, y1, z1⟩, st1⟩ := X0.virtualBack hx (y := (⟨"java/lang/String", "coder", "()B"⟩ : MethodName)) (z := (⟨"java/lang/String", "coder", "()B"⟩ : MethodName)) hown (mvT hZ (hw _ (List.mem_of_getElem? (i := 76) rfl))) (mvT hZ (hw _ (List.mem_of_getElem? (i := 77) rfl))) (notFace_of_selects (args := #[]) (mvT hZ (hw _ (List.mem_of_getElem? (i := 79) rfl)))) (mvT hZ (hw _ (List.mem_of_getElem? (i := 79) rfl))) (mvT hZ (hw _ (List.mem_of_getElem? (i := 78) rfl))) (by decide) (backOf (W := 0) (rm14 l Z a0 hw [] a0_ b0_ k0_ z0 v0 cs h0 n0 Z0 Es0 Fcs0 Fvs0 Vs0 hl0 SC hcs O0) hZ (hw _ (List.mem_of_getElem? (i := 80) rfl)) (hw _ (List.mem_of_getElem? (i := 6) rfl)) (by decide) (by decide)) q1a q1c (g := (mkF m 1 #[.val (.ref a0_), .val (.ref a1), .val (.int p2), .val (.int (0 : Int32))] [(.ref a0_)])) rfl (by rw [hml]; rfl) (Steps.refl _) (argsL := []) (rest := []) (lenOf own_pd0 rfl) rfl (by show 2 * 0 + _ ≤ _; exact Nat.le_of_eq rfl) (hb hby own_d18_1) (fun _ _ => ⟨rfl, e0, (by decide : 0 + 0 ≤ _), (by decide : 0 + 0 ≤ _)⟩)
  dsimp only [Pt.U, Pt.locs, Pt.cells, Pt.slots] at X1 l1 y1 z1 st1 hQ1
  subst l1 y1 z1
  obtain ⟨rfl, N1q, e1⟩ := hQ1
  have N1 := Fr.app N0 N1q
  obtain ⟨T2, X2, e2, st2⟩ := getF X1 hx hZ hown (host := "") (Or.inl (hw _ (List.mem_of_getElem? (i := 24) rfl))) Via.refl e1 Fvs0 (g := (mkF m 9 #[.val (.ref a0_), .val (.ref a1), .val (.int p2), .val (.int (0 : Int32))] [(.ref a0_)])) rfl rfl (hb hby own_d18_9)
  have q0 := own_shl0 p2
  have k3 : own_To p e below T2 (mkF m 17 #[.val (.ref a0_), .val (.ref a1), .val (.int p2), .val (.int (0 : Int32))] [(.int (p2 <<< ((0 : Int32) &&& 31))), (.ref a1), (.int (0 : Int32)), (.ref b0_)]) s₁ (mkF m 0 #[.val (.ref a0_), .val (.ref a1), .val (.int p2), .val (.int (0 : Int32))] []) := fun t q => ki t (by
    refine XS.aloadN X0.here hx rfl (hb hby own_d18_0) rfl rfl ?_
    show Steps p.tables e below (s₁.setTop (mkF m 1 #[.val (.ref a0_), .val (.ref a1), .val (.int p2), .val (.int (0 : Int32))] [(.ref a0_)])) _
    refine st1.trans ?_
    show Steps p.tables e below (T1.setTop (mkF m 4 #[.val (.ref a0_), .val (.ref a1), .val (.int p2), .val (.int (0 : Int32))] [(.int (0 : Int32))])) _
    refine XS.iloadN X1.here hx rfl (hb hby own_d18_4) rfl ?_
    show Steps p.tables e below (T1.setTop (mkF m 5 #[.val (.ref a0_), .val (.ref a1), .val (.int p2), .val (.int (0 : Int32))] [(.int (0 : Int32)), (.int (0 : Int32))])) _
    refine XS.icmpNo X1.here hx rfl (hb hby own_d18_5) rfl (teq rfl).2 ?_
    show Steps p.tables e below (T1.setTop (mkF m 8 #[.val (.ref a0_), .val (.ref a1), .val (.int p2), .val (.int (0 : Int32))] [])) _
    refine XS.aloadN X1.here hx rfl (hb hby own_d18_8) rfl rfl ?_
    show Steps p.tables e below (T1.setTop (mkF m 9 #[.val (.ref a0_), .val (.ref a1), .val (.int p2), .val (.int (0 : Int32))] [(.ref a0_)])) _
    refine st2 _ ?_
    show Steps p.tables e below (T2.setTop (mkF m 12 #[.val (.ref a0_), .val (.ref a1), .val (.int p2), .val (.int (0 : Int32))] [(.ref b0_)])) _
    refine XS.iconst X2.here hx rfl (hb hby own_d18_12) ?_
    show Steps p.tables e below (T2.setTop (mkF m 13 #[.val (.ref a0_), .val (.ref a1), .val (.int p2), .val (.int (0 : Int32))] [(.int (0 : Int32)), (.ref b0_)])) _
    refine XS.aloadN X2.here hx rfl (hb hby own_d18_13) rfl rfl ?_
    show Steps p.tables e below (T2.setTop (mkF m 14 #[.val (.ref a0_), .val (.ref a1), .val (.int p2), .val (.int (0 : Int32))] [(.ref a1), (.int (0 : Int32)), (.ref b0_)])) _
    refine XS.iloadN X2.here hx rfl (hb hby own_d18_14) rfl ?_
    show Steps p.tables e below (T2.setTop (mkF m 15 #[.val (.ref a0_), .val (.ref a1), .val (.int p2), .val (.int (0 : Int32))] [(.int p2), (.ref a1), (.int (0 : Int32)), (.ref b0_)])) _
    refine XS.iloadN X2.here hx rfl (hb hby own_d18_15) rfl ?_
    show Steps p.tables e below (T2.setTop (mkF m 16 #[.val (.ref a0_), .val (.ref a1), .val (.int p2), .val (.int (0 : Int32))] [(.int (0 : Int32)), (.int p2), (.ref a1), (.int (0 : Int32)), (.ref b0_)])) _
    refine XS.ishl X2.here hx rfl (hb hby own_d18_16) rfl ?_
    show Steps p.tables e below (T2.setTop (mkF m 17 #[.val (.ref a0_), .val (.ref a1), .val (.int p2), .val (.int (0 : Int32))] [(.int (p2 <<< ((0 : Int32) &&& 31))), (.ref a1), (.int (0 : Int32)), (.ref b0_)])) _
    exact q)
  have k4 : own_To p e below T2 (mkF m 17 #[.val (.ref a0_), .val (.ref a1), .val (.int p2), .val (.int (0 : Int32))] [(.int p2), (.ref a1), (.int (0 : Int32)), (.ref b0_)]) s₁ (mkF m 0 #[.val (.ref a0_), .val (.ref a1), .val (.int p2), .val (.int (0 : Int32))] []) := by rw [q0] at k3; exact k3
  have q1 := own_arvnn Vs0
  obtain ⟨T5, X5, e5, st5⟩ := getF X2 hx hZ hown (host := "") (Or.inl (hw _ (List.mem_of_getElem? (i := 24) rfl))) Via.refl e2 Fvs0 (g := (mkF m 18 #[.val (.ref a0_), .val (.ref a1), .val (.int p2), .val (.int (0 : Int32))] [(.ref a0_), (.int p2), (.ref a1), (.int (0 : Int32)), (.ref b0_)])) rfl rfl (hb hby own_d18_18)
  obtain ⟨clr6, Arr6, qr6, Sr6, Mr6, Hhr6, Gr6⟩ := id Vs0
  obtain ⟨T7, h7, L7, X7, e7, N7, K7, V7, st7⟩ := own_cp X5 hx hZ hown (hw _ (List.mem_of_getElem? (i := 104) rfl)) (hw _ (List.mem_of_getElem? (i := 107) rfl)) (hw _ (List.mem_of_getElem? (i := 105) rfl)) (hw _ (List.mem_of_getElem? (i := 106) rfl)) e5 (ty := .byte) rfl Vs0 D1 (hp2) (q1) (Nat.le_refl _) (hbd) (hld) (Nat.le_of_eq hl0) N1 gd_ (g := (mkF m 22 #[.val (.ref a0_), .val (.ref a1), .val (.int p2), .val (.int (0 : Int32))] [(.int z0), (.int p2), (.ref a1), (.int (0 : Int32)), (.ref b0_)])) rfl (by rw [hml]; rfl) (rest := []) rfl (hb hby own_d18_22) (by decide) (W := 0) (by show 2 * 0 + _ ≤ _; exact Nat.le_of_eq rfl) (by decide)
  have K8 : Keep h0 h7 [a1] := ((Keep.refl h0 [a1]).trans K7 (allS (P := fun x => x ∈ ([a1] : List Addr) ∨ h0.size ≤ x) (Or.inl (List.mem_of_getElem? (i := 0) rfl)) all0))
  have k9 : own_To p e below T7 (mkF m 43 #[.val (.ref a0_), .val (.ref a1), .val (.int p2), .val (.int (0 : Int32))] []) s₁ (mkF m 0 #[.val (.ref a0_), .val (.ref a1), .val (.int p2), .val (.int (0 : Int32))] []) := fun t q => k4 t (by
    refine XS.aloadN X2.here hx rfl (hb hby own_d18_17) rfl rfl ?_
    show Steps p.tables e below (T2.setTop (mkF m 18 #[.val (.ref a0_), .val (.ref a1), .val (.int p2), .val (.int (0 : Int32))] [(.ref a0_), (.int p2), (.ref a1), (.int (0 : Int32)), (.ref b0_)])) _
    refine st5 _ ?_
    show Steps p.tables e below (T5.setTop (mkF m 21 #[.val (.ref a0_), .val (.ref a1), .val (.int p2), .val (.int (0 : Int32))] [(.ref b0_), (.int p2), (.ref a1), (.int (0 : Int32)), (.ref b0_)])) _
    refine X5.arraylength hx (by rw [e5]; exact Arr6.1) (State.isArrayOf_alike hZ.alike Arr6.2.1) (g := (mkF m 21 #[.val (.ref a0_), .val (.ref a1), .val (.int p2), .val (.int (0 : Int32))] [(.ref b0_), (.int p2), (.ref a1), (.int (0 : Int32)), (.ref b0_)])) rfl rfl (hb hby own_d18_21) _ ?_
    rw [len_of Sr6 Mr6]
    show Steps p.tables e below (T5.setTop (mkF m 22 #[.val (.ref a0_), .val (.ref a1), .val (.int p2), .val (.int (0 : Int32))] [(.int z0), (.int p2), (.ref a1), (.int (0 : Int32)), (.ref b0_)])) _
    refine st7 _ ?_
    show Steps p.tables e below (T7.setTop (mkF m 25 #[.val (.ref a0_), .val (.ref a1), .val (.int p2), .val (.int (0 : Int32))] [])) _
    refine XS.goto X7.here hx rfl (pc0 := 25) (pc' := 43) rfl (hb hby own_d18_25) (by decide) (by decide) ?_
    show Steps p.tables e below (T7.setTop (mkF m 43 #[.val (.ref a0_), .val (.ref a1), .val (.int p2), .val (.int (0 : Int32))] [])) _
    exact q)
  obtain ⟨fs, hr, hrun, hended, hW, hsame⟩ := X7.leave (v := none) (fun _ => rfl)
  refine ⟨_, _, k0 _ (k9 _ ?_), hrun, hended, _, _, rfl, ?_, ⟨_, rfl⟩, hW, hsame.mono (by decide) (by decide)⟩
  · show Steps p.tables e below (T7.setTop (mkF m 43 #[.val (.ref a0_), .val (.ref a1), .val (.int p2), .val (.int (0 : Int32))] [])) _
    exact X7.returnOut hx Bd.returns (hb hby own_d18_43) hr
  · show Q18 Z a0_ a1 p2 b0_ k0_ z0 v0 cs kd_ zd_ vd_ h0 n0 _ T7.heap _
    rw [e7]
    exact ⟨rfl, N7, K8, V7⟩
theorem own_d17_0 : decode jdk_68_method_71_code 0 = .ok (.getstatic 18, 3) := by decide +kernel
theorem own_d17_3 : decode jdk_68_method_71_code 3 = .ok (.ifCond .eq 18, 3) := by decide +kernel
theorem own_d17_6 : decode jdk_68_method_71_code 6 = .ok (.aload_n 0, 1) := by decide +kernel
theorem own_d17_7 : decode jdk_68_method_71_code 7 = .ok (.getfield 22, 3) := by decide +kernel
theorem own_d17_10 : decode jdk_68_method_71_code 10 = .ok (.aload_n 1, 1) := by decide +kernel
theorem own_d17_11 : decode jdk_68_method_71_code 11 = .ok (.invokevirtual 40, 3) := by decide +kernel
theorem own_d17_14 : decode jdk_68_method_71_code 14 = .ok (.if_icmp .eq 7, 3) := by decide +kernel
theorem own_d17_21 : decode jdk_68_method_71_code 21 = .ok (.return_, 1) := by decide +kernel
theorem own_pn17 : plainName "java/lang/AbstractStringBuilder" = true := by first | (simp [plainName, overriddenIn]; done) | decide +kernel
theorem own_ef17 (m : MethodId) (x0 : Addr) (x1 : Addr) : entryFrame m #[(.ref x0), (.ref x1)] 2 = mkF m 0 #[.val (.ref x0), .val (.ref x1)] [] := by first | (simp [entryFrame, mkF, argsToLocals, Value.category]; done) | rfl
def Q17 (Z : State) (a0_ : Addr) (a1 : Addr) (b_ : Addr) (ks_ : ClassId) (z_ : Int32) (c_ : Int32) (vs_ : List Value) (b1_ : Addr) (k1_ : ClassId) (z1 : Int32) (v1 : List Value) (cs : Int32) (h0 : Heap) (n0 : Nat) (v : Option Value) (h : Heap) (L : List Loc) : Prop := v = none ∧ Fr n0 L ∧ h = h0
set_option maxRecDepth 65536 in
set_option maxHeartbeats 40000000 in
theorem rm17 (l : Launch) (Z : State) (a0 : Array Value) (hw : ∀ d ∈ tables_1, d.before a0 Z = true) (ws : List Jvm.Cond) (a0_ : Addr) (a1 : Addr) (b_ : Addr) (ks_ : ClassId) (z_ : Int32) (c_ : Int32) (vs_ : List Value) (b1_ : Addr) (k1_ : ClassId) (z1 : Int32) (v1 : List Value) (cs : Int32) (h0 : Heap) (n0 : Nat) (Z0 : n0 ≤ h0.size) (P0 : own_sb Z h0 a0_ b_ ks_ z_ c_ vs_) (Es1 : Exa Z h0 a1 "java/lang/String") (Fcs1 : Fld Z h0 a1 "java/lang/String" "coder" "B" (.int (0 : Int32))) (Fvs1 : Fld Z h0 a1 "java/lang/String" "value" "[B" (.ref b1_)) (Vs1 : Arv Z h0 b1_ k1_ .byte z1 v1 (.int (0 : Int32))) (hl1 : v1.length = z1.toNatClampNeg) (SC : Sta Z Z.heap "java/lang/String" "COMPACT_STRINGS" "Z" (.int cs)) (hcs : ¬ cs = (0 : Int32)) (O0 : Old Z n0 h0) :
    MetFree l (⟨"java/lang/AbstractStringBuilder", "inflateIfNeededFor", "(Ljava/lang/String;)V"⟩ : MethodName) (head1 (Jvm.Cond.code (⟨"java/lang/AbstractStringBuilder", "inflateIfNeededFor", "(Ljava/lang/String;)V"⟩ : MethodName) jdk_68_method_71_code 2 none :: ws) ({ frames := 1, cells := 0, slots := 0, locals := 13 } : Room)) (fun a U => a = #[(.ref a0_), (.ref a1)] ∧ Z.Warmed39 U.vm ∧ U.heap = h0) (fun _ _ _ _ _ => True) (fun _ U o U' => ∃ v L, o = .returned v ∧ Q17 Z a0_ a1 b_ ks_ z_ c_ vs_ b1_ k1_ z1 v1 cs h0 n0 v U'.heap L ∧ FrameEnd U o U' L ({ frames := 1, cells := 0, slots := 0, locals := 13 } : Room).cells ({ frames := 1, cells := 0, slots := 0, locals := 13 } : Room).slots) := by
  refine MetFree.of_bodySF (plainFor_of_name own_pn17) hisR ?_
  intro p e s m args below meth c s₁ Bd hml0 hP hK
  obtain ⟨rfl, hZ, hh⟩ := hP
  have hx := Bd.exec
  have hby := Bd.bytes
  have hml : c.maxLocals = 2 := hml0
  have hown : s.vm.findClass "java/lang/AbstractStringBuilder" = some m.cls := findClass_of_methodNamed Bd.named
  have hnm := (name_of_methodNamed Bd.named Bd.method).1
  have X0 : Stand p l e ({ frames := 1, cells := 0, slots := 0, locals := 13 } : Room) s m #[(.ref a0_), (.ref a1)] below meth c s₁ [] 0 0 := Stand.of_body Bd
  have e0 : s₁.heap = h0 := by rw [← hh, Bd.state]; rfl
  have N0 := Fr.nil n0
  have k0 : own_To p e below s₁ (mkF m 0 #[.val (.ref a0_), .val (.ref a1)] []) s₁ (entryFrame m #[(.ref a0_), (.ref a1)] 2) := fun t k => castTop (own_ef17 m a0_ a1) k
  have ki : own_To p e below s₁ (mkF m 0 #[.val (.ref a0_), .val (.ref a1)] []) s₁ (mkF m 0 #[.val (.ref a0_), .val (.ref a1)] []) := fun t q => q
  have nab : a0_ ≠ b_ := Exa.neArv (own_sbo P0).1 (own_sbo P0).2.2.2.2.1 (hw _ (List.mem_of_getElem? (i := 43) rfl))
  obtain ⟨T1, X1, e1, st1⟩ := getS2 X0 hx hZ hown (host := "") (Or.inl (hw _ (List.mem_of_getElem? (i := 55) rfl))) Via.refl e0 (SC.ext O0.2) (g := (mkF m 0 #[.val (.ref a0_), .val (.ref a1)] [])) rfl (hb hby own_d17_0)
  obtain ⟨T2, X2, e2, st2⟩ := getF X1 hx hZ hown (host := "") (Or.inl (hw _ (List.mem_of_getElem? (i := 58) rfl))) Via.refl e1 (own_sbo P0).2.2.1 (g := (mkF m 7 #[.val (.ref a0_), .val (.ref a1)] [(.ref a0_)])) rfl rfl (hb hby own_d17_7)
  obtain ⟨cq3, kq3, q3a, q3b, q3c⟩ := isOf hZ e2 Es1
  obtain ⟨_, _, ⟨T3, L3, kk3, n3⟩, -, X3, ⟨Lc3, hQ3, l3, y3, z3⟩, st3⟩ := X2.virtualBack hx (y := (⟨"java/lang/String", "coder", "()B"⟩ : MethodName)) (z := (⟨"java/lang/String", "coder", "()B"⟩ : MethodName)) hown (mvT hZ (hw _ (List.mem_of_getElem? (i := 98) rfl))) (mvT hZ (hw _ (List.mem_of_getElem? (i := 77) rfl))) (notFace_of_selects (args := #[]) (mvT hZ (hw _ (List.mem_of_getElem? (i := 79) rfl)))) (mvT hZ (hw _ (List.mem_of_getElem? (i := 79) rfl))) (mvT hZ (hw _ (List.mem_of_getElem? (i := 78) rfl))) (by decide) (backOf (W := 1) (rm14 l Z a0 hw [] a1 b1_ k1_ z1 v1 cs h0 n0 Z0 Es1 Fcs1 Fvs1 Vs1 hl1 SC hcs O0) hZ (hw _ (List.mem_of_getElem? (i := 80) rfl)) (hw _ (List.mem_of_getElem? (i := 6) rfl)) (by decide) (by decide)) q3a q3c (g := (mkF m 11 #[.val (.ref a0_), .val (.ref a1)] [(.ref a1), (.int (0 : Int32))])) rfl (by rw [hml]; rfl) (Steps.refl _) (argsL := []) (rest := [(.int (0 : Int32))]) (lenOf own_pd0 rfl) rfl (by show 2 * 0 + _ ≤ _; exact Nat.le_of_eq rfl) (hb hby own_d17_11) (fun _ _ => ⟨rfl, e2, (by decide : 0 + 0 ≤ _), (by decide : 0 + 0 ≤ _)⟩)
  dsimp only [Pt.U, Pt.locs, Pt.cells, Pt.slots] at X3 l3 y3 z3 st3 hQ3
  subst l3 y3 z3
  obtain ⟨rfl, N3q, e3⟩ := hQ3
  have N3 := Fr.app N0 N3q
  have k4 : own_To p e below T3 (mkF m 21 #[.val (.ref a0_), .val (.ref a1)] []) s₁ (mkF m 0 #[.val (.ref a0_), .val (.ref a1)] []) := fun t q => ki t (by
    refine st1 _ ?_
    show Steps p.tables e below (T1.setTop (mkF m 3 #[.val (.ref a0_), .val (.ref a1)] [(.int cs)])) _
    refine XS.ifNo X1.here hx rfl (hb hby own_d17_3) rfl ((if0 _ _).trans (feq hcs).1) ?_
    show Steps p.tables e below (T1.setTop (mkF m 6 #[.val (.ref a0_), .val (.ref a1)] [])) _
    refine XS.aloadN X1.here hx rfl (hb hby own_d17_6) rfl rfl ?_
    show Steps p.tables e below (T1.setTop (mkF m 7 #[.val (.ref a0_), .val (.ref a1)] [(.ref a0_)])) _
    refine st2 _ ?_
    show Steps p.tables e below (T2.setTop (mkF m 10 #[.val (.ref a0_), .val (.ref a1)] [(.int (0 : Int32))])) _
    refine XS.aloadN X2.here hx rfl (hb hby own_d17_10) rfl rfl ?_
    show Steps p.tables e below (T2.setTop (mkF m 11 #[.val (.ref a0_), .val (.ref a1)] [(.ref a1), (.int (0 : Int32))])) _
    refine st3.trans ?_
    show Steps p.tables e below (T3.setTop (mkF m 14 #[.val (.ref a0_), .val (.ref a1)] [(.int (0 : Int32)), (.int (0 : Int32))])) _
    refine XS.icmpYes X3.here hx rfl (pc0 := 14) (pc' := 21) rfl (hb hby own_d17_14) rfl (teq rfl).1 (by decide) (by decide) ?_
    show Steps p.tables e below (T3.setTop (mkF m 21 #[.val (.ref a0_), .val (.ref a1)] [])) _
    exact q)
  obtain ⟨fs, hr, hrun, hended, hW, hsame⟩ := X3.leave (v := none) (fun _ => rfl)
  refine ⟨_, _, k0 _ (k4 _ ?_), hrun, hended, _, _, rfl, ?_, ⟨_, rfl⟩, hW, hsame.mono (by decide) (by decide)⟩
  · show Steps p.tables e below (T3.setTop (mkF m 21 #[.val (.ref a0_), .val (.ref a1)] [])) _
    exact X3.returnOut hx Bd.returns (hb hby own_d17_21) hr
  · show Q17 Z a0_ a1 b_ ks_ z_ c_ vs_ b1_ k1_ z1 v1 cs h0 n0 _ T3.heap _
    rw [e3]
    exact ⟨rfl, N3, rfl⟩
theorem own_pd23 : parseMethodDescriptor "(Ljava/lang/String;)V" = some ⟨[(.object "java/lang/String")], none⟩ := by decide +kernel
theorem own_pd32 : parseMethodDescriptor "([BIB)V" = some ⟨[(.array .byte), .int, .byte], none⟩ := by decide +kernel
theorem own_d16_0 : decode jdk_68_method_73_code 0 = .ok (.aload_n 0, 1) := by decide +kernel
theorem own_d16_1 : decode jdk_68_method_73_code 1 = .ok (.aload_n 2, 1) := by decide +kernel
theorem own_d16_2 : decode jdk_68_method_73_code 2 = .ok (.invokevirtual 397, 3) := by decide +kernel
theorem own_d16_5 : decode jdk_68_method_73_code 5 = .ok (.aload_n 2, 1) := by decide +kernel
theorem own_d16_6 : decode jdk_68_method_73_code 6 = .ok (.aload_n 0, 1) := by decide +kernel
theorem own_d16_7 : decode jdk_68_method_73_code 7 = .ok (.getfield 15, 3) := by decide +kernel
theorem own_d16_10 : decode jdk_68_method_73_code 10 = .ok (.iload_n 1, 1) := by decide +kernel
theorem own_d16_11 : decode jdk_68_method_73_code 11 = .ok (.aload_n 0, 1) := by decide +kernel
theorem own_d16_12 : decode jdk_68_method_73_code 12 = .ok (.getfield 22, 3) := by decide +kernel
theorem own_d16_15 : decode jdk_68_method_73_code 15 = .ok (.invokevirtual 399, 3) := by decide +kernel
theorem own_d16_18 : decode jdk_68_method_73_code 18 = .ok (.return_, 1) := by decide +kernel
theorem own_pn16 : plainName "java/lang/AbstractStringBuilder" = true := by first | (simp [plainName, overriddenIn]; done) | decide +kernel
theorem own_ef16 (m : MethodId) (x0 : Addr) (x1 : Int32) (x2 : Addr) : entryFrame m #[(.ref x0), (.int x1), (.ref x2)] 3 = mkF m 0 #[.val (.ref x0), .val (.int x1), .val (.ref x2)] [] := by first | (simp [entryFrame, mkF, argsToLocals, Value.category]; done) | rfl
def Q16 (Z : State) (a0_ : Addr) (p1 : Int32) (a2 : Addr) (b_ : Addr) (ks_ : ClassId) (z_ : Int32) (c_ : Int32) (vs_ : List Value) (b2_ : Addr) (k2_ : ClassId) (z2 : Int32) (v2 : List Value) (cs : Int32) (h0 : Heap) (n0 : Nat) (v : Option Value) (h : Heap) (L : List Loc) : Prop := v = none ∧ Fr n0 L ∧ Keep h0 h [b_] ∧ Arv Z h b_ ks_ .byte z_ (vs_ ++ v2) (.int (0 : Int32))
set_option maxRecDepth 65536 in
set_option maxHeartbeats 40000000 in
theorem rm16 (l : Launch) (Z : State) (a0 : Array Value) (hw : ∀ d ∈ tables_1, d.before a0 Z = true) (ws : List Jvm.Cond) (a0_ : Addr) (p1 : Int32) (a2 : Addr) (b_ : Addr) (ks_ : ClassId) (z_ : Int32) (c_ : Int32) (vs_ : List Value) (b2_ : Addr) (k2_ : ClassId) (z2 : Int32) (v2 : List Value) (cs : Int32) (h0 : Heap) (n0 : Nat) (Z0 : n0 ≤ h0.size) (P0 : own_sb Z h0 a0_ b_ ks_ z_ c_ vs_) (Es2 : Exa Z h0 a2 "java/lang/String") (Fcs2 : Fld Z h0 a2 "java/lang/String" "coder" "B" (.int (0 : Int32))) (Fvs2 : Fld Z h0 a2 "java/lang/String" "value" "[B" (.ref b2_)) (Vs2 : Arv Z h0 b2_ k2_ .byte z2 v2 (.int (0 : Int32))) (hl2 : v2.length = z2.toNatClampNeg) (SC : Sta Z Z.heap "java/lang/String" "COMPACT_STRINGS" "Z" (.int cs)) (hcs : ¬ cs = (0 : Int32)) (O0 : Old Z n0 h0) (gb_ : n0 ≤ b_) (hp2 : ¬ p1 < (0 : Int32)) (hbd : p1.toNatClampNeg + z2.toNatClampNeg ≤ z_.toNatClampNeg) (hld : vs_.length = p1.toNatClampNeg) :
    MetFree l (⟨"java/lang/AbstractStringBuilder", "putStringAt", "(ILjava/lang/String;)V"⟩ : MethodName) (head1 (Jvm.Cond.code (⟨"java/lang/AbstractStringBuilder", "putStringAt", "(ILjava/lang/String;)V"⟩ : MethodName) jdk_68_method_73_code 3 none :: ws) ({ frames := 2, cells := 0, slots := 0, locals := 33 } : Room)) (fun a U => a = #[(.ref a0_), (.int p1), (.ref a2)] ∧ Z.Warmed39 U.vm ∧ U.heap = h0) (fun _ _ _ _ _ => True) (fun _ U o U' => ∃ v L, o = .returned v ∧ Q16 Z a0_ p1 a2 b_ ks_ z_ c_ vs_ b2_ k2_ z2 v2 cs h0 n0 v U'.heap L ∧ FrameEnd U o U' L ({ frames := 2, cells := 0, slots := 0, locals := 33 } : Room).cells ({ frames := 2, cells := 0, slots := 0, locals := 33 } : Room).slots) := by
  refine MetFree.of_bodySF (plainFor_of_name own_pn16) hisR ?_
  intro p e s m args below meth c s₁ Bd hml0 hP hK
  obtain ⟨rfl, hZ, hh⟩ := hP
  have hx := Bd.exec
  have hby := Bd.bytes
  have hml : c.maxLocals = 3 := hml0
  have hown : s.vm.findClass "java/lang/AbstractStringBuilder" = some m.cls := findClass_of_methodNamed Bd.named
  have hnm := (name_of_methodNamed Bd.named Bd.method).1
  have X0 : Stand p l e ({ frames := 2, cells := 0, slots := 0, locals := 33 } : Room) s m #[(.ref a0_), (.int p1), (.ref a2)] below meth c s₁ [] 0 0 := Stand.of_body Bd
  have e0 : s₁.heap = h0 := by rw [← hh, Bd.state]; rfl
  have N0 := Fr.nil n0
  have k0 : own_To p e below s₁ (mkF m 0 #[.val (.ref a0_), .val (.int p1), .val (.ref a2)] []) s₁ (entryFrame m #[(.ref a0_), (.int p1), (.ref a2)] 3) := fun t k => castTop (own_ef16 m a0_ p1 a2) k
  have ki : own_To p e below s₁ (mkF m 0 #[.val (.ref a0_), .val (.int p1), .val (.ref a2)] []) s₁ (mkF m 0 #[.val (.ref a0_), .val (.int p1), .val (.ref a2)] []) := fun t q => q
  have nab : a0_ ≠ b_ := Exa.neArv (own_sbo P0).1 (own_sbo P0).2.2.2.2.1 (hw _ (List.mem_of_getElem? (i := 43) rfl))
  have P2 : own_sb Z h0 a0_ b_ ks_ z_ c_ vs_ := ⟨(own_sbo P0).1, (own_sbo P0).2.1, (own_sbo P0).2.2.1, (own_sbo P0).2.2.2.1, (own_sbo P0).2.2.2.2.1, (own_sbo P0).2.2.2.2.2.1, (own_sbo P0).2.2.2.2.2.2⟩
  obtain ⟨cq1, kq1, q1a, q1b, q1c⟩ := isOf hZ e0 (own_sbo P0).1
  obtain ⟨_, _, ⟨T1, L1, kk1, n1⟩, -, X1, ⟨Lc1, hQ1, l1, y1, z1⟩, st1⟩ := X0.virtualBack hx (y := (⟨"java/lang/AbstractStringBuilder", "inflateIfNeededFor", "(Ljava/lang/String;)V"⟩ : MethodName)) (z := (⟨"java/lang/AbstractStringBuilder", "inflateIfNeededFor", "(Ljava/lang/String;)V"⟩ : MethodName)) hown (mvT hZ (hw _ (List.mem_of_getElem? (i := 93) rfl))) (mvT hZ (own_decl (hw _ (List.mem_of_getElem? (i := 94) rfl)) (hw _ (List.mem_of_getElem? (i := 97) rfl)))) (notFace_of_selects (args := #[]) (mvT hZ (hw _ (List.mem_of_getElem? (i := 96) rfl)))) (mvT hZ (hw _ (List.mem_of_getElem? (i := 96) rfl))) (mvT hZ (hw _ (List.mem_of_getElem? (i := 94) rfl))) (by decide) (backOf (W := 0) (rm17 l Z a0 hw [] a0_ a2 b_ ks_ z_ c_ vs_ b2_ k2_ z2 v2 cs h0 n0 Z0 P2 Es2 Fcs2 Fvs2 Vs2 hl2 SC hcs O0) hZ (hw _ (List.mem_of_getElem? (i := 97) rfl)) (hw _ (List.mem_of_getElem? (i := 52) rfl)) (by decide) (by decide)) q1a q1c (g := (mkF m 2 #[.val (.ref a0_), .val (.int p1), .val (.ref a2)] [(.ref a2), (.ref a0_)])) rfl (by rw [hml]; rfl) (Steps.refl _) (argsL := [(.ref a2)]) (rest := []) (lenOf own_pd23 rfl) rfl (by show 2 * 0 + _ ≤ _; exact Nat.le_of_eq rfl) (hb hby own_d16_2) (fun _ _ => ⟨rfl, e0, (by decide : 0 + 0 ≤ _), (by decide : 0 + 0 ≤ _)⟩)
  dsimp only [Pt.U, Pt.locs, Pt.cells, Pt.slots] at X1 l1 y1 z1 st1 hQ1
  subst l1 y1 z1
  obtain ⟨rfl, N1q, e1⟩ := hQ1
  have N1 := Fr.app N0 N1q
  obtain ⟨T3, X3, e3, st3⟩ := getF X1 hx hZ hown (host := "") (Or.inl (hw _ (List.mem_of_getElem? (i := 56) rfl))) Via.refl e1 (own_sbo P0).2.1 (g := (mkF m 7 #[.val (.ref a0_), .val (.int p1), .val (.ref a2)] [(.ref a0_), (.ref a2)])) rfl rfl (hb hby own_d16_7)
  obtain ⟨T4, X4, e4, st4⟩ := getF X3 hx hZ hown (host := "") (Or.inl (hw _ (List.mem_of_getElem? (i := 58) rfl))) Via.refl e3 (own_sbo P0).2.2.1 (g := (mkF m 12 #[.val (.ref a0_), .val (.int p1), .val (.ref a2)] [(.ref a0_), (.int p1), (.ref b_), (.ref a2)])) rfl rfl (hb hby own_d16_12)
  obtain ⟨cq5, kq5, q5a, q5b, q5c⟩ := isOf hZ e4 Es2
  obtain ⟨_, _, ⟨T5, L5, kk5, n5⟩, -, X5, ⟨Lc5, hQ5, l5, y5, z5⟩, st5⟩ := X4.virtualBack hx (y := (⟨"java/lang/String", "getBytes", "([BIB)V"⟩ : MethodName)) (z := (⟨"java/lang/String", "getBytes", "([BIB)V"⟩ : MethodName)) hown (mvT hZ (hw _ (List.mem_of_getElem? (i := 99) rfl))) (mvT hZ (hw _ (List.mem_of_getElem? (i := 100) rfl))) (notFace_of_selects (args := #[]) (mvT hZ (hw _ (List.mem_of_getElem? (i := 102) rfl)))) (mvT hZ (hw _ (List.mem_of_getElem? (i := 102) rfl))) (mvT hZ (hw _ (List.mem_of_getElem? (i := 101) rfl))) (by decide) (backOf (W := 0) (rm18 l Z a0 hw [] a2 b_ p1 b2_ k2_ z2 v2 cs ks_ z_ vs_ h0 n0 Z0 Es2 Fcs2 Fvs2 Vs2 hl2 SC hcs O0 (own_sbo P0).2.2.2.2.1 gb_ hp2 hbd hld) hZ (hw _ (List.mem_of_getElem? (i := 103) rfl)) (hw _ (List.mem_of_getElem? (i := 6) rfl)) (by decide) (by decide)) q5a q5c (g := (mkF m 15 #[.val (.ref a0_), .val (.int p1), .val (.ref a2)] [(.int (0 : Int32)), (.int p1), (.ref b_), (.ref a2)])) rfl (by rw [hml]; rfl) (Steps.refl _) (argsL := [(.ref b_), (.int p1), (.int (0 : Int32))]) (rest := []) (lenOf own_pd32 rfl) rfl (by show 2 * 0 + _ ≤ _; exact Nat.le_of_eq rfl) (hb hby own_d16_15) (fun _ _ => ⟨rfl, e4, (by decide : 0 + 0 ≤ _), (by decide : 0 + 0 ≤ _)⟩)
  dsimp only [Pt.U, Pt.locs, Pt.cells, Pt.slots] at X5 l5 y5 z5 st5 hQ5
  subst l5 y5 z5
  obtain ⟨rfl, N5q, K5, V5⟩ := hQ5
  have N5 := Fr.app N1 N5q
  have K6 : Keep h0 T5.heap [b_] := ((Keep.refl h0 [b_]).trans K5 (allS (P := fun x => x ∈ ([b_] : List Addr) ∨ h0.size ≤ x) (Or.inl (List.mem_of_getElem? (i := 0) rfl)) all0))
  have k7 : own_To p e below T5 (mkF m 18 #[.val (.ref a0_), .val (.int p1), .val (.ref a2)] []) s₁ (mkF m 0 #[.val (.ref a0_), .val (.int p1), .val (.ref a2)] []) := fun t q => ki t (by
    refine XS.aloadN X0.here hx rfl (hb hby own_d16_0) rfl rfl ?_
    show Steps p.tables e below (s₁.setTop (mkF m 1 #[.val (.ref a0_), .val (.int p1), .val (.ref a2)] [(.ref a0_)])) _
    refine XS.aloadN X0.here hx rfl (hb hby own_d16_1) rfl rfl ?_
    show Steps p.tables e below (s₁.setTop (mkF m 2 #[.val (.ref a0_), .val (.int p1), .val (.ref a2)] [(.ref a2), (.ref a0_)])) _
    refine st1.trans ?_
    show Steps p.tables e below (T1.setTop (mkF m 5 #[.val (.ref a0_), .val (.int p1), .val (.ref a2)] [])) _
    refine XS.aloadN X1.here hx rfl (hb hby own_d16_5) rfl rfl ?_
    show Steps p.tables e below (T1.setTop (mkF m 6 #[.val (.ref a0_), .val (.int p1), .val (.ref a2)] [(.ref a2)])) _
    refine XS.aloadN X1.here hx rfl (hb hby own_d16_6) rfl rfl ?_
    show Steps p.tables e below (T1.setTop (mkF m 7 #[.val (.ref a0_), .val (.int p1), .val (.ref a2)] [(.ref a0_), (.ref a2)])) _
    refine st3 _ ?_
    show Steps p.tables e below (T3.setTop (mkF m 10 #[.val (.ref a0_), .val (.int p1), .val (.ref a2)] [(.ref b_), (.ref a2)])) _
    refine XS.iloadN X3.here hx rfl (hb hby own_d16_10) rfl ?_
    show Steps p.tables e below (T3.setTop (mkF m 11 #[.val (.ref a0_), .val (.int p1), .val (.ref a2)] [(.int p1), (.ref b_), (.ref a2)])) _
    refine XS.aloadN X3.here hx rfl (hb hby own_d16_11) rfl rfl ?_
    show Steps p.tables e below (T3.setTop (mkF m 12 #[.val (.ref a0_), .val (.int p1), .val (.ref a2)] [(.ref a0_), (.int p1), (.ref b_), (.ref a2)])) _
    refine st4 _ ?_
    show Steps p.tables e below (T4.setTop (mkF m 15 #[.val (.ref a0_), .val (.int p1), .val (.ref a2)] [(.int (0 : Int32)), (.int p1), (.ref b_), (.ref a2)])) _
    refine st5.trans ?_
    show Steps p.tables e below (T5.setTop (mkF m 18 #[.val (.ref a0_), .val (.int p1), .val (.ref a2)] [])) _
    exact q)
  obtain ⟨fs, hr, hrun, hended, hW, hsame⟩ := X5.leave (v := none) (fun _ => rfl)
  refine ⟨_, _, k0 _ (k7 _ ?_), hrun, hended, _, _, rfl, ?_, ⟨_, rfl⟩, hW, hsame.mono (by decide) (by decide)⟩
  · show Steps p.tables e below (T5.setTop (mkF m 18 #[.val (.ref a0_), .val (.int p1), .val (.ref a2)] [])) _
    exact X5.returnOut hx Bd.returns (hb hby own_d16_18) hr
  · show Q16 Z a0_ p1 a2 b_ ks_ z_ c_ vs_ b2_ k2_ z2 v2 cs h0 n0 _ T5.heap _
    exact ⟨rfl, N5, K6, V5⟩
theorem own_d10_0 : decode jdk_68_method_2_code 0 = .ok (.aload_n 0, 1) := by decide +kernel
theorem own_d10_1 : decode jdk_68_method_2_code 1 = .ok (.invokespecial 3, 3) := by decide +kernel
theorem own_d10_4 : decode jdk_68_method_2_code 4 = .ok (.getstatic 18, 3) := by decide +kernel
theorem own_d10_7 : decode jdk_68_method_2_code 7 = .ok (.ifCond .eq 18, 3) := by decide +kernel
theorem own_d10_10 : decode jdk_68_method_2_code 10 = .ok (.aload_n 0, 1) := by decide +kernel
theorem own_d10_11 : decode jdk_68_method_2_code 11 = .ok (.iload_n 1, 1) := by decide +kernel
theorem own_d10_12 : decode jdk_68_method_2_code 12 = .ok (.newarray .byte, 2) := by decide +kernel
theorem own_d10_14 : decode jdk_68_method_2_code 14 = .ok (.putfield 15, 3) := by decide +kernel
theorem own_d10_17 : decode jdk_68_method_2_code 17 = .ok (.aload_n 0, 1) := by decide +kernel
theorem own_d10_18 : decode jdk_68_method_2_code 18 = .ok (.iconst 0, 1) := by decide +kernel
theorem own_d10_19 : decode jdk_68_method_2_code 19 = .ok (.putfield 22, 3) := by decide +kernel
theorem own_d10_22 : decode jdk_68_method_2_code 22 = .ok (.goto 16, 3) := by decide +kernel
theorem own_d10_38 : decode jdk_68_method_2_code 38 = .ok (.return_, 1) := by decide +kernel
theorem own_pn10 : plainName "java/lang/AbstractStringBuilder" = true := by first | (simp [plainName, overriddenIn]; done) | decide +kernel
theorem own_ef10 (m : MethodId) (x0 : Addr) : entryFrame m #[(.ref x0), (.int (16 : Int32))] 2 = mkF m 0 #[.val (.ref x0), .val (.int (16 : Int32))] [] := by first | (simp [entryFrame, mkF, argsToLocals, Value.category]; done) | rfl
def Q10 (Z : State) (a0_ : Addr) (cs : Int32) (h0 : Heap) (n0 : Nat) (v : Option Value) (h : Heap) (L : List Loc) : Prop := ∃ (b : Addr) (kb : ClassId), v = none ∧ Fr n0 L ∧ Keep h0 h [a0_] ∧ h0.size ≤ b ∧ own_sb Z h a0_ b kb (16 : Int32) (0 : Int32) ([] : List Value)
set_option maxRecDepth 65536 in
set_option maxHeartbeats 40000000 in
theorem rm10 (l : Launch) (Z : State) (a0 : Array Value) (hw : ∀ d ∈ tables_1, d.before a0 Z = true) (ws : List Jvm.Cond) (a0_ : Addr) (cs : Int32) (h0 : Heap) (n0 : Nat) (Z0 : n0 ≤ h0.size) (F_value : Fld Z h0 a0_ "java/lang/AbstractStringBuilder" "value" "[B" .null) (F_coder : Fld Z h0 a0_ "java/lang/AbstractStringBuilder" "coder" "B" (.int (0 : Int32))) (F_count : Fld Z h0 a0_ "java/lang/AbstractStringBuilder" "count" "I" (.int (0 : Int32))) (E_ : Exa Z h0 a0_ "java/lang/StringBuilder") (g_ : n0 ≤ a0_) (SC : Sta Z Z.heap "java/lang/String" "COMPACT_STRINGS" "Z" (.int cs)) (hcs : ¬ cs = (0 : Int32)) (O0 : Old Z n0 h0) :
    MetFree l (⟨"java/lang/AbstractStringBuilder", "<init>", "(I)V"⟩ : MethodName) (head1 (Jvm.Cond.code (⟨"java/lang/AbstractStringBuilder", "<init>", "(I)V"⟩ : MethodName) jdk_68_method_2_code 2 none :: ws) ({ frames := 1, cells := 1, slots := 16, locals := 12 } : Room)) (fun a U => a = #[(.ref a0_), (.int (16 : Int32))] ∧ Z.Warmed39 U.vm ∧ U.heap = h0) (fun _ _ _ _ _ => True) (fun _ U o U' => ∃ v L, o = .returned v ∧ Q10 Z a0_ cs h0 n0 v U'.heap L ∧ FrameEnd U o U' L ({ frames := 1, cells := 1, slots := 16, locals := 12 } : Room).cells ({ frames := 1, cells := 1, slots := 16, locals := 12 } : Room).slots) := by
  refine MetFree.of_bodySF (plainFor_of_name own_pn10) hisR ?_
  intro p e s m args below meth c s₁ Bd hml0 hP hK
  obtain ⟨rfl, hZ, hh⟩ := hP
  have hx := Bd.exec
  have hby := Bd.bytes
  have hml : c.maxLocals = 2 := hml0
  have hown : s.vm.findClass "java/lang/AbstractStringBuilder" = some m.cls := findClass_of_methodNamed Bd.named
  have hnm := (name_of_methodNamed Bd.named Bd.method).1
  have X0 : Stand p l e ({ frames := 1, cells := 1, slots := 16, locals := 12 } : Room) s m #[(.ref a0_), (.int (16 : Int32))] below meth c s₁ [] 0 0 := Stand.of_body Bd
  have e0 : s₁.heap = h0 := by rw [← hh, Bd.state]; rfl
  have N0 := Fr.nil n0
  have k0 : own_To p e below s₁ (mkF m 0 #[.val (.ref a0_), .val (.int (16 : Int32))] []) s₁ (entryFrame m #[(.ref a0_), (.int (16 : Int32))] 2) := fun t k => castTop (own_ef10 m a0_) k
  have ki : own_To p e below s₁ (mkF m 0 #[.val (.ref a0_), .val (.int (16 : Int32))] []) s₁ (mkF m 0 #[.val (.ref a0_), .val (.int (16 : Int32))] []) := fun t q => q
  obtain ⟨T1, X1, e1, st1⟩ := initO X0 hx hZ hown (hw _ (List.mem_of_getElem? (i := 54) rfl)) (hw _ (List.mem_of_getElem? (i := 16) rfl)) (hw _ (List.mem_of_getElem? (i := 17) rfl)) e0 (g := (mkF m 1 #[.val (.ref a0_), .val (.int (16 : Int32))] [(.ref a0_)])) rfl (by rw [hml]; rfl) rfl (hb hby own_d10_1) (by decide) (W := 0) (by show 2 * 0 + _ ≤ _; exact Nat.le_of_eq rfl) (by decide)
  obtain ⟨T2, X2, e2, st2⟩ := getS2 X1 hx hZ hown (host := "") (Or.inl (hw _ (List.mem_of_getElem? (i := 55) rfl))) Via.refl e1 (SC.ext O0.2) (g := (mkF m 4 #[.val (.ref a0_), .val (.int (16 : Int32))] [])) rfl (hb hby own_d10_4)
  obtain ⟨T3, h3, kk3, X3, e3, E3, A3, EA3, st3⟩ := newPE X2 hx hZ (hw _ (List.mem_of_getElem? (i := 19) rfl)) e2 (g := (mkF m 12 #[.val (.ref a0_), .val (.int (16 : Int32))] [(.int (16 : Int32)), (.ref a0_)])) rfl (hb hby own_d10_12) rfl (by decide) (cap := 16) (by decide) (by decide) (by decide) (by decide) (ad := "[B") rfl
  obtain ⟨b3, g3⟩ : ∃ z, z = h0.size := ⟨_, rfl⟩
  rw [← g3] at A3 EA3 st3
  have ge_b3 : n0 ≤ b3 := Nat.le_trans Z0 (Nat.le_of_eq g3.symm)
  have K4 : Keep h0 h0 [a0_] := (Keep.refl h0 [a0_])
  have sz_b3 : h0.size ≤ b3 := Nat.le_trans K4.1 (Nat.le_of_eq g3.symm)
  have ne_a0__b3 : a0_ ≠ b3 := Nat.ne_of_lt (Nat.lt_of_lt_of_le E_.lt (Nat.le_of_eq g3.symm))
  have V3 : Arv Z h3 b3 kk3 .byte (16 : Int32) [] (.int (0 : Int32)) := Arv.new A3 (by decide)
  have F5 := (F_value.ext E3)
  have F6 := (E_.ext E3)
  obtain ⟨T7, h7, X7, e7, W7, st7⟩ := putF X3 hx hZ hown (host := "") (Or.inl (hw _ (List.mem_of_getElem? (i := 56) rfl))) Via.refl e3 F5 F6 (Or.inl (hw _ (List.mem_of_getElem? (i := 57) rfl))) (hw _ (List.mem_of_getElem? (i := 43) rfl)) (ty := (.array .byte)) (by decide) rfl rfl (g := (mkF m 14 #[.val (.ref a0_), .val (.int (16 : Int32))] [(.ref b3), (.ref a0_)])) rfl rfl (hb hby own_d10_14)
  have N7 := Fr.snoc X7 N0 g_
  obtain ⟨Lf7, Nf7, Xf7⟩ := own_fold X7 N7
  have Fw7 := F5.same W7
  have F8 := ((F_coder.ext E3).other W7 (Or.inr (slot_ne (Or.inl (hw _ (List.mem_of_getElem? (i := 59) rfl))) (Or.inl (hw _ (List.mem_of_getElem? (i := 57) rfl))) (by decide) (t := .byte) (t' := (.array .byte)) (by decide) (by decide))))
  have F9 := (F6.wr W7)
  obtain ⟨T10, h10, X10, e10, W10, st10⟩ := putFN Xf7 hx hZ hown (hw _ (List.mem_of_getElem? (i := 58) rfl)) Via.refl e7 F8 F9 (Or.inl (hw _ (List.mem_of_getElem? (i := 59) rfl))) (hw _ (List.mem_of_getElem? (i := 43) rfl)) (ty := .byte) (v' := (.int (nar .byte (0 : Int32)))) (by decide) rfl (fits_nar_byte _) (g := (mkF m 19 #[.val (.ref a0_), .val (.int (16 : Int32))] [(.int (0 : Int32)), (.ref a0_)])) rfl rfl (hb hby own_d10_19)
  have N10 := Fr.snoc X10 Nf7 g_
  obtain ⟨Lf10, Nf10, Xf10⟩ := own_fold X10 N10
  have Fw10 := F8.same W10
  have k11 : own_To p e below T10 (mkF m 38 #[.val (.ref a0_), .val (.int (16 : Int32))] []) s₁ (mkF m 0 #[.val (.ref a0_), .val (.int (16 : Int32))] []) := fun t q => ki t (by
    refine XS.aloadN X0.here hx rfl (hb hby own_d10_0) rfl rfl ?_
    show Steps p.tables e below (s₁.setTop (mkF m 1 #[.val (.ref a0_), .val (.int (16 : Int32))] [(.ref a0_)])) _
    refine st1 _ ?_
    show Steps p.tables e below (T1.setTop (mkF m 4 #[.val (.ref a0_), .val (.int (16 : Int32))] [])) _
    refine st2 _ ?_
    show Steps p.tables e below (T2.setTop (mkF m 7 #[.val (.ref a0_), .val (.int (16 : Int32))] [(.int cs)])) _
    refine XS.ifNo X2.here hx rfl (hb hby own_d10_7) rfl ((if0 _ _).trans (feq hcs).1) ?_
    show Steps p.tables e below (T2.setTop (mkF m 10 #[.val (.ref a0_), .val (.int (16 : Int32))] [])) _
    refine XS.aloadN X2.here hx rfl (hb hby own_d10_10) rfl rfl ?_
    show Steps p.tables e below (T2.setTop (mkF m 11 #[.val (.ref a0_), .val (.int (16 : Int32))] [(.ref a0_)])) _
    refine XS.iloadN X2.here hx rfl (hb hby own_d10_11) rfl ?_
    show Steps p.tables e below (T2.setTop (mkF m 12 #[.val (.ref a0_), .val (.int (16 : Int32))] [(.int (16 : Int32)), (.ref a0_)])) _
    refine st3 _ ?_
    show Steps p.tables e below (T3.setTop (mkF m 14 #[.val (.ref a0_), .val (.int (16 : Int32))] [(.ref b3), (.ref a0_)])) _
    refine st7 _ ?_
    show Steps p.tables e below (T7.setTop (mkF m 17 #[.val (.ref a0_), .val (.int (16 : Int32))] [])) _
    refine XS.aloadN Xf7.here hx rfl (hb hby own_d10_17) rfl rfl ?_
    show Steps p.tables e below (T7.setTop (mkF m 18 #[.val (.ref a0_), .val (.int (16 : Int32))] [(.ref a0_)])) _
    refine XS.iconst Xf7.here hx rfl (hb hby own_d10_18) ?_
    show Steps p.tables e below (T7.setTop (mkF m 19 #[.val (.ref a0_), .val (.int (16 : Int32))] [(.int (0 : Int32)), (.ref a0_)])) _
    refine st10 _ ?_
    show Steps p.tables e below (T10.setTop (mkF m 22 #[.val (.ref a0_), .val (.int (16 : Int32))] [])) _
    refine XS.goto Xf10.here hx rfl (pc0 := 22) (pc' := 38) rfl (hb hby own_d10_22) (by decide) (by decide) ?_
    show Steps p.tables e below (T10.setTop (mkF m 38 #[.val (.ref a0_), .val (.int (16 : Int32))] [])) _
    exact q)
  have Fz12 : Fld Z h10 a0_ "java/lang/AbstractStringBuilder" "coder" "B" (.int (0 : Int32)) := by have q := Fw10; rw [show nar .byte (0 : Int32) = 0 from by decide] at q; exact q
  have F13 := (F9.wr W10)
  have F14 := (Fw7.other W10 (Or.inr (slot_ne (Or.inl (hw _ (List.mem_of_getElem? (i := 57) rfl))) (Or.inl (hw _ (List.mem_of_getElem? (i := 59) rfl))) (by decide) (t := (.array .byte)) (t' := .byte) (by decide) (by decide))))
  have F15 := (((F_count.ext E3).other W7 (Or.inr (slot_ne (Or.inl (hw _ (List.mem_of_getElem? (i := 82) rfl))) (Or.inl (hw _ (List.mem_of_getElem? (i := 57) rfl))) (by decide) (t := .int) (t' := (.array .byte)) (by decide) (by decide)))).other W10 (Or.inr (slot_ne (Or.inl (hw _ (List.mem_of_getElem? (i := 82) rfl))) (Or.inl (hw _ (List.mem_of_getElem? (i := 59) rfl))) (by decide) (t := .int) (t' := .byte) (by decide) (by decide))))
  have F16 := ((V3.other W7 (Ne.symm ne_a0__b3)).other W10 (Ne.symm ne_a0__b3))
  have F17 := ((EA3.wr W7).wr W10)
  have P18 : own_sb Z h10 a0_ b3 kk3 (16 : Int32) (0 : Int32) ([] : List Value) := ⟨F13, F14, Fz12, F15, F16, F17, rfl⟩
  have K19 : Keep h0 h10 [a0_] := (((K4.ext E3).wr W7 (Or.inl (List.mem_of_getElem? (i := 0) rfl))).wr W10 (Or.inl (List.mem_of_getElem? (i := 0) rfl)))
  obtain ⟨fs, hr, hrun, hended, hW, hsame⟩ := Xf10.leave (v := none) (fun _ => rfl)
  refine ⟨_, _, k0 _ (k11 _ ?_), hrun, hended, _, _, rfl, ?_, ⟨_, rfl⟩, hW, hsame.mono (by decide) (by decide)⟩
  · show Steps p.tables e below (T10.setTop (mkF m 38 #[.val (.ref a0_), .val (.int (16 : Int32))] [])) _
    exact Xf10.returnOut hx Bd.returns (hb hby own_d10_38) hr
  · show Q10 Z a0_ cs h0 n0 _ T10.heap _
    rw [e10]
    exact ⟨b3, kk3, rfl, Nf10, K19, sz_b3, P18⟩
theorem own_pd13 : parseMethodDescriptor "(I)V" = some ⟨[.int], none⟩ := by decide +kernel
theorem own_d9_0 : decode jdk_67_method_1_code 0 = .ok (.aload_n 0, 1) := by decide +kernel
theorem own_d9_1 : decode jdk_67_method_1_code 1 = .ok (.bipush 16, 2) := by decide +kernel
theorem own_d9_3 : decode jdk_67_method_1_code 3 = .ok (.invokespecial 1, 3) := by decide +kernel
theorem own_d9_6 : decode jdk_67_method_1_code 6 = .ok (.return_, 1) := by decide +kernel
theorem own_pn9 : plainName "java/lang/StringBuilder" = true := by first | (simp [plainName, overriddenIn]; done) | decide +kernel
theorem own_ef9 (m : MethodId) (x0 : Addr) : entryFrame m #[(.ref x0)] 1 = mkF m 0 #[.val (.ref x0)] [] := by first | (simp [entryFrame, mkF, argsToLocals, Value.category]; done) | rfl
def Q9 (Z : State) (a0_ : Addr) (cs : Int32) (h0 : Heap) (n0 : Nat) (v : Option Value) (h : Heap) (L : List Loc) : Prop := ∃ (b : Addr) (kb : ClassId), v = none ∧ Fr n0 L ∧ Keep h0 h [a0_] ∧ h0.size ≤ b ∧ own_sb Z h a0_ b kb (16 : Int32) (0 : Int32) ([] : List Value)
set_option maxRecDepth 65536 in
set_option maxHeartbeats 40000000 in
theorem rm9 (l : Launch) (Z : State) (a0 : Array Value) (hw : ∀ d ∈ tables_1, d.before a0 Z = true) (ws : List Jvm.Cond) (a0_ : Addr) (cs : Int32) (h0 : Heap) (n0 : Nat) (Z0 : n0 ≤ h0.size) (F_value : Fld Z h0 a0_ "java/lang/AbstractStringBuilder" "value" "[B" .null) (F_coder : Fld Z h0 a0_ "java/lang/AbstractStringBuilder" "coder" "B" (.int (0 : Int32))) (F_count : Fld Z h0 a0_ "java/lang/AbstractStringBuilder" "count" "I" (.int (0 : Int32))) (E_ : Exa Z h0 a0_ "java/lang/StringBuilder") (g_ : n0 ≤ a0_) (SC : Sta Z Z.heap "java/lang/String" "COMPACT_STRINGS" "Z" (.int cs)) (hcs : ¬ cs = (0 : Int32)) (O0 : Old Z n0 h0) :
    MetFree l (⟨"java/lang/StringBuilder", "<init>", "()V"⟩ : MethodName) (head1 (Jvm.Cond.code (⟨"java/lang/StringBuilder", "<init>", "()V"⟩ : MethodName) jdk_67_method_1_code 1 none :: ws) ({ frames := 2, cells := 1, slots := 16, locals := 25 } : Room)) (fun a U => a = #[(.ref a0_)] ∧ Z.Warmed39 U.vm ∧ U.heap = h0) (fun _ _ _ _ _ => True) (fun _ U o U' => ∃ v L, o = .returned v ∧ Q9 Z a0_ cs h0 n0 v U'.heap L ∧ FrameEnd U o U' L ({ frames := 2, cells := 1, slots := 16, locals := 25 } : Room).cells ({ frames := 2, cells := 1, slots := 16, locals := 25 } : Room).slots) := by
  refine MetFree.of_bodySF (plainFor_of_name own_pn9) hisR ?_
  intro p e s m args below meth c s₁ Bd hml0 hP hK
  obtain ⟨rfl, hZ, hh⟩ := hP
  have hx := Bd.exec
  have hby := Bd.bytes
  have hml : c.maxLocals = 1 := hml0
  have hown : s.vm.findClass "java/lang/StringBuilder" = some m.cls := findClass_of_methodNamed Bd.named
  have hnm := (name_of_methodNamed Bd.named Bd.method).1
  have X0 : Stand p l e ({ frames := 2, cells := 1, slots := 16, locals := 25 } : Room) s m #[(.ref a0_)] below meth c s₁ [] 0 0 := Stand.of_body Bd
  have e0 : s₁.heap = h0 := by rw [← hh, Bd.state]; rfl
  have N0 := Fr.nil n0
  have k0 : own_To p e below s₁ (mkF m 0 #[.val (.ref a0_)] []) s₁ (entryFrame m #[(.ref a0_)] 1) := fun t k => castTop (own_ef9 m a0_) k
  have ki : own_To p e below s₁ (mkF m 0 #[.val (.ref a0_)] []) s₁ (mkF m 0 #[.val (.ref a0_)] []) := fun t q => q
  obtain ⟨_, _, ⟨T1, L1, kk1, n1⟩, -, X1, ⟨Lc1, hQ1, l1, y1, z1⟩, st1⟩ := X0.specialBack hx (y := (⟨"java/lang/AbstractStringBuilder", "<init>", "(I)V"⟩ : MethodName)) rfl hown (mvT hZ (hw _ (List.mem_of_getElem? (i := 48) rfl))) (mvT hZ (hw _ (List.mem_of_getElem? (i := 49) rfl))) (mvT hZ (hw _ (List.mem_of_getElem? (i := 53) rfl))) (by decide) (backOf (W := 0) (rm10 l Z a0 hw [] a0_ cs h0 n0 Z0 F_value F_coder F_count E_ g_ SC hcs O0) hZ (hw _ (List.mem_of_getElem? (i := 53) rfl)) (hw _ (List.mem_of_getElem? (i := 52) rfl)) (by decide) (by decide)) (g := (mkF m 3 #[.val (.ref a0_)] [(.int (16 : Int32)), (.ref a0_)])) rfl (by rw [hml]; rfl) (Steps.refl _) (a := a0_) (argsL := [(.int (16 : Int32))]) (rest := []) (lenOf own_pd13 rfl) rfl (by show 2 * 0 + _ ≤ _; exact Nat.le_of_eq rfl) (hb hby own_d9_3) (fun _ _ => ⟨rfl, e0, (by decide : 0 + 1 ≤ _), (by decide : 0 + 16 ≤ _)⟩)
  dsimp only [Pt.U, Pt.locs, Pt.cells, Pt.slots] at X1 l1 y1 z1 st1 hQ1
  subst l1 y1 z1
  obtain ⟨rb1, kb1, rfl, N1q, K1, z1z, P1⟩ := hQ1
  have ne_a0__rb1 : a0_ ≠ rb1 := Nat.ne_of_lt (Nat.lt_of_lt_of_le E_.lt z1z)
  have K2 : Keep h0 h0 [a0_] := (Keep.refl h0 [a0_])
  have sz_rb1 : h0.size ≤ rb1 := Nat.le_trans K2.1 z1z
  have ge_rb1 : n0 ≤ rb1 := Nat.le_trans Z0 sz_rb1
  have N1 := Fr.app N0 N1q
  have P3 : own_sb Z T1.heap a0_ rb1 kb1 (16 : Int32) (0 : Int32) ([] : List Value) := ⟨(own_sbo P1).1, (own_sbo P1).2.1, (own_sbo P1).2.2.1, (own_sbo P1).2.2.2.1, (own_sbo P1).2.2.2.2.1, (own_sbo P1).2.2.2.2.2.1, (own_sbo P1).2.2.2.2.2.2⟩
  have K4 : Keep h0 T1.heap [a0_] := (K2.trans K1 (allS (P := fun x => x ∈ ([a0_] : List Addr) ∨ h0.size ≤ x) (Or.inl (List.mem_of_getElem? (i := 0) rfl)) all0))
  have k5 : own_To p e below T1 (mkF m 6 #[.val (.ref a0_)] []) s₁ (mkF m 0 #[.val (.ref a0_)] []) := fun t q => ki t (by
    refine XS.aloadN X0.here hx rfl (hb hby own_d9_0) rfl rfl ?_
    show Steps p.tables e below (s₁.setTop (mkF m 1 #[.val (.ref a0_)] [(.ref a0_)])) _
    refine XS.bipush X0.here hx rfl (hb hby own_d9_1) ?_
    show Steps p.tables e below (s₁.setTop (mkF m 3 #[.val (.ref a0_)] [(.int (16 : Int32)), (.ref a0_)])) _
    refine st1.trans ?_
    show Steps p.tables e below (T1.setTop (mkF m 6 #[.val (.ref a0_)] [])) _
    exact q)
  obtain ⟨fs, hr, hrun, hended, hW, hsame⟩ := X1.leave (v := none) (fun _ => rfl)
  refine ⟨_, _, k0 _ (k5 _ ?_), hrun, hended, _, _, rfl, ?_, ⟨_, rfl⟩, hW, hsame.mono (by decide) (by decide)⟩
  · show Steps p.tables e below (T1.setTop (mkF m 6 #[.val (.ref a0_)] [])) _
    exact X1.returnOut hx Bd.returns (hb hby own_d9_6) hr
  · show Q9 Z a0_ cs h0 n0 _ T1.heap _
    exact ⟨rb1, kb1, rfl, N1, K4, sz_rb1, P3⟩
theorem own_34 {p : Int32} (h : 16 < p.toInt ∧ p.toInt ≤ 34) : (16 : Int32) + (own_max (p - (16 : Int32)) ((16 : Int32) + (2 : Int32))) = 34 := by
  have h16 : (16 : Int32).toInt = 16 := rfl
  have q := own_sub p 16 (by rw [h16]; omega)
  have e : own_max (p - (16 : Int32)) ((16 : Int32) + (2 : Int32)) = 18 := by
    unfold own_max
    by_cases c : p - (16 : Int32) < (16 : Int32) + (2 : Int32)
    · rw [if_pos c]; decide
    · rw [if_neg c]
      rw [Int32.lt_iff_toInt_lt, show ((16 : Int32) + (2 : Int32)).toInt = 18 from by decide] at c
      apply Int32.toInt_inj.mp
      rw [show (18 : Int32).toInt = 18 from rfl]; omega
  rw [e]; decide
theorem own_fit {c y p : Int32} (h0 : 0 ≤ c.toInt) (h1 : 0 ≤ y.toInt) (h : c.toInt + y.toInt ≤ 34) (hp : c + y = p) : p.toInt = c.toInt + y.toInt := by rw [← hp]; exact own_add c y (by omega)
theorem own_fitN {p : Int32} (h0 : 0 ≤ p.toInt) (h : p.toInt ≤ 16) : ¬ (0 : Int32) < p - (16 : Int32) := by
  have h16 : (16 : Int32).toInt = 16 := rfl
  rw [Int32.lt_iff_toInt_lt, own_sub p 16 (by rw [h16]; omega), show (0 : Int32).toInt = 0 from rfl]; omega
theorem own_fitY {p : Int32} (h : 16 < p.toInt ∧ p.toInt ≤ 34) : (0 : Int32) < p - (16 : Int32) := by
  have h16 : (16 : Int32).toInt = 16 := rfl
  rw [Int32.lt_iff_toInt_lt, own_sub p 16 (by rw [h16]; omega), show (0 : Int32).toInt = 0 from rfl]; omega
theorem own_len2 {c y p : Int32} {vs xs : List Value} (h0 : 0 ≤ c.toInt) (h1 : 0 ≤ y.toInt) (hp : p.toInt = c.toInt + y.toInt) (a : vs.length = c.toNatClampNeg) (b : xs.length = y.toNatClampNeg) : (vs ++ xs).length = p.toNatClampNeg := by
  rw [List.length_append, a, b]
  have := own_tn h0
  have := own_tn h1
  have := own_tn (z := p) (by omega)
  omega
theorem own_tn2 {c y z p : Int32} (h0 : 0 ≤ c.toInt) (h1 : 0 ≤ y.toInt) (hp : p.toInt = c.toInt + y.toInt) (h : p.toInt ≤ z.toInt) : c.toNatClampNeg + y.toNatClampNeg ≤ z.toNatClampNeg := by
  have := own_tn h0
  have := own_tn h1
  have := own_tn (z := z) (by omega)
  omega
theorem own_pd16 : parseMethodDescriptor "(III)I" = some ⟨[.int, .int, .int], some .int⟩ := by decide +kernel
theorem own_d31_0 : decode jdk_68_method_10_code 0 = .ok (.aload_n 0, 1) := by decide +kernel
theorem own_d31_1 : decode jdk_68_method_10_code 1 = .ok (.getfield 15, 3) := by decide +kernel
theorem own_d31_4 : decode jdk_68_method_10_code 4 = .ok (.arraylength, 1) := by decide +kernel
theorem own_d31_5 : decode jdk_68_method_10_code 5 = .ok (.istore_n 2, 1) := by decide +kernel
theorem own_d31_6 : decode jdk_68_method_10_code 6 = .ok (.iload_n 1, 1) := by decide +kernel
theorem own_d31_7 : decode jdk_68_method_10_code 7 = .ok (.aload_n 0, 1) := by decide +kernel
theorem own_d31_8 : decode jdk_68_method_10_code 8 = .ok (.getfield 22, 3) := by decide +kernel
theorem own_d31_11 : decode jdk_68_method_10_code 11 = .ok (.ishl, 1) := by decide +kernel
theorem own_d31_12 : decode jdk_68_method_10_code 12 = .ok (.istore_n 3, 1) := by decide +kernel
theorem own_d31_13 : decode jdk_68_method_10_code 13 = .ok (.iload_n 3, 1) := by decide +kernel
theorem own_d31_14 : decode jdk_68_method_10_code 14 = .ok (.iload_n 2, 1) := by decide +kernel
theorem own_d31_15 : decode jdk_68_method_10_code 15 = .ok (.isub, 1) := by decide +kernel
theorem own_d31_16 : decode jdk_68_method_10_code 16 = .ok (.istore 4, 2) := by decide +kernel
theorem own_d31_18 : decode jdk_68_method_10_code 18 = .ok (.iload_n 2, 1) := by decide +kernel
theorem own_d31_19 : decode jdk_68_method_10_code 19 = .ok (.iload 4, 2) := by decide +kernel
theorem own_d31_21 : decode jdk_68_method_10_code 21 = .ok (.iload_n 2, 1) := by decide +kernel
theorem own_d31_22 : decode jdk_68_method_10_code 22 = .ok (.iconst 2, 1) := by decide +kernel
theorem own_d31_23 : decode jdk_68_method_10_code 23 = .ok (.aload_n 0, 1) := by decide +kernel
theorem own_d31_24 : decode jdk_68_method_10_code 24 = .ok (.getfield 22, 3) := by decide +kernel
theorem own_d31_27 : decode jdk_68_method_10_code 27 = .ok (.ishl, 1) := by decide +kernel
theorem own_d31_28 : decode jdk_68_method_10_code 28 = .ok (.iadd, 1) := by decide +kernel
theorem own_d31_29 : decode jdk_68_method_10_code 29 = .ok (.invokestatic 114, 3) := by decide +kernel
theorem own_d31_32 : decode jdk_68_method_10_code 32 = .ok (.istore 5, 2) := by decide +kernel
theorem own_d31_34 : decode jdk_68_method_10_code 34 = .ok (.iload 5, 2) := by decide +kernel
theorem own_d31_36 : decode jdk_68_method_10_code 36 = .ok (.ldc 39, 2) := by decide +kernel
theorem own_d31_38 : decode jdk_68_method_10_code 38 = .ok (.if_icmp .ne 13, 3) := by decide +kernel
theorem own_d31_51 : decode jdk_68_method_10_code 51 = .ok (.iload 5, 2) := by decide +kernel
theorem own_d31_53 : decode jdk_68_method_10_code 53 = .ok (.aload_n 0, 1) := by decide +kernel
theorem own_d31_54 : decode jdk_68_method_10_code 54 = .ok (.getfield 22, 3) := by decide +kernel
theorem own_d31_57 : decode jdk_68_method_10_code 57 = .ok (.ishr, 1) := by decide +kernel
theorem own_d31_58 : decode jdk_68_method_10_code 58 = .ok (.ireturn, 1) := by decide +kernel
theorem own_pn31 : plainName "java/lang/AbstractStringBuilder" = true := by first | (simp [plainName, overriddenIn]; done) | decide +kernel
theorem own_ef31 (m : MethodId) (x0 : Addr) (x1 : Int32) : entryFrame m #[(.ref x0), (.int x1)] 6 = mkF m 0 #[.val (.ref x0), .val (.int x1), .unset, .unset, .unset, .unset] [] := by first | (simp [entryFrame, mkF, argsToLocals, Value.category]; done) | rfl
def Q31 (Z : State) (a0_ : Addr) (p1 : Int32) (b_ : Addr) (ks_ : ClassId) (c_ : Int32) (vs_ : List Value) (h0 : Heap) (n0 : Nat) (v : Option Value) (h : Heap) (L : List Loc) : Prop := v = some (.int (34 : Int32)) ∧ Fr n0 L ∧ h = h0
set_option maxRecDepth 65536 in
set_option maxHeartbeats 40000000 in
theorem rm31 (l : Launch) (Z : State) (a0 : Array Value) (hw : ∀ d ∈ tables_1, d.before a0 Z = true) (ws : List Jvm.Cond) (a0_ : Addr) (p1 : Int32) (b_ : Addr) (ks_ : ClassId) (c_ : Int32) (vs_ : List Value) (h0 : Heap) (n0 : Nat) (Z0 : n0 ≤ h0.size) (P0 : own_sb Z h0 a0_ b_ ks_ (16 : Int32) c_ vs_) (h1 : 16 < p1.toInt ∧ p1.toInt ≤ 34) :
    MetFree l (⟨"java/lang/AbstractStringBuilder", "newCapacity", "(I)I"⟩ : MethodName) (head1 (Jvm.Cond.code (⟨"java/lang/AbstractStringBuilder", "newCapacity", "(I)I"⟩ : MethodName) jdk_68_method_10_code 6 (some .int) :: ws) ({ frames := 2, cells := 0, slots := 0, locals := 29 } : Room)) (fun a U => a = #[(.ref a0_), (.int p1)] ∧ Z.Warmed39 U.vm ∧ U.heap = h0) (fun _ _ _ _ _ => True) (fun _ U o U' => ∃ v L, o = .returned v ∧ Q31 Z a0_ p1 b_ ks_ c_ vs_ h0 n0 v U'.heap L ∧ FrameEnd U o U' L ({ frames := 2, cells := 0, slots := 0, locals := 29 } : Room).cells ({ frames := 2, cells := 0, slots := 0, locals := 29 } : Room).slots) := by
  refine MetFree.of_bodySF (plainFor_of_name own_pn31) hisR ?_
  intro p e s m args below meth c s₁ Bd hml0 hP hK
  obtain ⟨rfl, hZ, hh⟩ := hP
  have hx := Bd.exec
  have hby := Bd.bytes
  have hml : c.maxLocals = 6 := hml0
  have hown : s.vm.findClass "java/lang/AbstractStringBuilder" = some m.cls := findClass_of_methodNamed Bd.named
  have hnm := (name_of_methodNamed Bd.named Bd.method).1
  have X0 : Stand p l e ({ frames := 2, cells := 0, slots := 0, locals := 29 } : Room) s m #[(.ref a0_), (.int p1)] below meth c s₁ [] 0 0 := Stand.of_body Bd
  have e0 : s₁.heap = h0 := by rw [← hh, Bd.state]; rfl
  have N0 := Fr.nil n0
  have k0 : own_To p e below s₁ (mkF m 0 #[.val (.ref a0_), .val (.int p1), .unset, .unset, .unset, .unset] []) s₁ (entryFrame m #[(.ref a0_), (.int p1)] 6) := fun t k => castTop (own_ef31 m a0_ p1) k
  have ki : own_To p e below s₁ (mkF m 0 #[.val (.ref a0_), .val (.int p1), .unset, .unset, .unset, .unset] []) s₁ (mkF m 0 #[.val (.ref a0_), .val (.int p1), .unset, .unset, .unset, .unset] []) := fun t q => q
  have nab : a0_ ≠ b_ := Exa.neArv (own_sbo P0).1 (own_sbo P0).2.2.2.2.1 (hw _ (List.mem_of_getElem? (i := 43) rfl))
  obtain ⟨T1, X1, e1, st1⟩ := getF X0 hx hZ hown (host := "") (Or.inl (hw _ (List.mem_of_getElem? (i := 56) rfl))) Via.refl e0 (own_sbo P0).2.1 (g := (mkF m 1 #[.val (.ref a0_), .val (.int p1), .unset, .unset, .unset, .unset] [(.ref a0_)])) rfl rfl (hb hby own_d31_1)
  obtain ⟨clr2, Arr2, qr2, Sr2, Mr2, Hhr2, Gr2⟩ := id (own_sbo P0).2.2.2.2.1
  obtain ⟨T3, X3, e3, st3⟩ := getF X1 hx hZ hown (host := "") (Or.inl (hw _ (List.mem_of_getElem? (i := 58) rfl))) Via.refl e1 (own_sbo P0).2.2.1 (g := (mkF m 8 #[.val (.ref a0_), .val (.int p1), .val (.int (16 : Int32)), .unset, .unset, .unset] [(.ref a0_), (.int p1)])) rfl rfl (hb hby own_d31_8)
  have q4 := own_shl0 p1
  have k5 : own_To p e below T3 (mkF m 12 #[.val (.ref a0_), .val (.int p1), .val (.int (16 : Int32)), .unset, .unset, .unset] [(.int (p1 <<< ((0 : Int32) &&& 31)))]) s₁ (mkF m 0 #[.val (.ref a0_), .val (.int p1), .unset, .unset, .unset, .unset] []) := fun t q => ki t (by
    refine XS.aloadN X0.here hx rfl (hb hby own_d31_0) rfl rfl ?_
    show Steps p.tables e below (s₁.setTop (mkF m 1 #[.val (.ref a0_), .val (.int p1), .unset, .unset, .unset, .unset] [(.ref a0_)])) _
    refine st1 _ ?_
    show Steps p.tables e below (T1.setTop (mkF m 4 #[.val (.ref a0_), .val (.int p1), .unset, .unset, .unset, .unset] [(.ref b_)])) _
    refine X1.arraylength hx (by rw [e1]; exact Arr2.1) (State.isArrayOf_alike hZ.alike Arr2.2.1) (g := (mkF m 4 #[.val (.ref a0_), .val (.int p1), .unset, .unset, .unset, .unset] [(.ref b_)])) rfl rfl (hb hby own_d31_4) _ ?_
    rw [len_of Sr2 Mr2]
    show Steps p.tables e below (T1.setTop (mkF m 5 #[.val (.ref a0_), .val (.int p1), .unset, .unset, .unset, .unset] [(.int (16 : Int32))])) _
    refine XS.istoreN X1.here hx rfl (hb hby own_d31_5) rfl (l' := #[.val (.ref a0_), .val (.int p1), .val (.int (16 : Int32)), .unset, .unset, .unset]) rfl ?_
    show Steps p.tables e below (T1.setTop (mkF m 6 #[.val (.ref a0_), .val (.int p1), .val (.int (16 : Int32)), .unset, .unset, .unset] [])) _
    refine XS.iloadN X1.here hx rfl (hb hby own_d31_6) rfl ?_
    show Steps p.tables e below (T1.setTop (mkF m 7 #[.val (.ref a0_), .val (.int p1), .val (.int (16 : Int32)), .unset, .unset, .unset] [(.int p1)])) _
    refine XS.aloadN X1.here hx rfl (hb hby own_d31_7) rfl rfl ?_
    show Steps p.tables e below (T1.setTop (mkF m 8 #[.val (.ref a0_), .val (.int p1), .val (.int (16 : Int32)), .unset, .unset, .unset] [(.ref a0_), (.int p1)])) _
    refine st3 _ ?_
    show Steps p.tables e below (T3.setTop (mkF m 11 #[.val (.ref a0_), .val (.int p1), .val (.int (16 : Int32)), .unset, .unset, .unset] [(.int (0 : Int32)), (.int p1)])) _
    refine XS.ishl X3.here hx rfl (hb hby own_d31_11) rfl ?_
    show Steps p.tables e below (T3.setTop (mkF m 12 #[.val (.ref a0_), .val (.int p1), .val (.int (16 : Int32)), .unset, .unset, .unset] [(.int (p1 <<< ((0 : Int32) &&& 31)))])) _
    exact q)
  have k6 : own_To p e below T3 (mkF m 12 #[.val (.ref a0_), .val (.int p1), .val (.int (16 : Int32)), .unset, .unset, .unset] [(.int p1)]) s₁ (mkF m 0 #[.val (.ref a0_), .val (.int p1), .unset, .unset, .unset, .unset] []) := by rw [q4] at k5; exact k5
  obtain ⟨T7, X7, e7, st7⟩ := getF X3 hx hZ hown (host := "") (Or.inl (hw _ (List.mem_of_getElem? (i := 58) rfl))) Via.refl e3 (own_sbo P0).2.2.1 (g := (mkF m 24 #[.val (.ref a0_), .val (.int p1), .val (.int (16 : Int32)), .val (.int p1), .val (.int (p1 - (16 : Int32))), .unset] [(.ref a0_), (.int (2 : Int32)), (.int (16 : Int32)), (.int (p1 - (16 : Int32))), (.int (16 : Int32))])) rfl rfl (hb hby own_d31_24)
  have k8 : own_To p e below T7 (mkF m 28 #[.val (.ref a0_), .val (.int p1), .val (.int (16 : Int32)), .val (.int p1), .val (.int (p1 - (16 : Int32))), .unset] [(.int ((2 : Int32) <<< ((0 : Int32) &&& 31))), (.int (16 : Int32)), (.int (p1 - (16 : Int32))), (.int (16 : Int32))]) s₁ (mkF m 0 #[.val (.ref a0_), .val (.int p1), .unset, .unset, .unset, .unset] []) := fun t q => k6 t (by
    refine XS.istoreN X3.here hx rfl (hb hby own_d31_12) rfl (l' := #[.val (.ref a0_), .val (.int p1), .val (.int (16 : Int32)), .val (.int p1), .unset, .unset]) rfl ?_
    show Steps p.tables e below (T3.setTop (mkF m 13 #[.val (.ref a0_), .val (.int p1), .val (.int (16 : Int32)), .val (.int p1), .unset, .unset] [])) _
    refine XS.iloadN X3.here hx rfl (hb hby own_d31_13) rfl ?_
    show Steps p.tables e below (T3.setTop (mkF m 14 #[.val (.ref a0_), .val (.int p1), .val (.int (16 : Int32)), .val (.int p1), .unset, .unset] [(.int p1)])) _
    refine XS.iloadN X3.here hx rfl (hb hby own_d31_14) rfl ?_
    show Steps p.tables e below (T3.setTop (mkF m 15 #[.val (.ref a0_), .val (.int p1), .val (.int (16 : Int32)), .val (.int p1), .unset, .unset] [(.int (16 : Int32)), (.int p1)])) _
    refine XS.isub X3.here hx rfl (hb hby own_d31_15) rfl ?_
    show Steps p.tables e below (T3.setTop (mkF m 16 #[.val (.ref a0_), .val (.int p1), .val (.int (16 : Int32)), .val (.int p1), .unset, .unset] [(.int (p1 - (16 : Int32)))])) _
    refine XS.istore X3.here hx rfl (hb hby own_d31_16) rfl (l' := #[.val (.ref a0_), .val (.int p1), .val (.int (16 : Int32)), .val (.int p1), .val (.int (p1 - (16 : Int32))), .unset]) rfl ?_
    show Steps p.tables e below (T3.setTop (mkF m 18 #[.val (.ref a0_), .val (.int p1), .val (.int (16 : Int32)), .val (.int p1), .val (.int (p1 - (16 : Int32))), .unset] [])) _
    refine XS.iloadN X3.here hx rfl (hb hby own_d31_18) rfl ?_
    show Steps p.tables e below (T3.setTop (mkF m 19 #[.val (.ref a0_), .val (.int p1), .val (.int (16 : Int32)), .val (.int p1), .val (.int (p1 - (16 : Int32))), .unset] [(.int (16 : Int32))])) _
    refine XS.iload X3.here hx rfl (hb hby own_d31_19) rfl ?_
    show Steps p.tables e below (T3.setTop (mkF m 21 #[.val (.ref a0_), .val (.int p1), .val (.int (16 : Int32)), .val (.int p1), .val (.int (p1 - (16 : Int32))), .unset] [(.int (p1 - (16 : Int32))), (.int (16 : Int32))])) _
    refine XS.iloadN X3.here hx rfl (hb hby own_d31_21) rfl ?_
    show Steps p.tables e below (T3.setTop (mkF m 22 #[.val (.ref a0_), .val (.int p1), .val (.int (16 : Int32)), .val (.int p1), .val (.int (p1 - (16 : Int32))), .unset] [(.int (16 : Int32)), (.int (p1 - (16 : Int32))), (.int (16 : Int32))])) _
    refine XS.iconst X3.here hx rfl (hb hby own_d31_22) ?_
    show Steps p.tables e below (T3.setTop (mkF m 23 #[.val (.ref a0_), .val (.int p1), .val (.int (16 : Int32)), .val (.int p1), .val (.int (p1 - (16 : Int32))), .unset] [(.int (2 : Int32)), (.int (16 : Int32)), (.int (p1 - (16 : Int32))), (.int (16 : Int32))])) _
    refine XS.aloadN X3.here hx rfl (hb hby own_d31_23) rfl rfl ?_
    show Steps p.tables e below (T3.setTop (mkF m 24 #[.val (.ref a0_), .val (.int p1), .val (.int (16 : Int32)), .val (.int p1), .val (.int (p1 - (16 : Int32))), .unset] [(.ref a0_), (.int (2 : Int32)), (.int (16 : Int32)), (.int (p1 - (16 : Int32))), (.int (16 : Int32))])) _
    refine st7 _ ?_
    show Steps p.tables e below (T7.setTop (mkF m 27 #[.val (.ref a0_), .val (.int p1), .val (.int (16 : Int32)), .val (.int p1), .val (.int (p1 - (16 : Int32))), .unset] [(.int (0 : Int32)), (.int (2 : Int32)), (.int (16 : Int32)), (.int (p1 - (16 : Int32))), (.int (16 : Int32))])) _
    refine XS.ishl X7.here hx rfl (hb hby own_d31_27) rfl ?_
    show Steps p.tables e below (T7.setTop (mkF m 28 #[.val (.ref a0_), .val (.int p1), .val (.int (16 : Int32)), .val (.int p1), .val (.int (p1 - (16 : Int32))), .unset] [(.int ((2 : Int32) <<< ((0 : Int32) &&& 31))), (.int (16 : Int32)), (.int (p1 - (16 : Int32))), (.int (16 : Int32))])) _
    exact q)
  have q2 : ((2 : Int32) <<< ((0 : Int32) &&& 31)) = 2 := by decide
  have k9 : own_To p e below T7 (mkF m 28 #[.val (.ref a0_), .val (.int p1), .val (.int (16 : Int32)), .val (.int p1), .val (.int (p1 - (16 : Int32))), .unset] [(.int (2 : Int32)), (.int (16 : Int32)), (.int (p1 - (16 : Int32))), (.int (16 : Int32))]) s₁ (mkF m 0 #[.val (.ref a0_), .val (.int p1), .unset, .unset, .unset, .unset] []) := by rw [q2] at k8; exact k8
  have q3 : (16 : Int32) + (own_max (p1 - (16 : Int32)) ((16 : Int32) + (2 : Int32))) = 34 := own_34 h1
  obtain ⟨_, _, ⟨T10, L10, kk10, n10⟩, -, X10, ⟨Lc10, hQ10, l10, y10, z10⟩, st10⟩ := Jvm.LawKit.callS X7 hx (y := (⟨"jdk/internal/util/ArraysSupport", "newLength", "(III)I"⟩ : MethodName)) hown (mvT hZ (hw _ (List.mem_of_getElem? (i := 164) rfl))) (mvT hZ (hw _ (List.mem_of_getElem? (i := 165) rfl))) (mvT hZ (hw _ (List.mem_of_getElem? (i := 166) rfl))) (mvT hZ (hw _ (List.mem_of_getElem? (i := 167) rfl))) (by decide) (backOf (W := 0) (rm32 l Z a0 hw [] (16 : Int32) (p1 - (16 : Int32)) ((16 : Int32) + (2 : Int32)) h0 n0 Z0 (by rw [q3]; decide) (by rw [q3]; decide)) hZ (hw _ (List.mem_of_getElem? (i := 167) rfl)) (hw _ (List.mem_of_getElem? (i := 166) rfl)) (by decide) (by decide)) (g := (mkF m 29 #[.val (.ref a0_), .val (.int p1), .val (.int (16 : Int32)), .val (.int p1), .val (.int (p1 - (16 : Int32))), .unset] [(.int ((16 : Int32) + (2 : Int32))), (.int (p1 - (16 : Int32))), (.int (16 : Int32))])) rfl (by rw [hml]; rfl) (argsL := [(.int (16 : Int32)), (.int (p1 - (16 : Int32))), (.int ((16 : Int32) + (2 : Int32)))]) (rest := []) (lenOf own_pd16 rfl) rfl (by show 2 * 0 + _ ≤ _; exact Nat.le_of_eq rfl) (hb hby own_d31_29) (fun _ _ => ⟨rfl, e7, (by decide : 0 + 0 ≤ _), (by decide : 0 + 0 ≤ _)⟩)
  dsimp only [Pt.U, Pt.locs, Pt.cells, Pt.slots] at X10 l10 y10 z10 st10 hQ10
  subst l10 y10 z10
  obtain ⟨rfl, N10q, e10⟩ := hQ10
  have N10 := Fr.app N0 N10q
  have k11 : own_To p e below T10 (mkF m 32 #[.val (.ref a0_), .val (.int p1), .val (.int (16 : Int32)), .val (.int p1), .val (.int (p1 - (16 : Int32))), .unset] [(.int ((16 : Int32) + (own_max (p1 - (16 : Int32)) ((16 : Int32) + (2 : Int32)))))]) s₁ (mkF m 0 #[.val (.ref a0_), .val (.int p1), .unset, .unset, .unset, .unset] []) := fun t q => k9 t (by
    refine XS.iadd X7.here hx rfl (hb hby own_d31_28) rfl ?_
    show Steps p.tables e below (T7.setTop (mkF m 29 #[.val (.ref a0_), .val (.int p1), .val (.int (16 : Int32)), .val (.int p1), .val (.int (p1 - (16 : Int32))), .unset] [(.int ((16 : Int32) + (2 : Int32))), (.int (p1 - (16 : Int32))), (.int (16 : Int32))])) _
    refine st10 _ ?_
    show Steps p.tables e below (T10.setTop (mkF m 32 #[.val (.ref a0_), .val (.int p1), .val (.int (16 : Int32)), .val (.int p1), .val (.int (p1 - (16 : Int32))), .unset] [(.int ((16 : Int32) + (own_max (p1 - (16 : Int32)) ((16 : Int32) + (2 : Int32)))))])) _
    exact q)
  have k12 : own_To p e below T10 (mkF m 32 #[.val (.ref a0_), .val (.int p1), .val (.int (16 : Int32)), .val (.int p1), .val (.int (p1 - (16 : Int32))), .unset] [(.int (34 : Int32))]) s₁ (mkF m 0 #[.val (.ref a0_), .val (.int p1), .unset, .unset, .unset, .unset] []) := by rw [q3] at k11; exact k11
  obtain ⟨T13, X13, e13, st13⟩ := getF X10 hx hZ hown (host := "") (Or.inl (hw _ (List.mem_of_getElem? (i := 58) rfl))) Via.refl e10 (own_sbo P0).2.2.1 (g := (mkF m 54 #[.val (.ref a0_), .val (.int p1), .val (.int (16 : Int32)), .val (.int p1), .val (.int (p1 - (16 : Int32))), .val (.int (34 : Int32))] [(.ref a0_), (.int (34 : Int32))])) rfl rfl (hb hby own_d31_54)
  have k14 : own_To p e below T13 (mkF m 58 #[.val (.ref a0_), .val (.int p1), .val (.int (16 : Int32)), .val (.int p1), .val (.int (p1 - (16 : Int32))), .val (.int (34 : Int32))] [(.int ((34 : Int32) >>> ((0 : Int32) &&& 31)))]) s₁ (mkF m 0 #[.val (.ref a0_), .val (.int p1), .unset, .unset, .unset, .unset] []) := fun t q => k12 t (by
    refine XS.istore X10.here hx rfl (hb hby own_d31_32) rfl (l' := #[.val (.ref a0_), .val (.int p1), .val (.int (16 : Int32)), .val (.int p1), .val (.int (p1 - (16 : Int32))), .val (.int (34 : Int32))]) rfl ?_
    show Steps p.tables e below (T10.setTop (mkF m 34 #[.val (.ref a0_), .val (.int p1), .val (.int (16 : Int32)), .val (.int p1), .val (.int (p1 - (16 : Int32))), .val (.int (34 : Int32))] [])) _
    refine XS.iload X10.here hx rfl (hb hby own_d31_34) rfl ?_
    show Steps p.tables e below (T10.setTop (mkF m 36 #[.val (.ref a0_), .val (.int p1), .val (.int (16 : Int32)), .val (.int p1), .val (.int (p1 - (16 : Int32))), .val (.int (34 : Int32))] [(.int (34 : Int32))])) _
    refine X10.ldcInt hx hown (mvT hZ (hw _ (List.mem_of_getElem? (i := 172) rfl))) (g := (mkF m 36 #[.val (.ref a0_), .val (.int p1), .val (.int (16 : Int32)), .val (.int p1), .val (.int (p1 - (16 : Int32))), .val (.int (34 : Int32))] [(.int (34 : Int32))])) rfl (hb hby own_d31_36) _ ?_
    show Steps p.tables e below (T10.setTop (mkF m 38 #[.val (.ref a0_), .val (.int p1), .val (.int (16 : Int32)), .val (.int p1), .val (.int (p1 - (16 : Int32))), .val (.int (34 : Int32))] [(.int (2147483647 : Int32)), (.int (34 : Int32))])) _
    refine XS.icmpYes X10.here hx rfl (pc0 := 38) (pc' := 51) rfl (hb hby own_d31_38) rfl (feq (by decide)).2 (by decide) (by decide) ?_
    show Steps p.tables e below (T10.setTop (mkF m 51 #[.val (.ref a0_), .val (.int p1), .val (.int (16 : Int32)), .val (.int p1), .val (.int (p1 - (16 : Int32))), .val (.int (34 : Int32))] [])) _
    refine XS.iload X10.here hx rfl (hb hby own_d31_51) rfl ?_
    show Steps p.tables e below (T10.setTop (mkF m 53 #[.val (.ref a0_), .val (.int p1), .val (.int (16 : Int32)), .val (.int p1), .val (.int (p1 - (16 : Int32))), .val (.int (34 : Int32))] [(.int (34 : Int32))])) _
    refine XS.aloadN X10.here hx rfl (hb hby own_d31_53) rfl rfl ?_
    show Steps p.tables e below (T10.setTop (mkF m 54 #[.val (.ref a0_), .val (.int p1), .val (.int (16 : Int32)), .val (.int p1), .val (.int (p1 - (16 : Int32))), .val (.int (34 : Int32))] [(.ref a0_), (.int (34 : Int32))])) _
    refine st13 _ ?_
    show Steps p.tables e below (T13.setTop (mkF m 57 #[.val (.ref a0_), .val (.int p1), .val (.int (16 : Int32)), .val (.int p1), .val (.int (p1 - (16 : Int32))), .val (.int (34 : Int32))] [(.int (0 : Int32)), (.int (34 : Int32))])) _
    refine XS.ishr X13.here hx rfl (hb hby own_d31_57) rfl ?_
    show Steps p.tables e below (T13.setTop (mkF m 58 #[.val (.ref a0_), .val (.int p1), .val (.int (16 : Int32)), .val (.int p1), .val (.int (p1 - (16 : Int32))), .val (.int (34 : Int32))] [(.int ((34 : Int32) >>> ((0 : Int32) &&& 31)))])) _
    exact q)
  obtain ⟨fs, hr, hrun, hended, hW, hsame⟩ := X13.leave (v := some (.int ((34 : Int32) >>> ((0 : Int32) &&& 31)))) (fun h => by rw [Bd.returns] at h; cases h)
  refine ⟨_, _, k0 _ (k14 _ ?_), hrun, hended, _, _, rfl, ?_, ⟨_, rfl⟩, hW, hsame.mono (by decide) (by decide)⟩
  · show Steps p.tables e below (T13.setTop (mkF m 58 #[.val (.ref a0_), .val (.int p1), .val (.int (16 : Int32)), .val (.int p1), .val (.int (p1 - (16 : Int32))), .val (.int (34 : Int32))] [(.int ((34 : Int32) >>> ((0 : Int32) &&& 31)))])) _
    exact retOut X13 hx Bd.returns rfl (Or.inl ⟨rfl, Or.inl rfl, _, rfl⟩) (hb hby own_d31_58) hr
  · show Q31 Z a0_ p1 b_ ks_ c_ vs_ h0 n0 _ T13.heap _
    rw [e13]
    exact ⟨congrArg (fun z => some (Value.int z)) (own_shr0 _), N10, rfl⟩
theorem own_d15_0 : decode jdk_68_method_9_code 0 = .ok (.aload_n 0, 1) := by decide +kernel
theorem own_d15_1 : decode jdk_68_method_9_code 1 = .ok (.getfield 15, 3) := by decide +kernel
theorem own_d15_4 : decode jdk_68_method_9_code 4 = .ok (.arraylength, 1) := by decide +kernel
theorem own_d15_5 : decode jdk_68_method_9_code 5 = .ok (.aload_n 0, 1) := by decide +kernel
theorem own_d15_6 : decode jdk_68_method_9_code 6 = .ok (.getfield 22, 3) := by decide +kernel
theorem own_d15_9 : decode jdk_68_method_9_code 9 = .ok (.ishr, 1) := by decide +kernel
theorem own_d15_10 : decode jdk_68_method_9_code 10 = .ok (.istore_n 2, 1) := by decide +kernel
theorem own_d15_11 : decode jdk_68_method_9_code 11 = .ok (.iload_n 1, 1) := by decide +kernel
theorem own_d15_12 : decode jdk_68_method_9_code 12 = .ok (.iload_n 2, 1) := by decide +kernel
theorem own_d15_13 : decode jdk_68_method_9_code 13 = .ok (.isub, 1) := by decide +kernel
theorem own_d15_14 : decode jdk_68_method_9_code 14 = .ok (.ifCond .le 24, 3) := by decide +kernel
theorem own_d15_38 : decode jdk_68_method_9_code 38 = .ok (.return_, 1) := by decide +kernel
theorem own_pn15 : plainName "java/lang/AbstractStringBuilder" = true := by first | (simp [plainName, overriddenIn]; done) | decide +kernel
theorem own_efE1 (m : MethodId) (x0 : Addr) (x1 : Int32) : entryFrame m #[(.ref x0), (.int x1)] 3 = mkF m 0 #[.val (.ref x0), .val (.int x1), .unset] [] := by first | (simp [entryFrame, mkF, argsToLocals, Value.category]; done) | rfl
def QE1 (Z : State) (a0_ : Addr) (p1 : Int32) (b_ : Addr) (ks_ : ClassId) (c_ : Int32) (vs_ : List Value) (h0 : Heap) (n0 : Nat) (v : Option Value) (h : Heap) (L : List Loc) : Prop := v = none ∧ Fr n0 L ∧ h = h0
set_option maxRecDepth 65536 in
set_option maxHeartbeats 40000000 in
theorem rmE1 (l : Launch) (Z : State) (a0 : Array Value) (hw : ∀ d ∈ tables_1, d.before a0 Z = true) (ws : List Jvm.Cond) (a0_ : Addr) (p1 : Int32) (b_ : Addr) (ks_ : ClassId) (c_ : Int32) (vs_ : List Value) (h0 : Heap) (n0 : Nat) (Z0 : n0 ≤ h0.size) (P0 : own_sb Z h0 a0_ b_ ks_ (16 : Int32) c_ vs_) (hp : ¬ (0 : Int32) < p1 - (16 : Int32)) :
    MetFree l (⟨"java/lang/AbstractStringBuilder", "ensureCapacityInternal", "(I)V"⟩ : MethodName) (head1 (Jvm.Cond.code (⟨"java/lang/AbstractStringBuilder", "ensureCapacityInternal", "(I)V"⟩ : MethodName) jdk_68_method_9_code 3 none :: ws) ({ frames := 0, cells := 0, slots := 0, locals := 0 } : Room)) (fun a U => a = #[(.ref a0_), (.int p1)] ∧ Z.Warmed39 U.vm ∧ U.heap = h0) (fun _ _ _ _ _ => True) (fun _ U o U' => ∃ v L, o = .returned v ∧ QE1 Z a0_ p1 b_ ks_ c_ vs_ h0 n0 v U'.heap L ∧ FrameEnd U o U' L ({ frames := 0, cells := 0, slots := 0, locals := 0 } : Room).cells ({ frames := 0, cells := 0, slots := 0, locals := 0 } : Room).slots) := by
  refine MetFree.of_bodySF (plainFor_of_name own_pn15) hisR ?_
  intro p e s m args below meth c s₁ Bd hml0 hP hK
  obtain ⟨rfl, hZ, hh⟩ := hP
  have hx := Bd.exec
  have hby := Bd.bytes
  have hml : c.maxLocals = 3 := hml0
  have hown : s.vm.findClass "java/lang/AbstractStringBuilder" = some m.cls := findClass_of_methodNamed Bd.named
  have hnm := (name_of_methodNamed Bd.named Bd.method).1
  have X0 : Stand p l e ({ frames := 0, cells := 0, slots := 0, locals := 0 } : Room) s m #[(.ref a0_), (.int p1)] below meth c s₁ [] 0 0 := Stand.of_body Bd
  have e0 : s₁.heap = h0 := by rw [← hh, Bd.state]; rfl
  have N0 := Fr.nil n0
  have k0 : own_To p e below s₁ (mkF m 0 #[.val (.ref a0_), .val (.int p1), .unset] []) s₁ (entryFrame m #[(.ref a0_), (.int p1)] 3) := fun t k => castTop (own_efE1 m a0_ p1) k
  have ki : own_To p e below s₁ (mkF m 0 #[.val (.ref a0_), .val (.int p1), .unset] []) s₁ (mkF m 0 #[.val (.ref a0_), .val (.int p1), .unset] []) := fun t q => q
  have nab : a0_ ≠ b_ := Exa.neArv (own_sbo P0).1 (own_sbo P0).2.2.2.2.1 (hw _ (List.mem_of_getElem? (i := 43) rfl))
  obtain ⟨T1, X1, e1, st1⟩ := getF X0 hx hZ hown (host := "") (Or.inl (hw _ (List.mem_of_getElem? (i := 56) rfl))) Via.refl e0 (own_sbo P0).2.1 (g := (mkF m 1 #[.val (.ref a0_), .val (.int p1), .unset] [(.ref a0_)])) rfl rfl (hb hby own_d15_1)
  obtain ⟨clr2, Arr2, qr2, Sr2, Mr2, Hhr2, Gr2⟩ := id (own_sbo P0).2.2.2.2.1
  obtain ⟨T3, X3, e3, st3⟩ := getF X1 hx hZ hown (host := "") (Or.inl (hw _ (List.mem_of_getElem? (i := 58) rfl))) Via.refl e1 (own_sbo P0).2.2.1 (g := (mkF m 6 #[.val (.ref a0_), .val (.int p1), .unset] [(.ref a0_), (.int (16 : Int32))])) rfl rfl (hb hby own_d15_6)
  have q4 := own_shr0 (16 : Int32)
  have k5 : own_To p e below T3 (mkF m 10 #[.val (.ref a0_), .val (.int p1), .unset] [(.int ((16 : Int32) >>> ((0 : Int32) &&& 31)))]) s₁ (mkF m 0 #[.val (.ref a0_), .val (.int p1), .unset] []) := fun t q => ki t (by
    refine XS.aloadN X0.here hx rfl (hb hby own_d15_0) rfl rfl ?_
    show Steps p.tables e below (s₁.setTop (mkF m 1 #[.val (.ref a0_), .val (.int p1), .unset] [(.ref a0_)])) _
    refine st1 _ ?_
    show Steps p.tables e below (T1.setTop (mkF m 4 #[.val (.ref a0_), .val (.int p1), .unset] [(.ref b_)])) _
    refine X1.arraylength hx (by rw [e1]; exact Arr2.1) (State.isArrayOf_alike hZ.alike Arr2.2.1) (g := (mkF m 4 #[.val (.ref a0_), .val (.int p1), .unset] [(.ref b_)])) rfl rfl (hb hby own_d15_4) _ ?_
    rw [len_of Sr2 Mr2]
    show Steps p.tables e below (T1.setTop (mkF m 5 #[.val (.ref a0_), .val (.int p1), .unset] [(.int (16 : Int32))])) _
    refine XS.aloadN X1.here hx rfl (hb hby own_d15_5) rfl rfl ?_
    show Steps p.tables e below (T1.setTop (mkF m 6 #[.val (.ref a0_), .val (.int p1), .unset] [(.ref a0_), (.int (16 : Int32))])) _
    refine st3 _ ?_
    show Steps p.tables e below (T3.setTop (mkF m 9 #[.val (.ref a0_), .val (.int p1), .unset] [(.int (0 : Int32)), (.int (16 : Int32))])) _
    refine XS.ishr X3.here hx rfl (hb hby own_d15_9) rfl ?_
    show Steps p.tables e below (T3.setTop (mkF m 10 #[.val (.ref a0_), .val (.int p1), .unset] [(.int ((16 : Int32) >>> ((0 : Int32) &&& 31)))])) _
    exact q)
  have k6 : own_To p e below T3 (mkF m 10 #[.val (.ref a0_), .val (.int p1), .unset] [(.int (16 : Int32))]) s₁ (mkF m 0 #[.val (.ref a0_), .val (.int p1), .unset] []) := by rw [q4] at k5; exact k5
  have k7 : own_To p e below T3 (mkF m 38 #[.val (.ref a0_), .val (.int p1), .val (.int (16 : Int32))] []) s₁ (mkF m 0 #[.val (.ref a0_), .val (.int p1), .unset] []) := fun t q => k6 t (by
    refine XS.istoreN X3.here hx rfl (hb hby own_d15_10) rfl (l' := #[.val (.ref a0_), .val (.int p1), .val (.int (16 : Int32))]) rfl ?_
    show Steps p.tables e below (T3.setTop (mkF m 11 #[.val (.ref a0_), .val (.int p1), .val (.int (16 : Int32))] [])) _
    refine XS.iloadN X3.here hx rfl (hb hby own_d15_11) rfl ?_
    show Steps p.tables e below (T3.setTop (mkF m 12 #[.val (.ref a0_), .val (.int p1), .val (.int (16 : Int32))] [(.int p1)])) _
    refine XS.iloadN X3.here hx rfl (hb hby own_d15_12) rfl ?_
    show Steps p.tables e below (T3.setTop (mkF m 13 #[.val (.ref a0_), .val (.int p1), .val (.int (16 : Int32))] [(.int (16 : Int32)), (.int p1)])) _
    refine XS.isub X3.here hx rfl (hb hby own_d15_13) rfl ?_
    show Steps p.tables e below (T3.setTop (mkF m 14 #[.val (.ref a0_), .val (.int p1), .val (.int (16 : Int32))] [(.int (p1 - (16 : Int32)))])) _
    refine XS.ifYes X3.here hx rfl (pc0 := 14) (pc' := 38) rfl (hb hby own_d15_14) rfl ((if0 _ _).trans (flt hp).2.2.2) (by decide) (by decide) ?_
    show Steps p.tables e below (T3.setTop (mkF m 38 #[.val (.ref a0_), .val (.int p1), .val (.int (16 : Int32))] [])) _
    exact q)
  obtain ⟨fs, hr, hrun, hended, hW, hsame⟩ := X3.leave (v := none) (fun _ => rfl)
  refine ⟨_, _, k0 _ (k7 _ ?_), hrun, hended, _, _, rfl, ?_, ⟨_, rfl⟩, hW, hsame.mono (by decide) (by decide)⟩
  · show Steps p.tables e below (T3.setTop (mkF m 38 #[.val (.ref a0_), .val (.int p1), .val (.int (16 : Int32))] [])) _
    exact X3.returnOut hx Bd.returns (hb hby own_d15_38) hr
  · show QE1 Z a0_ p1 b_ ks_ c_ vs_ h0 n0 _ T3.heap _
    rw [e3]
    exact ⟨rfl, N0, rfl⟩
theorem own_pd11 : parseMethodDescriptor "(I)I" = some ⟨[.int], some .int⟩ := by decide +kernel
theorem own_pd31 : parseMethodDescriptor "([BI)[B" = some ⟨[(.array .byte), .int], some (.array .byte)⟩ := by decide +kernel
theorem own_d15_17 : decode jdk_68_method_9_code 17 = .ok (.aload_n 0, 1) := by decide +kernel
theorem own_d15_18 : decode jdk_68_method_9_code 18 = .ok (.aload_n 0, 1) := by decide +kernel
theorem own_d15_19 : decode jdk_68_method_9_code 19 = .ok (.getfield 15, 3) := by decide +kernel
theorem own_d15_22 : decode jdk_68_method_9_code 22 = .ok (.aload_n 0, 1) := by decide +kernel
theorem own_d15_23 : decode jdk_68_method_9_code 23 = .ok (.iload_n 1, 1) := by decide +kernel
theorem own_d15_24 : decode jdk_68_method_9_code 24 = .ok (.invokevirtual 104, 3) := by decide +kernel
theorem own_d15_27 : decode jdk_68_method_9_code 27 = .ok (.aload_n 0, 1) := by decide +kernel
theorem own_d15_28 : decode jdk_68_method_9_code 28 = .ok (.getfield 22, 3) := by decide +kernel
theorem own_d15_31 : decode jdk_68_method_9_code 31 = .ok (.ishl, 1) := by decide +kernel
theorem own_d15_32 : decode jdk_68_method_9_code 32 = .ok (.invokestatic 108, 3) := by decide +kernel
theorem own_d15_35 : decode jdk_68_method_9_code 35 = .ok (.putfield 15, 3) := by decide +kernel
theorem own_efE2 (m : MethodId) (x0 : Addr) (x1 : Int32) : entryFrame m #[(.ref x0), (.int x1)] 3 = mkF m 0 #[.val (.ref x0), .val (.int x1), .unset] [] := by first | (simp [entryFrame, mkF, argsToLocals, Value.category]; done) | rfl
def QE2 (Z : State) (a0_ : Addr) (p1 : Int32) (b_ : Addr) (ks_ : ClassId) (c_ : Int32) (vs_ : List Value) (h0 : Heap) (n0 : Nat) (v : Option Value) (h : Heap) (L : List Loc) : Prop := ∃ (b : Addr) (kb : ClassId), v = none ∧ Fr n0 L ∧ Keep h0 h [a0_] ∧ h0.size ≤ b ∧ own_sb Z h a0_ b kb (34 : Int32) c_ vs_
set_option maxRecDepth 65536 in
set_option maxHeartbeats 40000000 in
theorem rmE2 (l : Launch) (Z : State) (a0 : Array Value) (hw : ∀ d ∈ tables_1, d.before a0 Z = true) (ws : List Jvm.Cond) (a0_ : Addr) (p1 : Int32) (b_ : Addr) (ks_ : ClassId) (c_ : Int32) (vs_ : List Value) (h0 : Heap) (n0 : Nat) (Z0 : n0 ≤ h0.size) (P0 : own_sb Z h0 a0_ b_ ks_ (16 : Int32) c_ vs_) (h1 : 16 < p1.toInt ∧ p1.toInt ≤ 34) (hvl : vs_.length ≤ (16 : Int32).toNatClampNeg) (g_ : n0 ≤ a0_) :
    MetFree l (⟨"java/lang/AbstractStringBuilder", "ensureCapacityInternal", "(I)V"⟩ : MethodName) (head1 (Jvm.Cond.code (⟨"java/lang/AbstractStringBuilder", "ensureCapacityInternal", "(I)V"⟩ : MethodName) jdk_68_method_9_code 3 none :: ws) ({ frames := 3, cells := 1, slots := 34, locals := 48 } : Room)) (fun a U => a = #[(.ref a0_), (.int p1)] ∧ Z.Warmed39 U.vm ∧ U.heap = h0) (fun _ _ _ _ _ => True) (fun _ U o U' => ∃ v L, o = .returned v ∧ QE2 Z a0_ p1 b_ ks_ c_ vs_ h0 n0 v U'.heap L ∧ FrameEnd U o U' L ({ frames := 3, cells := 1, slots := 34, locals := 48 } : Room).cells ({ frames := 3, cells := 1, slots := 34, locals := 48 } : Room).slots) := by
  refine MetFree.of_bodySF (plainFor_of_name own_pn15) hisR ?_
  intro p e s m args below meth c s₁ Bd hml0 hP hK
  obtain ⟨rfl, hZ, hh⟩ := hP
  have hx := Bd.exec
  have hby := Bd.bytes
  have hml : c.maxLocals = 3 := hml0
  have hown : s.vm.findClass "java/lang/AbstractStringBuilder" = some m.cls := findClass_of_methodNamed Bd.named
  have hnm := (name_of_methodNamed Bd.named Bd.method).1
  have X0 : Stand p l e ({ frames := 3, cells := 1, slots := 34, locals := 48 } : Room) s m #[(.ref a0_), (.int p1)] below meth c s₁ [] 0 0 := Stand.of_body Bd
  have e0 : s₁.heap = h0 := by rw [← hh, Bd.state]; rfl
  have N0 := Fr.nil n0
  have k0 : own_To p e below s₁ (mkF m 0 #[.val (.ref a0_), .val (.int p1), .unset] []) s₁ (entryFrame m #[(.ref a0_), (.int p1)] 3) := fun t k => castTop (own_efE2 m a0_ p1) k
  have ki : own_To p e below s₁ (mkF m 0 #[.val (.ref a0_), .val (.int p1), .unset] []) s₁ (mkF m 0 #[.val (.ref a0_), .val (.int p1), .unset] []) := fun t q => q
  have nab : a0_ ≠ b_ := Exa.neArv (own_sbo P0).1 (own_sbo P0).2.2.2.2.1 (hw _ (List.mem_of_getElem? (i := 43) rfl))
  obtain ⟨T1, X1, e1, st1⟩ := getF X0 hx hZ hown (host := "") (Or.inl (hw _ (List.mem_of_getElem? (i := 56) rfl))) Via.refl e0 (own_sbo P0).2.1 (g := (mkF m 1 #[.val (.ref a0_), .val (.int p1), .unset] [(.ref a0_)])) rfl rfl (hb hby own_d15_1)
  obtain ⟨clr2, Arr2, qr2, Sr2, Mr2, Hhr2, Gr2⟩ := id (own_sbo P0).2.2.2.2.1
  obtain ⟨T3, X3, e3, st3⟩ := getF X1 hx hZ hown (host := "") (Or.inl (hw _ (List.mem_of_getElem? (i := 58) rfl))) Via.refl e1 (own_sbo P0).2.2.1 (g := (mkF m 6 #[.val (.ref a0_), .val (.int p1), .unset] [(.ref a0_), (.int (16 : Int32))])) rfl rfl (hb hby own_d15_6)
  have q4 := own_shr0 (16 : Int32)
  have k5 : own_To p e below T3 (mkF m 10 #[.val (.ref a0_), .val (.int p1), .unset] [(.int ((16 : Int32) >>> ((0 : Int32) &&& 31)))]) s₁ (mkF m 0 #[.val (.ref a0_), .val (.int p1), .unset] []) := fun t q => ki t (by
    refine XS.aloadN X0.here hx rfl (hb hby own_d15_0) rfl rfl ?_
    show Steps p.tables e below (s₁.setTop (mkF m 1 #[.val (.ref a0_), .val (.int p1), .unset] [(.ref a0_)])) _
    refine st1 _ ?_
    show Steps p.tables e below (T1.setTop (mkF m 4 #[.val (.ref a0_), .val (.int p1), .unset] [(.ref b_)])) _
    refine X1.arraylength hx (by rw [e1]; exact Arr2.1) (State.isArrayOf_alike hZ.alike Arr2.2.1) (g := (mkF m 4 #[.val (.ref a0_), .val (.int p1), .unset] [(.ref b_)])) rfl rfl (hb hby own_d15_4) _ ?_
    rw [len_of Sr2 Mr2]
    show Steps p.tables e below (T1.setTop (mkF m 5 #[.val (.ref a0_), .val (.int p1), .unset] [(.int (16 : Int32))])) _
    refine XS.aloadN X1.here hx rfl (hb hby own_d15_5) rfl rfl ?_
    show Steps p.tables e below (T1.setTop (mkF m 6 #[.val (.ref a0_), .val (.int p1), .unset] [(.ref a0_), (.int (16 : Int32))])) _
    refine st3 _ ?_
    show Steps p.tables e below (T3.setTop (mkF m 9 #[.val (.ref a0_), .val (.int p1), .unset] [(.int (0 : Int32)), (.int (16 : Int32))])) _
    refine XS.ishr X3.here hx rfl (hb hby own_d15_9) rfl ?_
    show Steps p.tables e below (T3.setTop (mkF m 10 #[.val (.ref a0_), .val (.int p1), .unset] [(.int ((16 : Int32) >>> ((0 : Int32) &&& 31)))])) _
    exact q)
  have k6 : own_To p e below T3 (mkF m 10 #[.val (.ref a0_), .val (.int p1), .unset] [(.int (16 : Int32))]) s₁ (mkF m 0 #[.val (.ref a0_), .val (.int p1), .unset] []) := by rw [q4] at k5; exact k5
  have hp := own_fitY h1
  obtain ⟨T7, X7, e7, st7⟩ := getF X3 hx hZ hown (host := "") (Or.inl (hw _ (List.mem_of_getElem? (i := 56) rfl))) Via.refl e3 (own_sbo P0).2.1 (g := (mkF m 19 #[.val (.ref a0_), .val (.int p1), .val (.int (16 : Int32))] [(.ref a0_), (.ref a0_)])) rfl rfl (hb hby own_d15_19)
  have P9 : own_sb Z h0 a0_ b_ ks_ (16 : Int32) c_ vs_ := ⟨(own_sbo P0).1, (own_sbo P0).2.1, (own_sbo P0).2.2.1, (own_sbo P0).2.2.2.1, (own_sbo P0).2.2.2.2.1, (own_sbo P0).2.2.2.2.2.1, (own_sbo P0).2.2.2.2.2.2⟩
  obtain ⟨cq8, kq8, q8a, q8b, q8c⟩ := isOf hZ e7 (own_sbo P0).1
  obtain ⟨_, _, ⟨T8, L8, kk8, n8⟩, -, X8, ⟨Lc8, hQ8, l8, y8, z8⟩, st8⟩ := X7.virtualBack hx (y := (⟨"java/lang/AbstractStringBuilder", "newCapacity", "(I)I"⟩ : MethodName)) (z := (⟨"java/lang/AbstractStringBuilder", "newCapacity", "(I)I"⟩ : MethodName)) hown (mvT hZ (hw _ (List.mem_of_getElem? (i := 159) rfl))) (mvT hZ (own_decl (hw _ (List.mem_of_getElem? (i := 160) rfl)) (hw _ (List.mem_of_getElem? (i := 163) rfl)))) (notFace_of_selects (args := #[]) (mvT hZ (hw _ (List.mem_of_getElem? (i := 162) rfl)))) (mvT hZ (hw _ (List.mem_of_getElem? (i := 162) rfl))) (mvT hZ (hw _ (List.mem_of_getElem? (i := 160) rfl))) (by decide) (backOf (W := 2) (rm31 l Z a0 hw [] a0_ p1 b_ ks_ c_ vs_ h0 n0 Z0 P9 h1) hZ (hw _ (List.mem_of_getElem? (i := 163) rfl)) (hw _ (List.mem_of_getElem? (i := 52) rfl)) (by decide) (by decide)) q8a q8c (g := (mkF m 24 #[.val (.ref a0_), .val (.int p1), .val (.int (16 : Int32))] [(.int p1), (.ref a0_), (.ref b_), (.ref a0_)])) rfl (by rw [hml]; rfl) (Steps.refl _) (argsL := [(.int p1)]) (rest := [(.ref b_), (.ref a0_)]) (lenOf own_pd11 rfl) rfl (by show 2 * 0 + _ ≤ _; exact Nat.le_of_eq rfl) (hb hby own_d15_24) (fun _ _ => ⟨rfl, e7, (by decide : 0 + 0 ≤ _), (by decide : 0 + 0 ≤ _)⟩)
  dsimp only [Pt.U, Pt.locs, Pt.cells, Pt.slots] at X8 l8 y8 z8 st8 hQ8
  subst l8 y8 z8
  obtain ⟨rfl, N8q, e8⟩ := hQ8
  have N8 := Fr.app N0 N8q
  have k10 : own_To p e below T8 (mkF m 28 #[.val (.ref a0_), .val (.int p1), .val (.int (16 : Int32))] [(.ref a0_), (.int (34 : Int32)), (.ref b_), (.ref a0_)]) s₁ (mkF m 0 #[.val (.ref a0_), .val (.int p1), .unset] []) := fun t q => k6 t (by
    refine XS.istoreN X3.here hx rfl (hb hby own_d15_10) rfl (l' := #[.val (.ref a0_), .val (.int p1), .val (.int (16 : Int32))]) rfl ?_
    show Steps p.tables e below (T3.setTop (mkF m 11 #[.val (.ref a0_), .val (.int p1), .val (.int (16 : Int32))] [])) _
    refine XS.iloadN X3.here hx rfl (hb hby own_d15_11) rfl ?_
    show Steps p.tables e below (T3.setTop (mkF m 12 #[.val (.ref a0_), .val (.int p1), .val (.int (16 : Int32))] [(.int p1)])) _
    refine XS.iloadN X3.here hx rfl (hb hby own_d15_12) rfl ?_
    show Steps p.tables e below (T3.setTop (mkF m 13 #[.val (.ref a0_), .val (.int p1), .val (.int (16 : Int32))] [(.int (16 : Int32)), (.int p1)])) _
    refine XS.isub X3.here hx rfl (hb hby own_d15_13) rfl ?_
    show Steps p.tables e below (T3.setTop (mkF m 14 #[.val (.ref a0_), .val (.int p1), .val (.int (16 : Int32))] [(.int (p1 - (16 : Int32)))])) _
    refine XS.ifNo X3.here hx rfl (hb hby own_d15_14) rfl ((if0 _ _).trans (tlt hp).2.2.2) ?_
    show Steps p.tables e below (T3.setTop (mkF m 17 #[.val (.ref a0_), .val (.int p1), .val (.int (16 : Int32))] [])) _
    refine XS.aloadN X3.here hx rfl (hb hby own_d15_17) rfl rfl ?_
    show Steps p.tables e below (T3.setTop (mkF m 18 #[.val (.ref a0_), .val (.int p1), .val (.int (16 : Int32))] [(.ref a0_)])) _
    refine XS.aloadN X3.here hx rfl (hb hby own_d15_18) rfl rfl ?_
    show Steps p.tables e below (T3.setTop (mkF m 19 #[.val (.ref a0_), .val (.int p1), .val (.int (16 : Int32))] [(.ref a0_), (.ref a0_)])) _
    refine st7 _ ?_
    show Steps p.tables e below (T7.setTop (mkF m 22 #[.val (.ref a0_), .val (.int p1), .val (.int (16 : Int32))] [(.ref b_), (.ref a0_)])) _
    refine XS.aloadN X7.here hx rfl (hb hby own_d15_22) rfl rfl ?_
    show Steps p.tables e below (T7.setTop (mkF m 23 #[.val (.ref a0_), .val (.int p1), .val (.int (16 : Int32))] [(.ref a0_), (.ref b_), (.ref a0_)])) _
    refine XS.iloadN X7.here hx rfl (hb hby own_d15_23) rfl ?_
    show Steps p.tables e below (T7.setTop (mkF m 24 #[.val (.ref a0_), .val (.int p1), .val (.int (16 : Int32))] [(.int p1), (.ref a0_), (.ref b_), (.ref a0_)])) _
    refine st8.trans ?_
    show Steps p.tables e below (T8.setTop (mkF m 27 #[.val (.ref a0_), .val (.int p1), .val (.int (16 : Int32))] [(.int (34 : Int32)), (.ref b_), (.ref a0_)])) _
    refine XS.aloadN X8.here hx rfl (hb hby own_d15_27) rfl rfl ?_
    show Steps p.tables e below (T8.setTop (mkF m 28 #[.val (.ref a0_), .val (.int p1), .val (.int (16 : Int32))] [(.ref a0_), (.int (34 : Int32)), (.ref b_), (.ref a0_)])) _
    exact q)
  obtain ⟨T11, X11, e11, st11⟩ := getF X8 hx hZ hown (host := "") (Or.inl (hw _ (List.mem_of_getElem? (i := 58) rfl))) Via.refl e8 (own_sbo P0).2.2.1 (g := (mkF m 28 #[.val (.ref a0_), .val (.int p1), .val (.int (16 : Int32))] [(.ref a0_), (.int (34 : Int32)), (.ref b_), (.ref a0_)])) rfl rfl (hb hby own_d15_28)
  have q12 := own_shl0 (34 : Int32)
  have k13 : own_To p e below T11 (mkF m 32 #[.val (.ref a0_), .val (.int p1), .val (.int (16 : Int32))] [(.int ((34 : Int32) <<< ((0 : Int32) &&& 31))), (.ref b_), (.ref a0_)]) s₁ (mkF m 0 #[.val (.ref a0_), .val (.int p1), .unset] []) := fun t q => k10 t (by
    refine st11 _ ?_
    show Steps p.tables e below (T11.setTop (mkF m 31 #[.val (.ref a0_), .val (.int p1), .val (.int (16 : Int32))] [(.int (0 : Int32)), (.int (34 : Int32)), (.ref b_), (.ref a0_)])) _
    refine XS.ishl X11.here hx rfl (hb hby own_d15_31) rfl ?_
    show Steps p.tables e below (T11.setTop (mkF m 32 #[.val (.ref a0_), .val (.int p1), .val (.int (16 : Int32))] [(.int ((34 : Int32) <<< ((0 : Int32) &&& 31))), (.ref b_), (.ref a0_)])) _
    exact q)
  have k14 : own_To p e below T11 (mkF m 32 #[.val (.ref a0_), .val (.int p1), .val (.int (16 : Int32))] [(.int (34 : Int32)), (.ref b_), (.ref a0_)]) s₁ (mkF m 0 #[.val (.ref a0_), .val (.int p1), .unset] []) := by rw [q12] at k13; exact k13
  obtain ⟨_, _, ⟨T15, L15, kk15, n15⟩, -, X15, ⟨Lc15, hQ15, l15, y15, z15⟩, st15⟩ := Jvm.LawKit.callS X11 hx (y := (⟨"java/util/Arrays", "copyOf", "([BI)[B"⟩ : MethodName)) hown (mvT hZ (hw _ (List.mem_of_getElem? (i := 173) rfl))) (mvT hZ (hw _ (List.mem_of_getElem? (i := 174) rfl))) (mvT hZ (hw _ (List.mem_of_getElem? (i := 140) rfl))) (mvT hZ (hw _ (List.mem_of_getElem? (i := 175) rfl))) (by decide) (backOf (W := 1) (rm34 l Z a0 hw [] b_ ks_ vs_ h0 n0 Z0 (own_sbo P0).2.2.2.2.1 hvl) hZ (hw _ (List.mem_of_getElem? (i := 175) rfl)) (hw _ (List.mem_of_getElem? (i := 140) rfl)) (by decide) (by decide)) (g := (mkF m 32 #[.val (.ref a0_), .val (.int p1), .val (.int (16 : Int32))] [(.int (34 : Int32)), (.ref b_), (.ref a0_)])) rfl (by rw [hml]; rfl) (argsL := [(.ref b_), (.int (34 : Int32))]) (rest := [(.ref a0_)]) (lenOf own_pd31 rfl) rfl (by show 2 * 0 + _ ≤ _; exact Nat.le_of_eq rfl) (hb hby own_d15_32) (fun _ _ => ⟨rfl, e11, (by decide : 0 + 1 ≤ _), (by decide : 0 + 34 ≤ _)⟩)
  dsimp only [Pt.U, Pt.locs, Pt.cells, Pt.slots] at X15 l15 y15 z15 st15 hQ15
  subst l15 y15 z15
  obtain ⟨rb15, kb15, rfl, N15q, K15, z15z, V15, EB15⟩ := hQ15
  have ne_a0__rb15 : a0_ ≠ rb15 := Nat.ne_of_lt (Nat.lt_of_lt_of_le (own_sbo P0).1.lt z15z)
  have ne_b__rb15 : b_ ≠ rb15 := Nat.ne_of_lt (Nat.lt_of_lt_of_le (own_sbo P0).2.2.2.2.1.lt z15z)
  have K16 : Keep h0 h0 [a0_] := (Keep.refl h0 [a0_])
  have sz_rb15 : h0.size ≤ rb15 := Nat.le_trans K16.1 z15z
  have ge_rb15 : n0 ≤ rb15 := Nat.le_trans Z0 sz_rb15
  have N15 := Fr.app N8 N15q
  have F17 := ((own_sbo P0).2.1.keep K15 nin0)
  have F18 := ((own_sbo P0).1.keep K15)
  obtain ⟨T19, h19, X19, e19, W19, st19⟩ := putF X15 hx hZ hown (host := "") (Or.inl (hw _ (List.mem_of_getElem? (i := 56) rfl))) Via.refl rfl F17 F18 (Or.inl (hw _ (List.mem_of_getElem? (i := 57) rfl))) (hw _ (List.mem_of_getElem? (i := 43) rfl)) (ty := (.array .byte)) (by decide) rfl rfl (g := (mkF m 35 #[.val (.ref a0_), .val (.int p1), .val (.int (16 : Int32))] [(.ref rb15), (.ref a0_)])) rfl rfl (hb hby own_d15_35)
  have N19 := Fr.snoc X19 N15 g_
  obtain ⟨Lf19, Nf19, Xf19⟩ := own_fold X19 N19
  have Fw19 := F17.same W19
  have F20 := (F18.wr W19)
  have F21 := (((own_sbo P0).2.2.1.keep K15 nin0).other W19 (Or.inr (slot_ne (Or.inl (hw _ (List.mem_of_getElem? (i := 59) rfl))) (Or.inl (hw _ (List.mem_of_getElem? (i := 57) rfl))) (by decide) (t := .byte) (t' := (.array .byte)) (by decide) (by decide))))
  have F22 := (((own_sbo P0).2.2.2.1.keep K15 nin0).other W19 (Or.inr (slot_ne (Or.inl (hw _ (List.mem_of_getElem? (i := 82) rfl))) (Or.inl (hw _ (List.mem_of_getElem? (i := 57) rfl))) (by decide) (t := .int) (t' := (.array .byte)) (by decide) (by decide))))
  have F23 := (V15.other W19 (Ne.symm ne_a0__rb15))
  have F24 := (EB15.wr W19)
  have P25 : own_sb Z h19 a0_ rb15 kb15 (34 : Int32) c_ vs_ := ⟨F20, Fw19, F21, F22, F23, F24, (own_sbo P0).2.2.2.2.2.2⟩
  have K26 : Keep h0 h19 [a0_] := ((K16.trans K15 all0).wr W19 (Or.inl (List.mem_of_getElem? (i := 0) rfl)))
  have k27 : own_To p e below T19 (mkF m 38 #[.val (.ref a0_), .val (.int p1), .val (.int (16 : Int32))] []) s₁ (mkF m 0 #[.val (.ref a0_), .val (.int p1), .unset] []) := fun t q => k14 t (by
    refine st15 _ ?_
    show Steps p.tables e below (T15.setTop (mkF m 35 #[.val (.ref a0_), .val (.int p1), .val (.int (16 : Int32))] [(.ref rb15), (.ref a0_)])) _
    refine st19 _ ?_
    show Steps p.tables e below (T19.setTop (mkF m 38 #[.val (.ref a0_), .val (.int p1), .val (.int (16 : Int32))] [])) _
    exact q)
  obtain ⟨fs, hr, hrun, hended, hW, hsame⟩ := Xf19.leave (v := none) (fun _ => rfl)
  refine ⟨_, _, k0 _ (k27 _ ?_), hrun, hended, _, _, rfl, ?_, ⟨_, rfl⟩, hW, hsame.mono (by decide) (by decide)⟩
  · show Steps p.tables e below (T19.setTop (mkF m 38 #[.val (.ref a0_), .val (.int p1), .val (.int (16 : Int32))] [])) _
    exact Xf19.returnOut hx Bd.returns (hb hby own_d15_38) hr
  · show QE2 Z a0_ p1 b_ ks_ c_ vs_ h0 n0 _ T19.heap _
    rw [e19]
    exact ⟨rb15, kb15, rfl, Nf19, K26, sz_rb15, P25⟩
theorem own_pd18 : parseMethodDescriptor "(ILjava/lang/String;)V" = some ⟨[.int, (.object "java/lang/String")], none⟩ := by decide +kernel
theorem own_d12_0 : decode jdk_68_method_22_code 0 = .ok (.aload_n 1, 1) := by decide +kernel
theorem own_d12_1 : decode jdk_68_method_22_code 1 = .ok (.ifnonnull 8, 3) := by decide +kernel
theorem own_d12_9 : decode jdk_68_method_22_code 9 = .ok (.aload_n 1, 1) := by decide +kernel
theorem own_d12_10 : decode jdk_68_method_22_code 10 = .ok (.invokevirtual 32, 3) := by decide +kernel
theorem own_d12_13 : decode jdk_68_method_22_code 13 = .ok (.istore_n 2, 1) := by decide +kernel
theorem own_d12_14 : decode jdk_68_method_22_code 14 = .ok (.aload_n 0, 1) := by decide +kernel
theorem own_d12_15 : decode jdk_68_method_22_code 15 = .ok (.aload_n 0, 1) := by decide +kernel
theorem own_d12_16 : decode jdk_68_method_22_code 16 = .ok (.getfield 79, 3) := by decide +kernel
theorem own_d12_19 : decode jdk_68_method_22_code 19 = .ok (.iload_n 2, 1) := by decide +kernel
theorem own_d12_20 : decode jdk_68_method_22_code 20 = .ok (.iadd, 1) := by decide +kernel
theorem own_d12_21 : decode jdk_68_method_22_code 21 = .ok (.invokevirtual 100, 3) := by decide +kernel
theorem own_d12_24 : decode jdk_68_method_22_code 24 = .ok (.aload_n 0, 1) := by decide +kernel
theorem own_d12_25 : decode jdk_68_method_22_code 25 = .ok (.aload_n 0, 1) := by decide +kernel
theorem own_d12_26 : decode jdk_68_method_22_code 26 = .ok (.getfield 79, 3) := by decide +kernel
theorem own_d12_29 : decode jdk_68_method_22_code 29 = .ok (.aload_n 1, 1) := by decide +kernel
theorem own_d12_30 : decode jdk_68_method_22_code 30 = .ok (.invokevirtual 208, 3) := by decide +kernel
theorem own_d12_33 : decode jdk_68_method_22_code 33 = .ok (.aload_n 0, 1) := by decide +kernel
theorem own_d12_34 : decode jdk_68_method_22_code 34 = .ok (.dup, 1) := by decide +kernel
theorem own_d12_35 : decode jdk_68_method_22_code 35 = .ok (.getfield 79, 3) := by decide +kernel
theorem own_d12_38 : decode jdk_68_method_22_code 38 = .ok (.iload_n 2, 1) := by decide +kernel
theorem own_d12_39 : decode jdk_68_method_22_code 39 = .ok (.iadd, 1) := by decide +kernel
theorem own_d12_40 : decode jdk_68_method_22_code 40 = .ok (.putfield 79, 3) := by decide +kernel
theorem own_d12_43 : decode jdk_68_method_22_code 43 = .ok (.aload_n 0, 1) := by decide +kernel
theorem own_d12_44 : decode jdk_68_method_22_code 44 = .ok (.areturn, 1) := by decide +kernel
theorem own_pn12 : plainName "java/lang/AbstractStringBuilder" = true := by first | (simp [plainName, overriddenIn]; done) | decide +kernel
theorem own_efA1 (m : MethodId) (x0 : Addr) (x1 : Addr) : entryFrame m #[(.ref x0), (.ref x1)] 3 = mkF m 0 #[.val (.ref x0), .val (.ref x1), .unset] [] := by first | (simp [entryFrame, mkF, argsToLocals, Value.category]; done) | rfl
def QA1 (Z : State) (a0_ : Addr) (a1 : Addr) (b_ : Addr) (ks_ : ClassId) (c_ : Int32) (vs_ : List Value) (b1_ : Addr) (k1_ : ClassId) (z1 : Int32) (v1 : List Value) (cs : Int32) (cp_ : Int32) (h0 : Heap) (n0 : Nat) (v : Option Value) (h : Heap) (L : List Loc) : Prop := v = some (.ref a0_) ∧ Fr n0 L ∧ Keep h0 h [a0_, b_] ∧ own_sb Z h a0_ b_ ks_ (16 : Int32) cp_ (vs_ ++ v1)
set_option maxRecDepth 65536 in
set_option maxHeartbeats 40000000 in
theorem rmA1 (l : Launch) (Z : State) (a0 : Array Value) (hw : ∀ d ∈ tables_1, d.before a0 Z = true) (ws : List Jvm.Cond) (a0_ : Addr) (a1 : Addr) (b_ : Addr) (ks_ : ClassId) (c_ : Int32) (vs_ : List Value) (b1_ : Addr) (k1_ : ClassId) (z1 : Int32) (v1 : List Value) (cs : Int32) (cp_ : Int32) (h0 : Heap) (n0 : Nat) (Z0 : n0 ≤ h0.size) (P0 : own_sb Z h0 a0_ b_ ks_ (16 : Int32) c_ vs_) (Es1 : Exa Z h0 a1 "java/lang/String") (Fcs1 : Fld Z h0 a1 "java/lang/String" "coder" "B" (.int (0 : Int32))) (Fvs1 : Fld Z h0 a1 "java/lang/String" "value" "[B" (.ref b1_)) (Vs1 : Arv Z h0 b1_ k1_ .byte z1 v1 (.int (0 : Int32))) (hl1 : v1.length = z1.toNatClampNeg) (SC : Sta Z Z.heap "java/lang/String" "COMPACT_STRINGS" "Z" (.int cs)) (hcs : ¬ cs = (0 : Int32)) (O0 : Old Z n0 h0) (hc0 : 0 ≤ c_.toInt) (hy0 : 0 ≤ z1.toInt) (hcp : c_ + z1 = cp_) (hcy : c_.toInt + z1.toInt ≤ 16) (g_ : n0 ≤ a0_) (gb_ : n0 ≤ b_) :
    MetFree l (⟨"java/lang/AbstractStringBuilder", "append", "(Ljava/lang/String;)Ljava/lang/AbstractStringBuilder;"⟩ : MethodName) (head1 (Jvm.Cond.code (⟨"java/lang/AbstractStringBuilder", "append", "(Ljava/lang/String;)Ljava/lang/AbstractStringBuilder;"⟩ : MethodName) jdk_68_method_22_code 3 (some (.object "java/lang/AbstractStringBuilder")) :: ws) ({ frames := 3, cells := 0, slots := 0, locals := 47 } : Room)) (fun a U => a = #[(.ref a0_), (.ref a1)] ∧ Z.Warmed39 U.vm ∧ U.heap = h0) (fun _ _ _ _ _ => True) (fun _ U o U' => ∃ v L, o = .returned v ∧ QA1 Z a0_ a1 b_ ks_ c_ vs_ b1_ k1_ z1 v1 cs cp_ h0 n0 v U'.heap L ∧ FrameEnd U o U' L ({ frames := 3, cells := 0, slots := 0, locals := 47 } : Room).cells ({ frames := 3, cells := 0, slots := 0, locals := 47 } : Room).slots) := by
  refine MetFree.of_bodySF (plainFor_of_name own_pn12) hisR ?_
  intro p e s m args below meth c s₁ Bd hml0 hP hK
  obtain ⟨rfl, hZ, hh⟩ := hP
  have hx := Bd.exec
  have hby := Bd.bytes
  have hml : c.maxLocals = 3 := hml0
  have hown : s.vm.findClass "java/lang/AbstractStringBuilder" = some m.cls := findClass_of_methodNamed Bd.named
  have hnm := (name_of_methodNamed Bd.named Bd.method).1
  have X0 : Stand p l e ({ frames := 3, cells := 0, slots := 0, locals := 47 } : Room) s m #[(.ref a0_), (.ref a1)] below meth c s₁ [] 0 0 := Stand.of_body Bd
  have e0 : s₁.heap = h0 := by rw [← hh, Bd.state]; rfl
  have N0 := Fr.nil n0
  have k0 : own_To p e below s₁ (mkF m 0 #[.val (.ref a0_), .val (.ref a1), .unset] []) s₁ (entryFrame m #[(.ref a0_), (.ref a1)] 3) := fun t k => castTop (own_efA1 m a0_ a1) k
  have ki : own_To p e below s₁ (mkF m 0 #[.val (.ref a0_), .val (.ref a1), .unset] []) s₁ (mkF m 0 #[.val (.ref a0_), .val (.ref a1), .unset] []) := fun t q => q
  have nab : a0_ ≠ b_ := Exa.neArv (own_sbo P0).1 (own_sbo P0).2.2.2.2.1 (hw _ (List.mem_of_getElem? (i := 43) rfl))
  have na1 : a1 ≠ a0_ := Exa.ne Es1 (own_sbo P0).1 (by decide)
  have nb1 : a0_ ≠ b1_ := Exa.neArv (own_sbo P0).1 Vs1 (hw _ (List.mem_of_getElem? (i := 43) rfl))
  have hcn := own_fit hc0 hy0 (by omega) hcp
  obtain ⟨cq1, kq1, q1a, q1b, q1c⟩ := isOf hZ e0 Es1
  obtain ⟨_, _, ⟨T1, L1, kk1, n1⟩, -, X1, ⟨Lc1, hQ1, l1, y1, z1⟩, st1⟩ := X0.virtualBack hx (y := (⟨"java/lang/String", "length", "()I"⟩ : MethodName)) (z := (⟨"java/lang/String", "length", "()I"⟩ : MethodName)) hown (mvT hZ (hw _ (List.mem_of_getElem? (i := 71) rfl))) (mvT hZ (hw _ (List.mem_of_getElem? (i := 72) rfl))) (notFace_of_selects (args := #[]) (mvT hZ (hw _ (List.mem_of_getElem? (i := 74) rfl)))) (mvT hZ (hw _ (List.mem_of_getElem? (i := 74) rfl))) (mvT hZ (hw _ (List.mem_of_getElem? (i := 73) rfl))) (by decide) (backOf (W := 0) (rm13 l Z a0 hw [] a1 b1_ k1_ z1 v1 cs h0 n0 Z0 Es1 Fcs1 Fvs1 Vs1 hl1 SC hcs O0) hZ (hw _ (List.mem_of_getElem? (i := 75) rfl)) (hw _ (List.mem_of_getElem? (i := 6) rfl)) (by decide) (by decide)) q1a q1c (g := (mkF m 10 #[.val (.ref a0_), .val (.ref a1), .unset] [(.ref a1)])) rfl (by rw [hml]; rfl) (Steps.refl _) (argsL := []) (rest := []) (lenOf own_pd1 rfl) rfl (by show 2 * 0 + _ ≤ _; exact Nat.le_of_eq rfl) (hb hby own_d12_10) (fun _ _ => ⟨rfl, e0, (by decide : 0 + 0 ≤ _), (by decide : 0 + 0 ≤ _)⟩)
  dsimp only [Pt.U, Pt.locs, Pt.cells, Pt.slots] at X1 l1 y1 z1 st1 hQ1
  subst l1 y1 z1
  obtain ⟨rfl, N1q, e1⟩ := hQ1
  have N1 := Fr.app N0 N1q
  obtain ⟨T2, X2, e2, st2⟩ := getF X1 hx hZ hown (host := "") (Or.inl (hw _ (List.mem_of_getElem? (i := 81) rfl))) Via.refl e1 (own_sbo P0).2.2.2.1 (g := (mkF m 16 #[.val (.ref a0_), .val (.ref a1), .val (.int z1)] [(.ref a0_), (.ref a0_)])) rfl rfl (hb hby own_d12_16)
  have k3 : own_To p e below T2 (mkF m 21 #[.val (.ref a0_), .val (.ref a1), .val (.int z1)] [(.int (c_ + z1)), (.ref a0_)]) s₁ (mkF m 0 #[.val (.ref a0_), .val (.ref a1), .unset] []) := fun t q => ki t (by
    refine XS.aloadN X0.here hx rfl (hb hby own_d12_0) rfl rfl ?_
    show Steps p.tables e below (s₁.setTop (mkF m 1 #[.val (.ref a0_), .val (.ref a1), .unset] [(.ref a1)])) _
    refine XS.ifnonnullYes X0.here hx rfl (pc0 := 1) (pc' := 9) rfl (hb hby own_d12_1) rfl (by decide) (by decide) ?_
    show Steps p.tables e below (s₁.setTop (mkF m 9 #[.val (.ref a0_), .val (.ref a1), .unset] [])) _
    refine XS.aloadN X0.here hx rfl (hb hby own_d12_9) rfl rfl ?_
    show Steps p.tables e below (s₁.setTop (mkF m 10 #[.val (.ref a0_), .val (.ref a1), .unset] [(.ref a1)])) _
    refine st1.trans ?_
    show Steps p.tables e below (T1.setTop (mkF m 13 #[.val (.ref a0_), .val (.ref a1), .unset] [(.int z1)])) _
    refine XS.istoreN X1.here hx rfl (hb hby own_d12_13) rfl (l' := #[.val (.ref a0_), .val (.ref a1), .val (.int z1)]) rfl ?_
    show Steps p.tables e below (T1.setTop (mkF m 14 #[.val (.ref a0_), .val (.ref a1), .val (.int z1)] [])) _
    refine XS.aloadN X1.here hx rfl (hb hby own_d12_14) rfl rfl ?_
    show Steps p.tables e below (T1.setTop (mkF m 15 #[.val (.ref a0_), .val (.ref a1), .val (.int z1)] [(.ref a0_)])) _
    refine XS.aloadN X1.here hx rfl (hb hby own_d12_15) rfl rfl ?_
    show Steps p.tables e below (T1.setTop (mkF m 16 #[.val (.ref a0_), .val (.ref a1), .val (.int z1)] [(.ref a0_), (.ref a0_)])) _
    refine st2 _ ?_
    show Steps p.tables e below (T2.setTop (mkF m 19 #[.val (.ref a0_), .val (.ref a1), .val (.int z1)] [(.int c_), (.ref a0_)])) _
    refine XS.iloadN X2.here hx rfl (hb hby own_d12_19) rfl ?_
    show Steps p.tables e below (T2.setTop (mkF m 20 #[.val (.ref a0_), .val (.ref a1), .val (.int z1)] [(.int z1), (.int c_), (.ref a0_)])) _
    refine XS.iadd X2.here hx rfl (hb hby own_d12_20) rfl ?_
    show Steps p.tables e below (T2.setTop (mkF m 21 #[.val (.ref a0_), .val (.ref a1), .val (.int z1)] [(.int (c_ + z1)), (.ref a0_)])) _
    exact q)
  have k4 : own_To p e below T2 (mkF m 21 #[.val (.ref a0_), .val (.ref a1), .val (.int z1)] [(.int cp_), (.ref a0_)]) s₁ (mkF m 0 #[.val (.ref a0_), .val (.ref a1), .unset] []) := by rw [hcp] at k3; exact k3
  have hp := own_fitN (p := cp_) (by omega) (by omega)
  have hlx := own_len2 hc0 hy0 hcn (own_sbo P0).2.2.2.2.2.2 hl1
  have P6 : own_sb Z h0 a0_ b_ ks_ (16 : Int32) c_ vs_ := ⟨(own_sbo P0).1, (own_sbo P0).2.1, (own_sbo P0).2.2.1, (own_sbo P0).2.2.2.1, (own_sbo P0).2.2.2.2.1, (own_sbo P0).2.2.2.2.2.1, (own_sbo P0).2.2.2.2.2.2⟩
  obtain ⟨cq5, kq5, q5a, q5b, q5c⟩ := isOf hZ e2 (own_sbo P0).1
  obtain ⟨_, _, ⟨T5, L5, kk5, n5⟩, -, X5, ⟨Lc5, hQ5, l5, y5, z5⟩, st5⟩ := X2.virtualBack hx (y := (⟨"java/lang/AbstractStringBuilder", "ensureCapacityInternal", "(I)V"⟩ : MethodName)) (z := (⟨"java/lang/AbstractStringBuilder", "ensureCapacityInternal", "(I)V"⟩ : MethodName)) hown (mvT hZ (hw _ (List.mem_of_getElem? (i := 83) rfl))) (mvT hZ (own_decl (hw _ (List.mem_of_getElem? (i := 84) rfl)) (hw _ (List.mem_of_getElem? (i := 87) rfl)))) (notFace_of_selects (args := #[]) (mvT hZ (hw _ (List.mem_of_getElem? (i := 86) rfl)))) (mvT hZ (hw _ (List.mem_of_getElem? (i := 86) rfl))) (mvT hZ (hw _ (List.mem_of_getElem? (i := 84) rfl))) (by decide) (backOf (W := 0) (rmE1 l Z a0 hw [] a0_ cp_ b_ ks_ c_ vs_ h0 n0 Z0 P6 hp) hZ (hw _ (List.mem_of_getElem? (i := 87) rfl)) (hw _ (List.mem_of_getElem? (i := 52) rfl)) (by decide) (by decide)) q5a q5c (g := (mkF m 21 #[.val (.ref a0_), .val (.ref a1), .val (.int z1)] [(.int cp_), (.ref a0_)])) rfl (by rw [hml]; rfl) (Steps.refl _) (argsL := [(.int cp_)]) (rest := []) (lenOf own_pd13 rfl) rfl (by show 2 * 0 + _ ≤ _; exact Nat.le_of_eq rfl) (hb hby own_d12_21) (fun _ _ => ⟨rfl, e2, (by decide : 0 + 0 ≤ _), (by decide : 0 + 0 ≤ _)⟩)
  dsimp only [Pt.U, Pt.locs, Pt.cells, Pt.slots] at X5 l5 y5 z5 st5 hQ5
  subst l5 y5 z5
  obtain ⟨rfl, N5q, e5⟩ := hQ5
  have N5 := Fr.app N1 N5q
  obtain ⟨T7, X7, e7, st7⟩ := getF X5 hx hZ hown (host := "") (Or.inl (hw _ (List.mem_of_getElem? (i := 81) rfl))) Via.refl e5 (own_sbo P0).2.2.2.1 (g := (mkF m 26 #[.val (.ref a0_), .val (.ref a1), .val (.int z1)] [(.ref a0_), (.ref a0_)])) rfl rfl (hb hby own_d12_26)
  have P9 : own_sb Z h0 a0_ b_ ks_ (16 : Int32) c_ vs_ := ⟨(own_sbo P0).1, (own_sbo P0).2.1, (own_sbo P0).2.2.1, (own_sbo P0).2.2.2.1, (own_sbo P0).2.2.2.2.1, (own_sbo P0).2.2.2.2.2.1, (own_sbo P0).2.2.2.2.2.2⟩
  obtain ⟨cq8, kq8, q8a, q8b, q8c⟩ := isOf hZ e7 (own_sbo P0).1
  obtain ⟨_, _, ⟨T8, L8, kk8, n8⟩, -, X8, ⟨Lc8, hQ8, l8, y8, z8⟩, st8⟩ := X7.virtualBack hx (y := (⟨"java/lang/AbstractStringBuilder", "putStringAt", "(ILjava/lang/String;)V"⟩ : MethodName)) (z := (⟨"java/lang/AbstractStringBuilder", "putStringAt", "(ILjava/lang/String;)V"⟩ : MethodName)) hown (mvT hZ (hw _ (List.mem_of_getElem? (i := 88) rfl))) (mvT hZ (own_decl (hw _ (List.mem_of_getElem? (i := 89) rfl)) (hw _ (List.mem_of_getElem? (i := 92) rfl)))) (notFace_of_selects (args := #[]) (mvT hZ (hw _ (List.mem_of_getElem? (i := 91) rfl)))) (mvT hZ (hw _ (List.mem_of_getElem? (i := 91) rfl))) (mvT hZ (hw _ (List.mem_of_getElem? (i := 89) rfl))) (by decide) (backOf (W := 0) (rm16 l Z a0 hw [] a0_ c_ a1 b_ ks_ (16 : Int32) c_ vs_ b1_ k1_ z1 v1 cs h0 n0 Z0 P9 Es1 Fcs1 Fvs1 Vs1 hl1 SC hcs O0 gb_ (own_nn hc0) (own_tn2 hc0 hy0 hcn (by show _ ≤ (16 : Int); omega)) (own_sbo P0).2.2.2.2.2.2) hZ (hw _ (List.mem_of_getElem? (i := 92) rfl)) (hw _ (List.mem_of_getElem? (i := 52) rfl)) (by decide) (by decide)) q8a q8c (g := (mkF m 30 #[.val (.ref a0_), .val (.ref a1), .val (.int z1)] [(.ref a1), (.int c_), (.ref a0_)])) rfl (by rw [hml]; rfl) (Steps.refl _) (argsL := [(.int c_), (.ref a1)]) (rest := []) (lenOf own_pd18 rfl) rfl (by show 2 * 0 + _ ≤ _; exact Nat.le_of_eq rfl) (hb hby own_d12_30) (fun _ _ => ⟨rfl, e7, (by decide : 0 + 0 ≤ _), (by decide : 0 + 0 ≤ _)⟩)
  dsimp only [Pt.U, Pt.locs, Pt.cells, Pt.slots] at X8 l8 y8 z8 st8 hQ8
  subst l8 y8 z8
  obtain ⟨rfl, N8q, K8, V8⟩ := hQ8
  have N8 := Fr.app N5 N8q
  have F10 := ((own_sbo P0).2.2.2.1.keep K8 (ninS nab nin0))
  obtain ⟨T11, X11, e11, st11⟩ := getF X8 hx hZ hown (host := "") (Or.inl (hw _ (List.mem_of_getElem? (i := 81) rfl))) Via.refl rfl F10 (g := (mkF m 35 #[.val (.ref a0_), .val (.ref a1), .val (.int z1)] [(.ref a0_), (.ref a0_)])) rfl rfl (hb hby own_d12_35)
  have k12 : own_To p e below T11 (mkF m 40 #[.val (.ref a0_), .val (.ref a1), .val (.int z1)] [(.int (c_ + z1)), (.ref a0_)]) s₁ (mkF m 0 #[.val (.ref a0_), .val (.ref a1), .unset] []) := fun t q => k4 t (by
    refine st5.trans ?_
    show Steps p.tables e below (T5.setTop (mkF m 24 #[.val (.ref a0_), .val (.ref a1), .val (.int z1)] [])) _
    refine XS.aloadN X5.here hx rfl (hb hby own_d12_24) rfl rfl ?_
    show Steps p.tables e below (T5.setTop (mkF m 25 #[.val (.ref a0_), .val (.ref a1), .val (.int z1)] [(.ref a0_)])) _
    refine XS.aloadN X5.here hx rfl (hb hby own_d12_25) rfl rfl ?_
    show Steps p.tables e below (T5.setTop (mkF m 26 #[.val (.ref a0_), .val (.ref a1), .val (.int z1)] [(.ref a0_), (.ref a0_)])) _
    refine st7 _ ?_
    show Steps p.tables e below (T7.setTop (mkF m 29 #[.val (.ref a0_), .val (.ref a1), .val (.int z1)] [(.int c_), (.ref a0_)])) _
    refine XS.aloadN X7.here hx rfl (hb hby own_d12_29) rfl rfl ?_
    show Steps p.tables e below (T7.setTop (mkF m 30 #[.val (.ref a0_), .val (.ref a1), .val (.int z1)] [(.ref a1), (.int c_), (.ref a0_)])) _
    refine st8.trans ?_
    show Steps p.tables e below (T8.setTop (mkF m 33 #[.val (.ref a0_), .val (.ref a1), .val (.int z1)] [])) _
    refine XS.aloadN X8.here hx rfl (hb hby own_d12_33) rfl rfl ?_
    show Steps p.tables e below (T8.setTop (mkF m 34 #[.val (.ref a0_), .val (.ref a1), .val (.int z1)] [(.ref a0_)])) _
    refine XS.dup X8.here hx rfl (hb hby own_d12_34) rfl rfl ?_
    show Steps p.tables e below (T8.setTop (mkF m 35 #[.val (.ref a0_), .val (.ref a1), .val (.int z1)] [(.ref a0_), (.ref a0_)])) _
    refine st11 _ ?_
    show Steps p.tables e below (T11.setTop (mkF m 38 #[.val (.ref a0_), .val (.ref a1), .val (.int z1)] [(.int c_), (.ref a0_)])) _
    refine XS.iloadN X11.here hx rfl (hb hby own_d12_38) rfl ?_
    show Steps p.tables e below (T11.setTop (mkF m 39 #[.val (.ref a0_), .val (.ref a1), .val (.int z1)] [(.int z1), (.int c_), (.ref a0_)])) _
    refine XS.iadd X11.here hx rfl (hb hby own_d12_39) rfl ?_
    show Steps p.tables e below (T11.setTop (mkF m 40 #[.val (.ref a0_), .val (.ref a1), .val (.int z1)] [(.int (c_ + z1)), (.ref a0_)])) _
    exact q)
  have k13 : own_To p e below T11 (mkF m 40 #[.val (.ref a0_), .val (.ref a1), .val (.int z1)] [(.int cp_), (.ref a0_)]) s₁ (mkF m 0 #[.val (.ref a0_), .val (.ref a1), .unset] []) := by rw [hcp] at k12; exact k12
  have F14 := ((own_sbo P0).1.keep K8)
  obtain ⟨T15, h15, X15, e15, W15, st15⟩ := putF X11 hx hZ hown (host := "") (Or.inl (hw _ (List.mem_of_getElem? (i := 81) rfl))) Via.refl e11 F10 F14 (Or.inl (hw _ (List.mem_of_getElem? (i := 82) rfl))) (hw _ (List.mem_of_getElem? (i := 43) rfl)) (ty := .int) (by decide) rfl rfl (g := (mkF m 40 #[.val (.ref a0_), .val (.ref a1), .val (.int z1)] [(.int cp_), (.ref a0_)])) rfl rfl (hb hby own_d12_40)
  have N15 := Fr.snoc X15 N8 g_
  obtain ⟨Lf15, Nf15, Xf15⟩ := own_fold X15 N15
  have Fw15 := F10.same W15
  have F16 := (F14.wr W15)
  have F17 := (((own_sbo P0).2.1.keep K8 (ninS nab nin0)).other W15 (Or.inr (slot_ne (Or.inl (hw _ (List.mem_of_getElem? (i := 57) rfl))) (Or.inl (hw _ (List.mem_of_getElem? (i := 82) rfl))) (by decide) (t := (.array .byte)) (t' := .int) (by decide) (by decide))))
  have F18 := (((own_sbo P0).2.2.1.keep K8 (ninS nab nin0)).other W15 (Or.inr (slot_ne (Or.inl (hw _ (List.mem_of_getElem? (i := 59) rfl))) (Or.inl (hw _ (List.mem_of_getElem? (i := 82) rfl))) (by decide) (t := .byte) (t' := .int) (by decide) (by decide))))
  have F19 := (V8.other W15 (Ne.symm nab))
  have F20 := (((own_sbo P0).2.2.2.2.2.1.keep K8).wr W15)
  have P21 : own_sb Z h15 a0_ b_ ks_ (16 : Int32) cp_ (vs_ ++ v1) := ⟨F16, F17, F18, Fw15, F19, F20, hlx⟩
  have K22 : Keep h0 h15 [a0_, b_] := (((Keep.refl h0 [a0_, b_]).trans K8 (allS (P := fun x => x ∈ ([a0_, b_] : List Addr) ∨ h0.size ≤ x) (Or.inl (List.mem_of_getElem? (i := 1) rfl)) all0)).wr W15 (Or.inl (List.mem_of_getElem? (i := 0) rfl)))
  have k23 : own_To p e below T15 (mkF m 44 #[.val (.ref a0_), .val (.ref a1), .val (.int z1)] [(.ref a0_)]) s₁ (mkF m 0 #[.val (.ref a0_), .val (.ref a1), .unset] []) := fun t q => k13 t (by
    refine st15 _ ?_
    show Steps p.tables e below (T15.setTop (mkF m 43 #[.val (.ref a0_), .val (.ref a1), .val (.int z1)] [])) _
    refine XS.aloadN Xf15.here hx rfl (hb hby own_d12_43) rfl rfl ?_
    show Steps p.tables e below (T15.setTop (mkF m 44 #[.val (.ref a0_), .val (.ref a1), .val (.int z1)] [(.ref a0_)])) _
    exact q)
  obtain ⟨fs, hr, hrun, hended, hW, hsame⟩ := Xf15.leave (v := some (.ref a0_)) (fun h => by rw [Bd.returns] at h; cases h)
  refine ⟨_, _, k0 _ (k23 _ ?_), hrun, hended, _, _, rfl, ?_, ⟨_, rfl⟩, hW, hsame.mono (by decide) (by decide)⟩
  · show Steps p.tables e below (T15.setTop (mkF m 44 #[.val (.ref a0_), .val (.ref a1), .val (.int z1)] [(.ref a0_)])) _
    exact retOut Xf15 hx Bd.returns rfl (Or.inr (Or.inr (Or.inr (Or.inr ⟨rfl, rfl, rfl⟩)))) (hb hby own_d12_44) hr
  · show QA1 Z a0_ a1 b_ ks_ c_ vs_ b1_ k1_ z1 v1 cs cp_ h0 n0 _ T15.heap _
    rw [e15]
    exact ⟨rfl, Nf15, K22, P21⟩
theorem own_pd21 : parseMethodDescriptor "(Ljava/lang/String;)Ljava/lang/AbstractStringBuilder;" = some ⟨[(.object "java/lang/String")], some (.object "java/lang/AbstractStringBuilder")⟩ := by decide +kernel
theorem own_d11_0 : decode jdk_67_method_7_code 0 = .ok (.aload_n 0, 1) := by decide +kernel
theorem own_d11_1 : decode jdk_67_method_7_code 1 = .ok (.aload_n 1, 1) := by decide +kernel
theorem own_d11_2 : decode jdk_67_method_7_code 2 = .ok (.invokespecial 29, 3) := by decide +kernel
theorem own_d11_5 : decode jdk_67_method_7_code 5 = .ok (.pop, 1) := by decide +kernel
theorem own_d11_6 : decode jdk_67_method_7_code 6 = .ok (.aload_n 0, 1) := by decide +kernel
theorem own_d11_7 : decode jdk_67_method_7_code 7 = .ok (.areturn, 1) := by decide +kernel
theorem own_pn11 : plainName "java/lang/StringBuilder" = true := by first | (simp [plainName, overriddenIn]; done) | decide +kernel
theorem own_efS1 (m : MethodId) (x0 : Addr) (x1 : Addr) : entryFrame m #[(.ref x0), (.ref x1)] 2 = mkF m 0 #[.val (.ref x0), .val (.ref x1)] [] := by first | (simp [entryFrame, mkF, argsToLocals, Value.category]; done) | rfl
def QS1 (Z : State) (a0_ : Addr) (a1 : Addr) (b_ : Addr) (ks_ : ClassId) (c_ : Int32) (vs_ : List Value) (b1_ : Addr) (k1_ : ClassId) (z1 : Int32) (v1 : List Value) (cs : Int32) (cp_ : Int32) (h0 : Heap) (n0 : Nat) (v : Option Value) (h : Heap) (L : List Loc) : Prop := v = some (.ref a0_) ∧ Fr n0 L ∧ Keep h0 h [a0_, b_] ∧ own_sb Z h a0_ b_ ks_ (16 : Int32) cp_ (vs_ ++ v1)
set_option maxRecDepth 65536 in
set_option maxHeartbeats 40000000 in
theorem rmS1 (l : Launch) (Z : State) (a0 : Array Value) (hw : ∀ d ∈ tables_1, d.before a0 Z = true) (ws : List Jvm.Cond) (a0_ : Addr) (a1 : Addr) (b_ : Addr) (ks_ : ClassId) (c_ : Int32) (vs_ : List Value) (b1_ : Addr) (k1_ : ClassId) (z1 : Int32) (v1 : List Value) (cs : Int32) (cp_ : Int32) (h0 : Heap) (n0 : Nat) (Z0 : n0 ≤ h0.size) (P0 : own_sb Z h0 a0_ b_ ks_ (16 : Int32) c_ vs_) (Es1 : Exa Z h0 a1 "java/lang/String") (Fcs1 : Fld Z h0 a1 "java/lang/String" "coder" "B" (.int (0 : Int32))) (Fvs1 : Fld Z h0 a1 "java/lang/String" "value" "[B" (.ref b1_)) (Vs1 : Arv Z h0 b1_ k1_ .byte z1 v1 (.int (0 : Int32))) (hl1 : v1.length = z1.toNatClampNeg) (SC : Sta Z Z.heap "java/lang/String" "COMPACT_STRINGS" "Z" (.int cs)) (hcs : ¬ cs = (0 : Int32)) (O0 : Old Z n0 h0) (hc0 : 0 ≤ c_.toInt) (hy0 : 0 ≤ z1.toInt) (hcp : c_ + z1 = cp_) (hcy : c_.toInt + z1.toInt ≤ 16) (g_ : n0 ≤ a0_) (gb_ : n0 ≤ b_) :
    MetFree l (⟨"java/lang/StringBuilder", "append", "(Ljava/lang/String;)Ljava/lang/StringBuilder;"⟩ : MethodName) (head1 (Jvm.Cond.code (⟨"java/lang/StringBuilder", "append", "(Ljava/lang/String;)Ljava/lang/StringBuilder;"⟩ : MethodName) jdk_67_method_7_code 2 (some (.object "java/lang/StringBuilder")) :: ws) ({ frames := 4, cells := 0, slots := 0, locals := 61 } : Room)) (fun a U => a = #[(.ref a0_), (.ref a1)] ∧ Z.Warmed39 U.vm ∧ U.heap = h0) (fun _ _ _ _ _ => True) (fun _ U o U' => ∃ v L, o = .returned v ∧ QS1 Z a0_ a1 b_ ks_ c_ vs_ b1_ k1_ z1 v1 cs cp_ h0 n0 v U'.heap L ∧ FrameEnd U o U' L ({ frames := 4, cells := 0, slots := 0, locals := 61 } : Room).cells ({ frames := 4, cells := 0, slots := 0, locals := 61 } : Room).slots) := by
  refine MetFree.of_bodySF (plainFor_of_name own_pn11) hisR ?_
  intro p e s m args below meth c s₁ Bd hml0 hP hK
  obtain ⟨rfl, hZ, hh⟩ := hP
  have hx := Bd.exec
  have hby := Bd.bytes
  have hml : c.maxLocals = 2 := hml0
  have hown : s.vm.findClass "java/lang/StringBuilder" = some m.cls := findClass_of_methodNamed Bd.named
  have hnm := (name_of_methodNamed Bd.named Bd.method).1
  have X0 : Stand p l e ({ frames := 4, cells := 0, slots := 0, locals := 61 } : Room) s m #[(.ref a0_), (.ref a1)] below meth c s₁ [] 0 0 := Stand.of_body Bd
  have e0 : s₁.heap = h0 := by rw [← hh, Bd.state]; rfl
  have N0 := Fr.nil n0
  have k0 : own_To p e below s₁ (mkF m 0 #[.val (.ref a0_), .val (.ref a1)] []) s₁ (entryFrame m #[(.ref a0_), (.ref a1)] 2) := fun t k => castTop (own_efS1 m a0_ a1) k
  have ki : own_To p e below s₁ (mkF m 0 #[.val (.ref a0_), .val (.ref a1)] []) s₁ (mkF m 0 #[.val (.ref a0_), .val (.ref a1)] []) := fun t q => q
  have nab : a0_ ≠ b_ := Exa.neArv (own_sbo P0).1 (own_sbo P0).2.2.2.2.1 (hw _ (List.mem_of_getElem? (i := 43) rfl))
  have na1 : a1 ≠ a0_ := Exa.ne Es1 (own_sbo P0).1 (by decide)
  have nb1 : a0_ ≠ b1_ := Exa.neArv (own_sbo P0).1 Vs1 (hw _ (List.mem_of_getElem? (i := 43) rfl))
  have P2 : own_sb Z h0 a0_ b_ ks_ (16 : Int32) c_ vs_ := ⟨(own_sbo P0).1, (own_sbo P0).2.1, (own_sbo P0).2.2.1, (own_sbo P0).2.2.2.1, (own_sbo P0).2.2.2.2.1, (own_sbo P0).2.2.2.2.2.1, (own_sbo P0).2.2.2.2.2.2⟩
  obtain ⟨_, _, ⟨T1, L1, kk1, n1⟩, -, X1, ⟨Lc1, hQ1, l1, y1, z1⟩, st1⟩ := superBack X0 hx hZ (y := (⟨"java/lang/AbstractStringBuilder", "append", "(Ljava/lang/String;)Ljava/lang/AbstractStringBuilder;"⟩ : MethodName)) hown (hw _ (List.mem_of_getElem? (i := 66) rfl)) (own_same (hw _ (List.mem_of_getElem? (i := 67) rfl)) (hw _ (List.mem_of_getElem? (i := 86) rfl)) rfl (by decide)) (hw _ (List.mem_of_getElem? (i := 67) rfl)) (hw _ (List.mem_of_getElem? (i := 68) rfl)) (by decide) (backOf (W := 0) (rmA1 l Z a0 hw [] a0_ a1 b_ ks_ c_ vs_ b1_ k1_ z1 v1 cs cp_ h0 n0 Z0 P2 Es1 Fcs1 Fvs1 Vs1 hl1 SC hcs O0 hc0 hy0 hcp hcy g_ gb_) hZ (hw _ (List.mem_of_getElem? (i := 70) rfl)) (hw _ (List.mem_of_getElem? (i := 52) rfl)) (by decide) (by decide)) e0 (Ins.self (own_sbo P0).1) (g := (mkF m 2 #[.val (.ref a0_), .val (.ref a1)] [(.ref a1), (.ref a0_)])) rfl (by rw [hml]; rfl) (hw _ (List.mem_of_getElem? (i := 70) rfl)) (argsL := [(.ref a1)]) (rest := []) (lenOf own_pd21 rfl) rfl (by show 2 * 0 + _ ≤ _; exact Nat.le_of_eq rfl) (hb hby own_d11_2) (fun _ _ => ⟨rfl, e0, (by decide : 0 + 0 ≤ _), (by decide : 0 + 0 ≤ _)⟩)
  dsimp only [Pt.U, Pt.locs, Pt.cells, Pt.slots] at X1 l1 y1 z1 st1 hQ1
  subst l1 y1 z1
  obtain ⟨rfl, N1q, K1, P1⟩ := hQ1
  have N1 := Fr.app N0 N1q
  have P3 : own_sb Z T1.heap a0_ b_ ks_ (16 : Int32) cp_ (vs_ ++ v1) := ⟨(own_sbo P1).1, (own_sbo P1).2.1, (own_sbo P1).2.2.1, (own_sbo P1).2.2.2.1, (own_sbo P1).2.2.2.2.1, (own_sbo P1).2.2.2.2.2.1, (own_sbo P1).2.2.2.2.2.2⟩
  have K4 : Keep h0 T1.heap [a0_, b_] := ((Keep.refl h0 [a0_, b_]).trans K1 (allS (P := fun x => x ∈ ([a0_, b_] : List Addr) ∨ h0.size ≤ x) (Or.inl (List.mem_of_getElem? (i := 0) rfl)) (allS (P := fun x => x ∈ ([a0_, b_] : List Addr) ∨ h0.size ≤ x) (Or.inl (List.mem_of_getElem? (i := 1) rfl)) all0)))
  have k5 : own_To p e below T1 (mkF m 7 #[.val (.ref a0_), .val (.ref a1)] [(.ref a0_)]) s₁ (mkF m 0 #[.val (.ref a0_), .val (.ref a1)] []) := fun t q => ki t (by
    refine XS.aloadN X0.here hx rfl (hb hby own_d11_0) rfl rfl ?_
    show Steps p.tables e below (s₁.setTop (mkF m 1 #[.val (.ref a0_), .val (.ref a1)] [(.ref a0_)])) _
    refine XS.aloadN X0.here hx rfl (hb hby own_d11_1) rfl rfl ?_
    show Steps p.tables e below (s₁.setTop (mkF m 2 #[.val (.ref a0_), .val (.ref a1)] [(.ref a1), (.ref a0_)])) _
    refine st1.trans ?_
    show Steps p.tables e below (T1.setTop (mkF m 5 #[.val (.ref a0_), .val (.ref a1)] [(.ref a0_)])) _
    refine XS.pop X1.here hx rfl (hb hby own_d11_5) rfl rfl ?_
    show Steps p.tables e below (T1.setTop (mkF m 6 #[.val (.ref a0_), .val (.ref a1)] [])) _
    refine XS.aloadN X1.here hx rfl (hb hby own_d11_6) rfl rfl ?_
    show Steps p.tables e below (T1.setTop (mkF m 7 #[.val (.ref a0_), .val (.ref a1)] [(.ref a0_)])) _
    exact q)
  obtain ⟨fs, hr, hrun, hended, hW, hsame⟩ := X1.leave (v := some (.ref a0_)) (fun h => by rw [Bd.returns] at h; cases h)
  refine ⟨_, _, k0 _ (k5 _ ?_), hrun, hended, _, _, rfl, ?_, ⟨_, rfl⟩, hW, hsame.mono (by decide) (by decide)⟩
  · show Steps p.tables e below (T1.setTop (mkF m 7 #[.val (.ref a0_), .val (.ref a1)] [(.ref a0_)])) _
    exact retOut X1 hx Bd.returns rfl (Or.inr (Or.inr (Or.inr (Or.inr ⟨rfl, rfl, rfl⟩)))) (hb hby own_d11_7) hr
  · show QS1 Z a0_ a1 b_ ks_ c_ vs_ b1_ k1_ z1 v1 cs cp_ h0 n0 _ T1.heap _
    exact ⟨rfl, N1, K4, P3⟩
theorem own_efA2 (m : MethodId) (x0 : Addr) (x1 : Addr) : entryFrame m #[(.ref x0), (.ref x1)] 3 = mkF m 0 #[.val (.ref x0), .val (.ref x1), .unset] [] := by first | (simp [entryFrame, mkF, argsToLocals, Value.category]; done) | rfl
def QA2 (Z : State) (a0_ : Addr) (a1 : Addr) (b_ : Addr) (ks_ : ClassId) (c_ : Int32) (vs_ : List Value) (b1_ : Addr) (k1_ : ClassId) (z1 : Int32) (v1 : List Value) (cs : Int32) (cp_ : Int32) (h0 : Heap) (n0 : Nat) (v : Option Value) (h : Heap) (L : List Loc) : Prop := ∃ (b : Addr) (kb : ClassId), v = some (.ref a0_) ∧ Fr n0 L ∧ Keep h0 h [a0_] ∧ h0.size ≤ b ∧ own_sb Z h a0_ b kb (34 : Int32) cp_ (vs_ ++ v1)
set_option maxRecDepth 65536 in
set_option maxHeartbeats 40000000 in
theorem rmA2 (l : Launch) (Z : State) (a0 : Array Value) (hw : ∀ d ∈ tables_1, d.before a0 Z = true) (ws : List Jvm.Cond) (a0_ : Addr) (a1 : Addr) (b_ : Addr) (ks_ : ClassId) (c_ : Int32) (vs_ : List Value) (b1_ : Addr) (k1_ : ClassId) (z1 : Int32) (v1 : List Value) (cs : Int32) (cp_ : Int32) (h0 : Heap) (n0 : Nat) (Z0 : n0 ≤ h0.size) (P0 : own_sb Z h0 a0_ b_ ks_ (16 : Int32) c_ vs_) (Es1 : Exa Z h0 a1 "java/lang/String") (Fcs1 : Fld Z h0 a1 "java/lang/String" "coder" "B" (.int (0 : Int32))) (Fvs1 : Fld Z h0 a1 "java/lang/String" "value" "[B" (.ref b1_)) (Vs1 : Arv Z h0 b1_ k1_ .byte z1 v1 (.int (0 : Int32))) (hl1 : v1.length = z1.toNatClampNeg) (SC : Sta Z Z.heap "java/lang/String" "COMPACT_STRINGS" "Z" (.int cs)) (hcs : ¬ cs = (0 : Int32)) (O0 : Old Z n0 h0) (hc0 : 0 ≤ c_.toInt) (hy0 : 0 ≤ z1.toInt) (hcp : c_ + z1 = cp_) (hcy : c_.toInt ≤ 16 ∧ 16 < c_.toInt + z1.toInt ∧ c_.toInt + z1.toInt ≤ 34) (g_ : n0 ≤ a0_) (gb_ : n0 ≤ b_) :
    MetFree l (⟨"java/lang/AbstractStringBuilder", "append", "(Ljava/lang/String;)Ljava/lang/AbstractStringBuilder;"⟩ : MethodName) (head1 (Jvm.Cond.code (⟨"java/lang/AbstractStringBuilder", "append", "(Ljava/lang/String;)Ljava/lang/AbstractStringBuilder;"⟩ : MethodName) jdk_68_method_22_code 3 (some (.object "java/lang/AbstractStringBuilder")) :: ws) ({ frames := 4, cells := 1, slots := 34, locals := 62 } : Room)) (fun a U => a = #[(.ref a0_), (.ref a1)] ∧ Z.Warmed39 U.vm ∧ U.heap = h0) (fun _ _ _ _ _ => True) (fun _ U o U' => ∃ v L, o = .returned v ∧ QA2 Z a0_ a1 b_ ks_ c_ vs_ b1_ k1_ z1 v1 cs cp_ h0 n0 v U'.heap L ∧ FrameEnd U o U' L ({ frames := 4, cells := 1, slots := 34, locals := 62 } : Room).cells ({ frames := 4, cells := 1, slots := 34, locals := 62 } : Room).slots) := by
  refine MetFree.of_bodySF (plainFor_of_name own_pn12) hisR ?_
  intro p e s m args below meth c s₁ Bd hml0 hP hK
  obtain ⟨rfl, hZ, hh⟩ := hP
  have hx := Bd.exec
  have hby := Bd.bytes
  have hml : c.maxLocals = 3 := hml0
  have hown : s.vm.findClass "java/lang/AbstractStringBuilder" = some m.cls := findClass_of_methodNamed Bd.named
  have hnm := (name_of_methodNamed Bd.named Bd.method).1
  have X0 : Stand p l e ({ frames := 4, cells := 1, slots := 34, locals := 62 } : Room) s m #[(.ref a0_), (.ref a1)] below meth c s₁ [] 0 0 := Stand.of_body Bd
  have e0 : s₁.heap = h0 := by rw [← hh, Bd.state]; rfl
  have N0 := Fr.nil n0
  have k0 : own_To p e below s₁ (mkF m 0 #[.val (.ref a0_), .val (.ref a1), .unset] []) s₁ (entryFrame m #[(.ref a0_), (.ref a1)] 3) := fun t k => castTop (own_efA2 m a0_ a1) k
  have ki : own_To p e below s₁ (mkF m 0 #[.val (.ref a0_), .val (.ref a1), .unset] []) s₁ (mkF m 0 #[.val (.ref a0_), .val (.ref a1), .unset] []) := fun t q => q
  have nab : a0_ ≠ b_ := Exa.neArv (own_sbo P0).1 (own_sbo P0).2.2.2.2.1 (hw _ (List.mem_of_getElem? (i := 43) rfl))
  have na1 : a1 ≠ a0_ := Exa.ne Es1 (own_sbo P0).1 (by decide)
  have nb1 : a0_ ≠ b1_ := Exa.neArv (own_sbo P0).1 Vs1 (hw _ (List.mem_of_getElem? (i := 43) rfl))
  have hcn := own_fit hc0 hy0 (by omega) hcp
  obtain ⟨cq1, kq1, q1a, q1b, q1c⟩ := isOf hZ e0 Es1
  obtain ⟨_, _, ⟨T1, L1, kk1, n1⟩, -, X1, ⟨Lc1, hQ1, l1, y1, z1⟩, st1⟩ := X0.virtualBack hx (y := (⟨"java/lang/String", "length", "()I"⟩ : MethodName)) (z := (⟨"java/lang/String", "length", "()I"⟩ : MethodName)) hown (mvT hZ (hw _ (List.mem_of_getElem? (i := 71) rfl))) (mvT hZ (hw _ (List.mem_of_getElem? (i := 72) rfl))) (notFace_of_selects (args := #[]) (mvT hZ (hw _ (List.mem_of_getElem? (i := 74) rfl)))) (mvT hZ (hw _ (List.mem_of_getElem? (i := 74) rfl))) (mvT hZ (hw _ (List.mem_of_getElem? (i := 73) rfl))) (by decide) (backOf (W := 0) (rm13 l Z a0 hw [] a1 b1_ k1_ z1 v1 cs h0 n0 Z0 Es1 Fcs1 Fvs1 Vs1 hl1 SC hcs O0) hZ (hw _ (List.mem_of_getElem? (i := 75) rfl)) (hw _ (List.mem_of_getElem? (i := 6) rfl)) (by decide) (by decide)) q1a q1c (g := (mkF m 10 #[.val (.ref a0_), .val (.ref a1), .unset] [(.ref a1)])) rfl (by rw [hml]; rfl) (Steps.refl _) (argsL := []) (rest := []) (lenOf own_pd1 rfl) rfl (by show 2 * 0 + _ ≤ _; exact Nat.le_of_eq rfl) (hb hby own_d12_10) (fun _ _ => ⟨rfl, e0, (by decide : 0 + 0 ≤ _), (by decide : 0 + 0 ≤ _)⟩)
  dsimp only [Pt.U, Pt.locs, Pt.cells, Pt.slots] at X1 l1 y1 z1 st1 hQ1
  subst l1 y1 z1
  obtain ⟨rfl, N1q, e1⟩ := hQ1
  have N1 := Fr.app N0 N1q
  obtain ⟨T2, X2, e2, st2⟩ := getF X1 hx hZ hown (host := "") (Or.inl (hw _ (List.mem_of_getElem? (i := 81) rfl))) Via.refl e1 (own_sbo P0).2.2.2.1 (g := (mkF m 16 #[.val (.ref a0_), .val (.ref a1), .val (.int z1)] [(.ref a0_), (.ref a0_)])) rfl rfl (hb hby own_d12_16)
  have k3 : own_To p e below T2 (mkF m 21 #[.val (.ref a0_), .val (.ref a1), .val (.int z1)] [(.int (c_ + z1)), (.ref a0_)]) s₁ (mkF m 0 #[.val (.ref a0_), .val (.ref a1), .unset] []) := fun t q => ki t (by
    refine XS.aloadN X0.here hx rfl (hb hby own_d12_0) rfl rfl ?_
    show Steps p.tables e below (s₁.setTop (mkF m 1 #[.val (.ref a0_), .val (.ref a1), .unset] [(.ref a1)])) _
    refine XS.ifnonnullYes X0.here hx rfl (pc0 := 1) (pc' := 9) rfl (hb hby own_d12_1) rfl (by decide) (by decide) ?_
    show Steps p.tables e below (s₁.setTop (mkF m 9 #[.val (.ref a0_), .val (.ref a1), .unset] [])) _
    refine XS.aloadN X0.here hx rfl (hb hby own_d12_9) rfl rfl ?_
    show Steps p.tables e below (s₁.setTop (mkF m 10 #[.val (.ref a0_), .val (.ref a1), .unset] [(.ref a1)])) _
    refine st1.trans ?_
    show Steps p.tables e below (T1.setTop (mkF m 13 #[.val (.ref a0_), .val (.ref a1), .unset] [(.int z1)])) _
    refine XS.istoreN X1.here hx rfl (hb hby own_d12_13) rfl (l' := #[.val (.ref a0_), .val (.ref a1), .val (.int z1)]) rfl ?_
    show Steps p.tables e below (T1.setTop (mkF m 14 #[.val (.ref a0_), .val (.ref a1), .val (.int z1)] [])) _
    refine XS.aloadN X1.here hx rfl (hb hby own_d12_14) rfl rfl ?_
    show Steps p.tables e below (T1.setTop (mkF m 15 #[.val (.ref a0_), .val (.ref a1), .val (.int z1)] [(.ref a0_)])) _
    refine XS.aloadN X1.here hx rfl (hb hby own_d12_15) rfl rfl ?_
    show Steps p.tables e below (T1.setTop (mkF m 16 #[.val (.ref a0_), .val (.ref a1), .val (.int z1)] [(.ref a0_), (.ref a0_)])) _
    refine st2 _ ?_
    show Steps p.tables e below (T2.setTop (mkF m 19 #[.val (.ref a0_), .val (.ref a1), .val (.int z1)] [(.int c_), (.ref a0_)])) _
    refine XS.iloadN X2.here hx rfl (hb hby own_d12_19) rfl ?_
    show Steps p.tables e below (T2.setTop (mkF m 20 #[.val (.ref a0_), .val (.ref a1), .val (.int z1)] [(.int z1), (.int c_), (.ref a0_)])) _
    refine XS.iadd X2.here hx rfl (hb hby own_d12_20) rfl ?_
    show Steps p.tables e below (T2.setTop (mkF m 21 #[.val (.ref a0_), .val (.ref a1), .val (.int z1)] [(.int (c_ + z1)), (.ref a0_)])) _
    exact q)
  have k4 : own_To p e below T2 (mkF m 21 #[.val (.ref a0_), .val (.ref a1), .val (.int z1)] [(.int cp_), (.ref a0_)]) s₁ (mkF m 0 #[.val (.ref a0_), .val (.ref a1), .unset] []) := by rw [hcp] at k3; exact k3
  have h1 : 16 < cp_.toInt ∧ cp_.toInt ≤ 34 := by omega
  have hvl : vs_.length ≤ (16 : Int32).toNatClampNeg := by rw [(own_sbo P0).2.2.2.2.2.2]; have := own_tn hc0; rw [show (16 : Int32).toNatClampNeg = 16 from rfl]; omega
  have hlx := own_len2 hc0 hy0 hcn (own_sbo P0).2.2.2.2.2.2 hl1
  have P6 : own_sb Z h0 a0_ b_ ks_ (16 : Int32) c_ vs_ := ⟨(own_sbo P0).1, (own_sbo P0).2.1, (own_sbo P0).2.2.1, (own_sbo P0).2.2.2.1, (own_sbo P0).2.2.2.2.1, (own_sbo P0).2.2.2.2.2.1, (own_sbo P0).2.2.2.2.2.2⟩
  obtain ⟨cq5, kq5, q5a, q5b, q5c⟩ := isOf hZ e2 (own_sbo P0).1
  obtain ⟨_, _, ⟨T5, L5, kk5, n5⟩, -, X5, ⟨Lc5, hQ5, l5, y5, z5⟩, st5⟩ := X2.virtualBack hx (y := (⟨"java/lang/AbstractStringBuilder", "ensureCapacityInternal", "(I)V"⟩ : MethodName)) (z := (⟨"java/lang/AbstractStringBuilder", "ensureCapacityInternal", "(I)V"⟩ : MethodName)) hown (mvT hZ (hw _ (List.mem_of_getElem? (i := 83) rfl))) (mvT hZ (own_decl (hw _ (List.mem_of_getElem? (i := 84) rfl)) (hw _ (List.mem_of_getElem? (i := 87) rfl)))) (notFace_of_selects (args := #[]) (mvT hZ (hw _ (List.mem_of_getElem? (i := 86) rfl)))) (mvT hZ (hw _ (List.mem_of_getElem? (i := 86) rfl))) (mvT hZ (hw _ (List.mem_of_getElem? (i := 84) rfl))) (by decide) (backOf (W := 0) (rmE2 l Z a0 hw [] a0_ cp_ b_ ks_ c_ vs_ h0 n0 Z0 P6 h1 hvl g_) hZ (hw _ (List.mem_of_getElem? (i := 87) rfl)) (hw _ (List.mem_of_getElem? (i := 52) rfl)) (by decide) (by decide)) q5a q5c (g := (mkF m 21 #[.val (.ref a0_), .val (.ref a1), .val (.int z1)] [(.int cp_), (.ref a0_)])) rfl (by rw [hml]; rfl) (Steps.refl _) (argsL := [(.int cp_)]) (rest := []) (lenOf own_pd13 rfl) rfl (by show 2 * 0 + _ ≤ _; exact Nat.le_of_eq rfl) (hb hby own_d12_21) (fun _ _ => ⟨rfl, e2, (by decide : 0 + 1 ≤ _), (by decide : 0 + 34 ≤ _)⟩)
  dsimp only [Pt.U, Pt.locs, Pt.cells, Pt.slots] at X5 l5 y5 z5 st5 hQ5
  subst l5 y5 z5
  obtain ⟨rb5, kb5, rfl, N5q, K5, z5z, P5⟩ := hQ5
  have ne_a0__rb5 : a0_ ≠ rb5 := Nat.ne_of_lt (Nat.lt_of_lt_of_le (own_sbo P0).1.lt z5z)
  have ne_b__rb5 : b_ ≠ rb5 := Nat.ne_of_lt (Nat.lt_of_lt_of_le (own_sbo P0).2.2.2.2.1.lt z5z)
  have ne_a1_rb5 : a1 ≠ rb5 := Nat.ne_of_lt (Nat.lt_of_lt_of_le Es1.lt z5z)
  have ne_b1__rb5 : b1_ ≠ rb5 := Nat.ne_of_lt (Nat.lt_of_lt_of_le Vs1.lt z5z)
  have K7 : Keep h0 h0 [a0_] := (Keep.refl h0 [a0_])
  have sz_rb5 : h0.size ≤ rb5 := Nat.le_trans K7.1 z5z
  have ge_rb5 : n0 ≤ rb5 := Nat.le_trans Z0 sz_rb5
  have N5 := Fr.app N1 N5q
  obtain ⟨T8, X8, e8, st8⟩ := getF X5 hx hZ hown (host := "") (Or.inl (hw _ (List.mem_of_getElem? (i := 81) rfl))) Via.refl rfl (own_sbo P5).2.2.2.1 (g := (mkF m 26 #[.val (.ref a0_), .val (.ref a1), .val (.int z1)] [(.ref a0_), (.ref a0_)])) rfl rfl (hb hby own_d12_26)
  have P10 : own_sb Z T5.heap a0_ rb5 kb5 (34 : Int32) c_ vs_ := ⟨(own_sbo P5).1, (own_sbo P5).2.1, (own_sbo P5).2.2.1, (own_sbo P5).2.2.2.1, (own_sbo P5).2.2.2.2.1, (own_sbo P5).2.2.2.2.2.1, (own_sbo P5).2.2.2.2.2.2⟩
  have F11 := (Es1.keep K5)
  have F12 := (Fcs1.keep K5 (ninS na1 nin0))
  have F13 := (Fvs1.keep K5 (ninS na1 nin0))
  have F14 := (Vs1.keep K5 (ninS (Ne.symm nb1) nin0))
  have K15 : Keep h0 T5.heap [a0_] := (K7.trans K5 (allS (P := fun x => x ∈ ([a0_] : List Addr) ∨ h0.size ≤ x) (Or.inl (List.mem_of_getElem? (i := 0) rfl)) all0))
  have O16 : Old Z n0 T5.heap := (O0.keep K5 (allS g_ all0))
  obtain ⟨cq9, kq9, q9a, q9b, q9c⟩ := isOf hZ e8 (own_sbo P5).1
  obtain ⟨_, _, ⟨T9, L9, kk9, n9⟩, -, X9, ⟨Lc9, hQ9, l9, y9, z9⟩, st9⟩ := X8.virtualBack hx (y := (⟨"java/lang/AbstractStringBuilder", "putStringAt", "(ILjava/lang/String;)V"⟩ : MethodName)) (z := (⟨"java/lang/AbstractStringBuilder", "putStringAt", "(ILjava/lang/String;)V"⟩ : MethodName)) hown (mvT hZ (hw _ (List.mem_of_getElem? (i := 88) rfl))) (mvT hZ (own_decl (hw _ (List.mem_of_getElem? (i := 89) rfl)) (hw _ (List.mem_of_getElem? (i := 92) rfl)))) (notFace_of_selects (args := #[]) (mvT hZ (hw _ (List.mem_of_getElem? (i := 91) rfl)))) (mvT hZ (hw _ (List.mem_of_getElem? (i := 91) rfl))) (mvT hZ (hw _ (List.mem_of_getElem? (i := 89) rfl))) (by decide) (backOf (W := 0) (rm16 l Z a0 hw [] a0_ c_ a1 rb5 kb5 (34 : Int32) c_ vs_ b1_ k1_ z1 v1 cs T5.heap n0 (Nat.le_trans Z0 K15.1) P10 F11 F12 F13 F14 hl1 SC hcs O16 ge_rb5 (own_nn hc0) (own_tn2 hc0 hy0 hcn (by show _ ≤ (34 : Int); omega)) (own_sbo P0).2.2.2.2.2.2) hZ (hw _ (List.mem_of_getElem? (i := 92) rfl)) (hw _ (List.mem_of_getElem? (i := 52) rfl)) (by decide) (by decide)) q9a q9c (g := (mkF m 30 #[.val (.ref a0_), .val (.ref a1), .val (.int z1)] [(.ref a1), (.int c_), (.ref a0_)])) rfl (by rw [hml]; rfl) (Steps.refl _) (argsL := [(.int c_), (.ref a1)]) (rest := []) (lenOf own_pd18 rfl) rfl (by show 2 * 0 + _ ≤ _; exact Nat.le_of_eq rfl) (hb hby own_d12_30) (fun _ _ => ⟨rfl, e8, (by decide : 1 + 0 ≤ _), (by decide : 34 + 0 ≤ _)⟩)
  dsimp only [Pt.U, Pt.locs, Pt.cells, Pt.slots] at X9 l9 y9 z9 st9 hQ9
  subst l9 y9 z9
  obtain ⟨rfl, N9q, K9, V9⟩ := hQ9
  have N9 := Fr.app N5 N9q
  have F17 := ((own_sbo P5).2.2.2.1.keep K9 (ninS ne_a0__rb5 nin0))
  obtain ⟨T18, X18, e18, st18⟩ := getF X9 hx hZ hown (host := "") (Or.inl (hw _ (List.mem_of_getElem? (i := 81) rfl))) Via.refl rfl F17 (g := (mkF m 35 #[.val (.ref a0_), .val (.ref a1), .val (.int z1)] [(.ref a0_), (.ref a0_)])) rfl rfl (hb hby own_d12_35)
  have k19 : own_To p e below T18 (mkF m 40 #[.val (.ref a0_), .val (.ref a1), .val (.int z1)] [(.int (c_ + z1)), (.ref a0_)]) s₁ (mkF m 0 #[.val (.ref a0_), .val (.ref a1), .unset] []) := fun t q => k4 t (by
    refine st5.trans ?_
    show Steps p.tables e below (T5.setTop (mkF m 24 #[.val (.ref a0_), .val (.ref a1), .val (.int z1)] [])) _
    refine XS.aloadN X5.here hx rfl (hb hby own_d12_24) rfl rfl ?_
    show Steps p.tables e below (T5.setTop (mkF m 25 #[.val (.ref a0_), .val (.ref a1), .val (.int z1)] [(.ref a0_)])) _
    refine XS.aloadN X5.here hx rfl (hb hby own_d12_25) rfl rfl ?_
    show Steps p.tables e below (T5.setTop (mkF m 26 #[.val (.ref a0_), .val (.ref a1), .val (.int z1)] [(.ref a0_), (.ref a0_)])) _
    refine st8 _ ?_
    show Steps p.tables e below (T8.setTop (mkF m 29 #[.val (.ref a0_), .val (.ref a1), .val (.int z1)] [(.int c_), (.ref a0_)])) _
    refine XS.aloadN X8.here hx rfl (hb hby own_d12_29) rfl rfl ?_
    show Steps p.tables e below (T8.setTop (mkF m 30 #[.val (.ref a0_), .val (.ref a1), .val (.int z1)] [(.ref a1), (.int c_), (.ref a0_)])) _
    refine st9.trans ?_
    show Steps p.tables e below (T9.setTop (mkF m 33 #[.val (.ref a0_), .val (.ref a1), .val (.int z1)] [])) _
    refine XS.aloadN X9.here hx rfl (hb hby own_d12_33) rfl rfl ?_
    show Steps p.tables e below (T9.setTop (mkF m 34 #[.val (.ref a0_), .val (.ref a1), .val (.int z1)] [(.ref a0_)])) _
    refine XS.dup X9.here hx rfl (hb hby own_d12_34) rfl rfl ?_
    show Steps p.tables e below (T9.setTop (mkF m 35 #[.val (.ref a0_), .val (.ref a1), .val (.int z1)] [(.ref a0_), (.ref a0_)])) _
    refine st18 _ ?_
    show Steps p.tables e below (T18.setTop (mkF m 38 #[.val (.ref a0_), .val (.ref a1), .val (.int z1)] [(.int c_), (.ref a0_)])) _
    refine XS.iloadN X18.here hx rfl (hb hby own_d12_38) rfl ?_
    show Steps p.tables e below (T18.setTop (mkF m 39 #[.val (.ref a0_), .val (.ref a1), .val (.int z1)] [(.int z1), (.int c_), (.ref a0_)])) _
    refine XS.iadd X18.here hx rfl (hb hby own_d12_39) rfl ?_
    show Steps p.tables e below (T18.setTop (mkF m 40 #[.val (.ref a0_), .val (.ref a1), .val (.int z1)] [(.int (c_ + z1)), (.ref a0_)])) _
    exact q)
  have k20 : own_To p e below T18 (mkF m 40 #[.val (.ref a0_), .val (.ref a1), .val (.int z1)] [(.int cp_), (.ref a0_)]) s₁ (mkF m 0 #[.val (.ref a0_), .val (.ref a1), .unset] []) := by rw [hcp] at k19; exact k19
  have F21 := ((own_sbo P5).1.keep K9)
  obtain ⟨T22, h22, X22, e22, W22, st22⟩ := putF X18 hx hZ hown (host := "") (Or.inl (hw _ (List.mem_of_getElem? (i := 81) rfl))) Via.refl e18 F17 F21 (Or.inl (hw _ (List.mem_of_getElem? (i := 82) rfl))) (hw _ (List.mem_of_getElem? (i := 43) rfl)) (ty := .int) (by decide) rfl rfl (g := (mkF m 40 #[.val (.ref a0_), .val (.ref a1), .val (.int z1)] [(.int cp_), (.ref a0_)])) rfl rfl (hb hby own_d12_40)
  have N22 := Fr.snoc X22 N9 g_
  obtain ⟨Lf22, Nf22, Xf22⟩ := own_fold X22 N22
  have Fw22 := F17.same W22
  have F23 := (F21.wr W22)
  have F24 := (((own_sbo P5).2.1.keep K9 (ninS ne_a0__rb5 nin0)).other W22 (Or.inr (slot_ne (Or.inl (hw _ (List.mem_of_getElem? (i := 57) rfl))) (Or.inl (hw _ (List.mem_of_getElem? (i := 82) rfl))) (by decide) (t := (.array .byte)) (t' := .int) (by decide) (by decide))))
  have F25 := (((own_sbo P5).2.2.1.keep K9 (ninS ne_a0__rb5 nin0)).other W22 (Or.inr (slot_ne (Or.inl (hw _ (List.mem_of_getElem? (i := 59) rfl))) (Or.inl (hw _ (List.mem_of_getElem? (i := 82) rfl))) (by decide) (t := .byte) (t' := .int) (by decide) (by decide))))
  have F26 := (V9.other W22 (Ne.symm ne_a0__rb5))
  have F27 := (((own_sbo P5).2.2.2.2.2.1.keep K9).wr W22)
  have P28 : own_sb Z h22 a0_ rb5 kb5 (34 : Int32) cp_ (vs_ ++ v1) := ⟨F23, F24, F25, Fw22, F26, F27, hlx⟩
  have K29 : Keep h0 h22 [a0_] := ((K15.trans K9 (allS (P := fun x => x ∈ ([a0_] : List Addr) ∨ h0.size ≤ x) (Or.inr sz_rb5) all0)).wr W22 (Or.inl (List.mem_of_getElem? (i := 0) rfl)))
  have k30 : own_To p e below T22 (mkF m 44 #[.val (.ref a0_), .val (.ref a1), .val (.int z1)] [(.ref a0_)]) s₁ (mkF m 0 #[.val (.ref a0_), .val (.ref a1), .unset] []) := fun t q => k20 t (by
    refine st22 _ ?_
    show Steps p.tables e below (T22.setTop (mkF m 43 #[.val (.ref a0_), .val (.ref a1), .val (.int z1)] [])) _
    refine XS.aloadN Xf22.here hx rfl (hb hby own_d12_43) rfl rfl ?_
    show Steps p.tables e below (T22.setTop (mkF m 44 #[.val (.ref a0_), .val (.ref a1), .val (.int z1)] [(.ref a0_)])) _
    exact q)
  obtain ⟨fs, hr, hrun, hended, hW, hsame⟩ := Xf22.leave (v := some (.ref a0_)) (fun h => by rw [Bd.returns] at h; cases h)
  refine ⟨_, _, k0 _ (k30 _ ?_), hrun, hended, _, _, rfl, ?_, ⟨_, rfl⟩, hW, hsame.mono (by decide) (by decide)⟩
  · show Steps p.tables e below (T22.setTop (mkF m 44 #[.val (.ref a0_), .val (.ref a1), .val (.int z1)] [(.ref a0_)])) _
    exact retOut Xf22 hx Bd.returns rfl (Or.inr (Or.inr (Or.inr (Or.inr ⟨rfl, rfl, rfl⟩)))) (hb hby own_d12_44) hr
  · show QA2 Z a0_ a1 b_ ks_ c_ vs_ b1_ k1_ z1 v1 cs cp_ h0 n0 _ T22.heap _
    rw [e22]
    exact ⟨rb5, kb5, rfl, Nf22, K29, sz_rb5, P28⟩
theorem own_efS2 (m : MethodId) (x0 : Addr) (x1 : Addr) : entryFrame m #[(.ref x0), (.ref x1)] 2 = mkF m 0 #[.val (.ref x0), .val (.ref x1)] [] := by first | (simp [entryFrame, mkF, argsToLocals, Value.category]; done) | rfl
def QS2 (Z : State) (a0_ : Addr) (a1 : Addr) (b_ : Addr) (ks_ : ClassId) (c_ : Int32) (vs_ : List Value) (b1_ : Addr) (k1_ : ClassId) (z1 : Int32) (v1 : List Value) (cs : Int32) (cp_ : Int32) (h0 : Heap) (n0 : Nat) (v : Option Value) (h : Heap) (L : List Loc) : Prop := ∃ (b : Addr) (kb : ClassId), v = some (.ref a0_) ∧ Fr n0 L ∧ Keep h0 h [a0_] ∧ h0.size ≤ b ∧ own_sb Z h a0_ b kb (34 : Int32) cp_ (vs_ ++ v1)
set_option maxRecDepth 65536 in
set_option maxHeartbeats 40000000 in
theorem rmS2 (l : Launch) (Z : State) (a0 : Array Value) (hw : ∀ d ∈ tables_1, d.before a0 Z = true) (ws : List Jvm.Cond) (a0_ : Addr) (a1 : Addr) (b_ : Addr) (ks_ : ClassId) (c_ : Int32) (vs_ : List Value) (b1_ : Addr) (k1_ : ClassId) (z1 : Int32) (v1 : List Value) (cs : Int32) (cp_ : Int32) (h0 : Heap) (n0 : Nat) (Z0 : n0 ≤ h0.size) (P0 : own_sb Z h0 a0_ b_ ks_ (16 : Int32) c_ vs_) (Es1 : Exa Z h0 a1 "java/lang/String") (Fcs1 : Fld Z h0 a1 "java/lang/String" "coder" "B" (.int (0 : Int32))) (Fvs1 : Fld Z h0 a1 "java/lang/String" "value" "[B" (.ref b1_)) (Vs1 : Arv Z h0 b1_ k1_ .byte z1 v1 (.int (0 : Int32))) (hl1 : v1.length = z1.toNatClampNeg) (SC : Sta Z Z.heap "java/lang/String" "COMPACT_STRINGS" "Z" (.int cs)) (hcs : ¬ cs = (0 : Int32)) (O0 : Old Z n0 h0) (hc0 : 0 ≤ c_.toInt) (hy0 : 0 ≤ z1.toInt) (hcp : c_ + z1 = cp_) (hcy : c_.toInt ≤ 16 ∧ 16 < c_.toInt + z1.toInt ∧ c_.toInt + z1.toInt ≤ 34) (g_ : n0 ≤ a0_) (gb_ : n0 ≤ b_) :
    MetFree l (⟨"java/lang/StringBuilder", "append", "(Ljava/lang/String;)Ljava/lang/StringBuilder;"⟩ : MethodName) (head1 (Jvm.Cond.code (⟨"java/lang/StringBuilder", "append", "(Ljava/lang/String;)Ljava/lang/StringBuilder;"⟩ : MethodName) jdk_67_method_7_code 2 (some (.object "java/lang/StringBuilder")) :: ws) ({ frames := 5, cells := 1, slots := 34, locals := 76 } : Room)) (fun a U => a = #[(.ref a0_), (.ref a1)] ∧ Z.Warmed39 U.vm ∧ U.heap = h0) (fun _ _ _ _ _ => True) (fun _ U o U' => ∃ v L, o = .returned v ∧ QS2 Z a0_ a1 b_ ks_ c_ vs_ b1_ k1_ z1 v1 cs cp_ h0 n0 v U'.heap L ∧ FrameEnd U o U' L ({ frames := 5, cells := 1, slots := 34, locals := 76 } : Room).cells ({ frames := 5, cells := 1, slots := 34, locals := 76 } : Room).slots) := by
  refine MetFree.of_bodySF (plainFor_of_name own_pn11) hisR ?_
  intro p e s m args below meth c s₁ Bd hml0 hP hK
  obtain ⟨rfl, hZ, hh⟩ := hP
  have hx := Bd.exec
  have hby := Bd.bytes
  have hml : c.maxLocals = 2 := hml0
  have hown : s.vm.findClass "java/lang/StringBuilder" = some m.cls := findClass_of_methodNamed Bd.named
  have hnm := (name_of_methodNamed Bd.named Bd.method).1
  have X0 : Stand p l e ({ frames := 5, cells := 1, slots := 34, locals := 76 } : Room) s m #[(.ref a0_), (.ref a1)] below meth c s₁ [] 0 0 := Stand.of_body Bd
  have e0 : s₁.heap = h0 := by rw [← hh, Bd.state]; rfl
  have N0 := Fr.nil n0
  have k0 : own_To p e below s₁ (mkF m 0 #[.val (.ref a0_), .val (.ref a1)] []) s₁ (entryFrame m #[(.ref a0_), (.ref a1)] 2) := fun t k => castTop (own_efS2 m a0_ a1) k
  have ki : own_To p e below s₁ (mkF m 0 #[.val (.ref a0_), .val (.ref a1)] []) s₁ (mkF m 0 #[.val (.ref a0_), .val (.ref a1)] []) := fun t q => q
  have nab : a0_ ≠ b_ := Exa.neArv (own_sbo P0).1 (own_sbo P0).2.2.2.2.1 (hw _ (List.mem_of_getElem? (i := 43) rfl))
  have na1 : a1 ≠ a0_ := Exa.ne Es1 (own_sbo P0).1 (by decide)
  have nb1 : a0_ ≠ b1_ := Exa.neArv (own_sbo P0).1 Vs1 (hw _ (List.mem_of_getElem? (i := 43) rfl))
  have P2 : own_sb Z h0 a0_ b_ ks_ (16 : Int32) c_ vs_ := ⟨(own_sbo P0).1, (own_sbo P0).2.1, (own_sbo P0).2.2.1, (own_sbo P0).2.2.2.1, (own_sbo P0).2.2.2.2.1, (own_sbo P0).2.2.2.2.2.1, (own_sbo P0).2.2.2.2.2.2⟩
  obtain ⟨_, _, ⟨T1, L1, kk1, n1⟩, -, X1, ⟨Lc1, hQ1, l1, y1, z1⟩, st1⟩ := superBack X0 hx hZ (y := (⟨"java/lang/AbstractStringBuilder", "append", "(Ljava/lang/String;)Ljava/lang/AbstractStringBuilder;"⟩ : MethodName)) hown (hw _ (List.mem_of_getElem? (i := 66) rfl)) (own_same (hw _ (List.mem_of_getElem? (i := 67) rfl)) (hw _ (List.mem_of_getElem? (i := 86) rfl)) rfl (by decide)) (hw _ (List.mem_of_getElem? (i := 67) rfl)) (hw _ (List.mem_of_getElem? (i := 68) rfl)) (by decide) (backOf (W := 0) (rmA2 l Z a0 hw [] a0_ a1 b_ ks_ c_ vs_ b1_ k1_ z1 v1 cs cp_ h0 n0 Z0 P2 Es1 Fcs1 Fvs1 Vs1 hl1 SC hcs O0 hc0 hy0 hcp hcy g_ gb_) hZ (hw _ (List.mem_of_getElem? (i := 70) rfl)) (hw _ (List.mem_of_getElem? (i := 52) rfl)) (by decide) (by decide)) e0 (Ins.self (own_sbo P0).1) (g := (mkF m 2 #[.val (.ref a0_), .val (.ref a1)] [(.ref a1), (.ref a0_)])) rfl (by rw [hml]; rfl) (hw _ (List.mem_of_getElem? (i := 70) rfl)) (argsL := [(.ref a1)]) (rest := []) (lenOf own_pd21 rfl) rfl (by show 2 * 0 + _ ≤ _; exact Nat.le_of_eq rfl) (hb hby own_d11_2) (fun _ _ => ⟨rfl, e0, (by decide : 0 + 1 ≤ _), (by decide : 0 + 34 ≤ _)⟩)
  dsimp only [Pt.U, Pt.locs, Pt.cells, Pt.slots] at X1 l1 y1 z1 st1 hQ1
  subst l1 y1 z1
  obtain ⟨rb1, kb1, rfl, N1q, K1, z1z, P1⟩ := hQ1
  have ne_a0__rb1 : a0_ ≠ rb1 := Nat.ne_of_lt (Nat.lt_of_lt_of_le (own_sbo P0).1.lt z1z)
  have ne_b__rb1 : b_ ≠ rb1 := Nat.ne_of_lt (Nat.lt_of_lt_of_le (own_sbo P0).2.2.2.2.1.lt z1z)
  have ne_a1_rb1 : a1 ≠ rb1 := Nat.ne_of_lt (Nat.lt_of_lt_of_le Es1.lt z1z)
  have ne_b1__rb1 : b1_ ≠ rb1 := Nat.ne_of_lt (Nat.lt_of_lt_of_le Vs1.lt z1z)
  have K3 : Keep h0 h0 [a0_] := (Keep.refl h0 [a0_])
  have sz_rb1 : h0.size ≤ rb1 := Nat.le_trans K3.1 z1z
  have ge_rb1 : n0 ≤ rb1 := Nat.le_trans Z0 sz_rb1
  have N1 := Fr.app N0 N1q
  have P4 : own_sb Z T1.heap a0_ rb1 kb1 (34 : Int32) cp_ (vs_ ++ v1) := ⟨(own_sbo P1).1, (own_sbo P1).2.1, (own_sbo P1).2.2.1, (own_sbo P1).2.2.2.1, (own_sbo P1).2.2.2.2.1, (own_sbo P1).2.2.2.2.2.1, (own_sbo P1).2.2.2.2.2.2⟩
  have K5 : Keep h0 T1.heap [a0_] := (K3.trans K1 (allS (P := fun x => x ∈ ([a0_] : List Addr) ∨ h0.size ≤ x) (Or.inl (List.mem_of_getElem? (i := 0) rfl)) all0))
  have k6 : own_To p e below T1 (mkF m 7 #[.val (.ref a0_), .val (.ref a1)] [(.ref a0_)]) s₁ (mkF m 0 #[.val (.ref a0_), .val (.ref a1)] []) := fun t q => ki t (by
    refine XS.aloadN X0.here hx rfl (hb hby own_d11_0) rfl rfl ?_
    show Steps p.tables e below (s₁.setTop (mkF m 1 #[.val (.ref a0_), .val (.ref a1)] [(.ref a0_)])) _
    refine XS.aloadN X0.here hx rfl (hb hby own_d11_1) rfl rfl ?_
    show Steps p.tables e below (s₁.setTop (mkF m 2 #[.val (.ref a0_), .val (.ref a1)] [(.ref a1), (.ref a0_)])) _
    refine st1.trans ?_
    show Steps p.tables e below (T1.setTop (mkF m 5 #[.val (.ref a0_), .val (.ref a1)] [(.ref a0_)])) _
    refine XS.pop X1.here hx rfl (hb hby own_d11_5) rfl rfl ?_
    show Steps p.tables e below (T1.setTop (mkF m 6 #[.val (.ref a0_), .val (.ref a1)] [])) _
    refine XS.aloadN X1.here hx rfl (hb hby own_d11_6) rfl rfl ?_
    show Steps p.tables e below (T1.setTop (mkF m 7 #[.val (.ref a0_), .val (.ref a1)] [(.ref a0_)])) _
    exact q)
  obtain ⟨fs, hr, hrun, hended, hW, hsame⟩ := X1.leave (v := some (.ref a0_)) (fun h => by rw [Bd.returns] at h; cases h)
  refine ⟨_, _, k0 _ (k6 _ ?_), hrun, hended, _, _, rfl, ?_, ⟨_, rfl⟩, hW, hsame.mono (by decide) (by decide)⟩
  · show Steps p.tables e below (T1.setTop (mkF m 7 #[.val (.ref a0_), .val (.ref a1)] [(.ref a0_)])) _
    exact retOut X1 hx Bd.returns rfl (Or.inr (Or.inr (Or.inr (Or.inr ⟨rfl, rfl, rfl⟩)))) (hb hby own_d11_7) hr
  · show QS2 Z a0_ a1 b_ ks_ c_ vs_ b1_ k1_ z1 v1 cs cp_ h0 n0 _ T1.heap _
    exact ⟨rb1, kb1, rfl, N1, K5, sz_rb1, P4⟩
theorem own_d22_0 : decode jdk_68_method_64_code 0 = .ok (.aload_n 0, 1) := by decide +kernel
theorem own_d22_1 : decode jdk_68_method_64_code 1 = .ok (.getfield 15, 3) := by decide +kernel
theorem own_d22_4 : decode jdk_68_method_64_code 4 = .ok (.areturn, 1) := by decide +kernel
theorem own_pn22 : plainName "java/lang/AbstractStringBuilder" = true := by first | (simp [plainName, overriddenIn]; done) | decide +kernel
theorem own_ef22 (m : MethodId) (x0 : Addr) : entryFrame m #[(.ref x0)] 1 = mkF m 0 #[.val (.ref x0)] [] := by first | (simp [entryFrame, mkF, argsToLocals, Value.category]; done) | rfl
def Q22 (Z : State) (a0_ : Addr) (b_ : Addr) (ks_ : ClassId) (z_ : Int32) (c_ : Int32) (vs_ : List Value) (cs : Int32) (h0 : Heap) (n0 : Nat) (v : Option Value) (h : Heap) (L : List Loc) : Prop := v = some (.ref b_) ∧ Fr n0 L ∧ h = h0
set_option maxRecDepth 65536 in
set_option maxHeartbeats 40000000 in
theorem rm22 (l : Launch) (Z : State) (a0 : Array Value) (hw : ∀ d ∈ tables_1, d.before a0 Z = true) (ws : List Jvm.Cond) (a0_ : Addr) (b_ : Addr) (ks_ : ClassId) (z_ : Int32) (c_ : Int32) (vs_ : List Value) (cs : Int32) (h0 : Heap) (n0 : Nat) (Z0 : n0 ≤ h0.size) (P0 : own_sb Z h0 a0_ b_ ks_ z_ c_ vs_) (SC : Sta Z Z.heap "java/lang/String" "COMPACT_STRINGS" "Z" (.int cs)) (hcs : ¬ cs = (0 : Int32)) (O0 : Old Z n0 h0) :
    MetFree l (⟨"java/lang/AbstractStringBuilder", "getValue", "()[B"⟩ : MethodName) (head1 (Jvm.Cond.code (⟨"java/lang/AbstractStringBuilder", "getValue", "()[B"⟩ : MethodName) jdk_68_method_64_code 1 (some (.array .byte)) :: ws) ({ frames := 0, cells := 0, slots := 0, locals := 0 } : Room)) (fun a U => a = #[(.ref a0_)] ∧ Z.Warmed39 U.vm ∧ U.heap = h0) (fun _ _ _ _ _ => True) (fun _ U o U' => ∃ v L, o = .returned v ∧ Q22 Z a0_ b_ ks_ z_ c_ vs_ cs h0 n0 v U'.heap L ∧ FrameEnd U o U' L ({ frames := 0, cells := 0, slots := 0, locals := 0 } : Room).cells ({ frames := 0, cells := 0, slots := 0, locals := 0 } : Room).slots) := by
  refine MetFree.of_bodySF (plainFor_of_name own_pn22) hisR ?_
  intro p e s m args below meth c s₁ Bd hml0 hP hK
  obtain ⟨rfl, hZ, hh⟩ := hP
  have hx := Bd.exec
  have hby := Bd.bytes
  have hml : c.maxLocals = 1 := hml0
  have hown : s.vm.findClass "java/lang/AbstractStringBuilder" = some m.cls := findClass_of_methodNamed Bd.named
  have hnm := (name_of_methodNamed Bd.named Bd.method).1
  have X0 : Stand p l e ({ frames := 0, cells := 0, slots := 0, locals := 0 } : Room) s m #[(.ref a0_)] below meth c s₁ [] 0 0 := Stand.of_body Bd
  have e0 : s₁.heap = h0 := by rw [← hh, Bd.state]; rfl
  have N0 := Fr.nil n0
  have k0 : own_To p e below s₁ (mkF m 0 #[.val (.ref a0_)] []) s₁ (entryFrame m #[(.ref a0_)] 1) := fun t k => castTop (own_ef22 m a0_) k
  have ki : own_To p e below s₁ (mkF m 0 #[.val (.ref a0_)] []) s₁ (mkF m 0 #[.val (.ref a0_)] []) := fun t q => q
  have nab : a0_ ≠ b_ := Exa.neArv (own_sbo P0).1 (own_sbo P0).2.2.2.2.1 (hw _ (List.mem_of_getElem? (i := 43) rfl))
  obtain ⟨T1, X1, e1, st1⟩ := getF X0 hx hZ hown (host := "") (Or.inl (hw _ (List.mem_of_getElem? (i := 56) rfl))) Via.refl e0 (own_sbo P0).2.1 (g := (mkF m 1 #[.val (.ref a0_)] [(.ref a0_)])) rfl rfl (hb hby own_d22_1)
  have k2 : own_To p e below T1 (mkF m 4 #[.val (.ref a0_)] [(.ref b_)]) s₁ (mkF m 0 #[.val (.ref a0_)] []) := fun t q => ki t (by
    refine XS.aloadN X0.here hx rfl (hb hby own_d22_0) rfl rfl ?_
    show Steps p.tables e below (s₁.setTop (mkF m 1 #[.val (.ref a0_)] [(.ref a0_)])) _
    refine st1 _ ?_
    show Steps p.tables e below (T1.setTop (mkF m 4 #[.val (.ref a0_)] [(.ref b_)])) _
    exact q)
  obtain ⟨fs, hr, hrun, hended, hW, hsame⟩ := X1.leave (v := some (.ref b_)) (fun h => by rw [Bd.returns] at h; cases h)
  refine ⟨_, _, k0 _ (k2 _ ?_), hrun, hended, _, _, rfl, ?_, ⟨_, rfl⟩, hW, hsame.mono (by decide) (by decide)⟩
  · show Steps p.tables e below (T1.setTop (mkF m 4 #[.val (.ref a0_)] [(.ref b_)])) _
    exact retOut X1 hx Bd.returns rfl (Or.inr (Or.inr (Or.inr (Or.inr ⟨rfl, rfl, rfl⟩)))) (hb hby own_d22_4) hr
  · show Q22 Z a0_ b_ ks_ z_ c_ vs_ cs h0 n0 _ T1.heap _
    rw [e1]
    exact ⟨rfl, N0, rfl⟩
theorem own_d24_0 : decode jdk_68_method_6_code 0 = .ok (.aload_n 0, 1) := by decide +kernel
theorem own_d24_1 : decode jdk_68_method_6_code 1 = .ok (.getfield 79, 3) := by decide +kernel
theorem own_d24_4 : decode jdk_68_method_6_code 4 = .ok (.ireturn, 1) := by decide +kernel
theorem own_pn24 : plainName "java/lang/AbstractStringBuilder" = true := by first | (simp [plainName, overriddenIn]; done) | decide +kernel
theorem own_ef24 (m : MethodId) (x0 : Addr) : entryFrame m #[(.ref x0)] 1 = mkF m 0 #[.val (.ref x0)] [] := by first | (simp [entryFrame, mkF, argsToLocals, Value.category]; done) | rfl
def Q24 (Z : State) (a0_ : Addr) (b_ : Addr) (ks_ : ClassId) (z_ : Int32) (c_ : Int32) (vs_ : List Value) (cs : Int32) (h0 : Heap) (n0 : Nat) (v : Option Value) (h : Heap) (L : List Loc) : Prop := v = some (.int c_) ∧ Fr n0 L ∧ h = h0
set_option maxRecDepth 65536 in
set_option maxHeartbeats 40000000 in
theorem rm24 (l : Launch) (Z : State) (a0 : Array Value) (hw : ∀ d ∈ tables_1, d.before a0 Z = true) (ws : List Jvm.Cond) (a0_ : Addr) (b_ : Addr) (ks_ : ClassId) (z_ : Int32) (c_ : Int32) (vs_ : List Value) (cs : Int32) (h0 : Heap) (n0 : Nat) (Z0 : n0 ≤ h0.size) (P0 : own_sb Z h0 a0_ b_ ks_ z_ c_ vs_) (SC : Sta Z Z.heap "java/lang/String" "COMPACT_STRINGS" "Z" (.int cs)) (hcs : ¬ cs = (0 : Int32)) (O0 : Old Z n0 h0) :
    MetFree l (⟨"java/lang/AbstractStringBuilder", "length", "()I"⟩ : MethodName) (head1 (Jvm.Cond.code (⟨"java/lang/AbstractStringBuilder", "length", "()I"⟩ : MethodName) jdk_68_method_6_code 1 (some .int) :: ws) ({ frames := 0, cells := 0, slots := 0, locals := 0 } : Room)) (fun a U => a = #[(.ref a0_)] ∧ Z.Warmed39 U.vm ∧ U.heap = h0) (fun _ _ _ _ _ => True) (fun _ U o U' => ∃ v L, o = .returned v ∧ Q24 Z a0_ b_ ks_ z_ c_ vs_ cs h0 n0 v U'.heap L ∧ FrameEnd U o U' L ({ frames := 0, cells := 0, slots := 0, locals := 0 } : Room).cells ({ frames := 0, cells := 0, slots := 0, locals := 0 } : Room).slots) := by
  refine MetFree.of_bodySF (plainFor_of_name own_pn24) hisR ?_
  intro p e s m args below meth c s₁ Bd hml0 hP hK
  obtain ⟨rfl, hZ, hh⟩ := hP
  have hx := Bd.exec
  have hby := Bd.bytes
  have hml : c.maxLocals = 1 := hml0
  have hown : s.vm.findClass "java/lang/AbstractStringBuilder" = some m.cls := findClass_of_methodNamed Bd.named
  have hnm := (name_of_methodNamed Bd.named Bd.method).1
  have X0 : Stand p l e ({ frames := 0, cells := 0, slots := 0, locals := 0 } : Room) s m #[(.ref a0_)] below meth c s₁ [] 0 0 := Stand.of_body Bd
  have e0 : s₁.heap = h0 := by rw [← hh, Bd.state]; rfl
  have N0 := Fr.nil n0
  have k0 : own_To p e below s₁ (mkF m 0 #[.val (.ref a0_)] []) s₁ (entryFrame m #[(.ref a0_)] 1) := fun t k => castTop (own_ef24 m a0_) k
  have ki : own_To p e below s₁ (mkF m 0 #[.val (.ref a0_)] []) s₁ (mkF m 0 #[.val (.ref a0_)] []) := fun t q => q
  have nab : a0_ ≠ b_ := Exa.neArv (own_sbo P0).1 (own_sbo P0).2.2.2.2.1 (hw _ (List.mem_of_getElem? (i := 43) rfl))
  obtain ⟨T1, X1, e1, st1⟩ := getF X0 hx hZ hown (host := "") (Or.inl (hw _ (List.mem_of_getElem? (i := 81) rfl))) Via.refl e0 (own_sbo P0).2.2.2.1 (g := (mkF m 1 #[.val (.ref a0_)] [(.ref a0_)])) rfl rfl (hb hby own_d24_1)
  have k2 : own_To p e below T1 (mkF m 4 #[.val (.ref a0_)] [(.int c_)]) s₁ (mkF m 0 #[.val (.ref a0_)] []) := fun t q => ki t (by
    refine XS.aloadN X0.here hx rfl (hb hby own_d24_0) rfl rfl ?_
    show Steps p.tables e below (s₁.setTop (mkF m 1 #[.val (.ref a0_)] [(.ref a0_)])) _
    refine st1 _ ?_
    show Steps p.tables e below (T1.setTop (mkF m 4 #[.val (.ref a0_)] [(.int c_)])) _
    exact q)
  obtain ⟨fs, hr, hrun, hended, hW, hsame⟩ := X1.leave (v := some (.int c_)) (fun h => by rw [Bd.returns] at h; cases h)
  refine ⟨_, _, k0 _ (k2 _ ?_), hrun, hended, _, _, rfl, ?_, ⟨_, rfl⟩, hW, hsame.mono (by decide) (by decide)⟩
  · show Steps p.tables e below (T1.setTop (mkF m 4 #[.val (.ref a0_)] [(.int c_)])) _
    exact retOut X1 hx Bd.returns rfl (Or.inl ⟨rfl, Or.inl rfl, _, rfl⟩) (hb hby own_d24_4) hr
  · show Q24 Z a0_ b_ ks_ z_ c_ vs_ cs h0 n0 _ T1.heap _
    rw [e1]
    exact ⟨rfl, N0, rfl⟩
theorem own_d23_0 : decode jdk_67_method_93_code 0 = .ok (.aload_n 0, 1) := by decide +kernel
theorem own_d23_1 : decode jdk_67_method_93_code 1 = .ok (.invokespecial 343, 3) := by decide +kernel
theorem own_d23_4 : decode jdk_67_method_93_code 4 = .ok (.ireturn, 1) := by decide +kernel
theorem own_pn23 : plainName "java/lang/StringBuilder" = true := by first | (simp [plainName, overriddenIn]; done) | decide +kernel
theorem own_ef23 (m : MethodId) (x0 : Addr) : entryFrame m #[(.ref x0)] 1 = mkF m 0 #[.val (.ref x0)] [] := by first | (simp [entryFrame, mkF, argsToLocals, Value.category]; done) | rfl
def Q23 (Z : State) (a0_ : Addr) (b_ : Addr) (ks_ : ClassId) (z_ : Int32) (c_ : Int32) (vs_ : List Value) (cs : Int32) (h0 : Heap) (n0 : Nat) (v : Option Value) (h : Heap) (L : List Loc) : Prop := v = some (.int c_) ∧ Fr n0 L ∧ h = h0
set_option maxRecDepth 65536 in
set_option maxHeartbeats 40000000 in
theorem rm23 (l : Launch) (Z : State) (a0 : Array Value) (hw : ∀ d ∈ tables_1, d.before a0 Z = true) (ws : List Jvm.Cond) (a0_ : Addr) (b_ : Addr) (ks_ : ClassId) (z_ : Int32) (c_ : Int32) (vs_ : List Value) (cs : Int32) (h0 : Heap) (n0 : Nat) (Z0 : n0 ≤ h0.size) (P0 : own_sb Z h0 a0_ b_ ks_ z_ c_ vs_) (SC : Sta Z Z.heap "java/lang/String" "COMPACT_STRINGS" "Z" (.int cs)) (hcs : ¬ cs = (0 : Int32)) (O0 : Old Z n0 h0) :
    MetFree l (⟨"java/lang/StringBuilder", "length", "()I"⟩ : MethodName) (head1 (Jvm.Cond.code (⟨"java/lang/StringBuilder", "length", "()I"⟩ : MethodName) jdk_67_method_93_code 1 (some .int) :: ws) ({ frames := 1, cells := 0, slots := 0, locals := 12 } : Room)) (fun a U => a = #[(.ref a0_)] ∧ Z.Warmed39 U.vm ∧ U.heap = h0) (fun _ _ _ _ _ => True) (fun _ U o U' => ∃ v L, o = .returned v ∧ Q23 Z a0_ b_ ks_ z_ c_ vs_ cs h0 n0 v U'.heap L ∧ FrameEnd U o U' L ({ frames := 1, cells := 0, slots := 0, locals := 12 } : Room).cells ({ frames := 1, cells := 0, slots := 0, locals := 12 } : Room).slots) := by
  refine MetFree.of_bodySF (plainFor_of_name own_pn23) hisR ?_
  intro p e s m args below meth c s₁ Bd hml0 hP hK
  obtain ⟨rfl, hZ, hh⟩ := hP
  have hx := Bd.exec
  have hby := Bd.bytes
  have hml : c.maxLocals = 1 := hml0
  have hown : s.vm.findClass "java/lang/StringBuilder" = some m.cls := findClass_of_methodNamed Bd.named
  have hnm := (name_of_methodNamed Bd.named Bd.method).1
  have X0 : Stand p l e ({ frames := 1, cells := 0, slots := 0, locals := 12 } : Room) s m #[(.ref a0_)] below meth c s₁ [] 0 0 := Stand.of_body Bd
  have e0 : s₁.heap = h0 := by rw [← hh, Bd.state]; rfl
  have N0 := Fr.nil n0
  have k0 : own_To p e below s₁ (mkF m 0 #[.val (.ref a0_)] []) s₁ (entryFrame m #[(.ref a0_)] 1) := fun t k => castTop (own_ef23 m a0_) k
  have ki : own_To p e below s₁ (mkF m 0 #[.val (.ref a0_)] []) s₁ (mkF m 0 #[.val (.ref a0_)] []) := fun t q => q
  have nab : a0_ ≠ b_ := Exa.neArv (own_sbo P0).1 (own_sbo P0).2.2.2.2.1 (hw _ (List.mem_of_getElem? (i := 43) rfl))
  have P2 : own_sb Z h0 a0_ b_ ks_ z_ c_ vs_ := ⟨(own_sbo P0).1, (own_sbo P0).2.1, (own_sbo P0).2.2.1, (own_sbo P0).2.2.2.1, (own_sbo P0).2.2.2.2.1, (own_sbo P0).2.2.2.2.2.1, (own_sbo P0).2.2.2.2.2.2⟩
  obtain ⟨_, _, ⟨T1, L1, kk1, n1⟩, -, X1, ⟨Lc1, hQ1, l1, y1, z1⟩, st1⟩ := superBack X0 hx hZ (y := (⟨"java/lang/AbstractStringBuilder", "length", "()I"⟩ : MethodName)) hown (hw _ (List.mem_of_getElem? (i := 131) rfl)) (own_same (hw _ (List.mem_of_getElem? (i := 127) rfl)) (hw _ (List.mem_of_getElem? (i := 86) rfl)) rfl (by decide)) (hw _ (List.mem_of_getElem? (i := 127) rfl)) (hw _ (List.mem_of_getElem? (i := 68) rfl)) (by decide) (backOf (W := 0) (rm24 l Z a0 hw [] a0_ b_ ks_ z_ c_ vs_ cs h0 n0 Z0 P2 SC hcs O0) hZ (hw _ (List.mem_of_getElem? (i := 132) rfl)) (hw _ (List.mem_of_getElem? (i := 52) rfl)) (by decide) (by decide)) e0 (Ins.self (own_sbo P0).1) (g := (mkF m 1 #[.val (.ref a0_)] [(.ref a0_)])) rfl (by rw [hml]; rfl) (hw _ (List.mem_of_getElem? (i := 132) rfl)) (argsL := []) (rest := []) (lenOf own_pd1 rfl) rfl (by show 2 * 0 + _ ≤ _; exact Nat.le_of_eq rfl) (hb hby own_d23_1) (fun _ _ => ⟨rfl, e0, (by decide : 0 + 0 ≤ _), (by decide : 0 + 0 ≤ _)⟩)
  dsimp only [Pt.U, Pt.locs, Pt.cells, Pt.slots] at X1 l1 y1 z1 st1 hQ1
  subst l1 y1 z1
  obtain ⟨rfl, N1q, e1⟩ := hQ1
  have N1 := Fr.app N0 N1q
  have k3 : own_To p e below T1 (mkF m 4 #[.val (.ref a0_)] [(.int c_)]) s₁ (mkF m 0 #[.val (.ref a0_)] []) := fun t q => ki t (by
    refine XS.aloadN X0.here hx rfl (hb hby own_d23_0) rfl rfl ?_
    show Steps p.tables e below (s₁.setTop (mkF m 1 #[.val (.ref a0_)] [(.ref a0_)])) _
    refine st1.trans ?_
    show Steps p.tables e below (T1.setTop (mkF m 4 #[.val (.ref a0_)] [(.int c_)])) _
    exact q)
  obtain ⟨fs, hr, hrun, hended, hW, hsame⟩ := X1.leave (v := some (.int c_)) (fun h => by rw [Bd.returns] at h; cases h)
  refine ⟨_, _, k0 _ (k3 _ ?_), hrun, hended, _, _, rfl, ?_, ⟨_, rfl⟩, hW, hsame.mono (by decide) (by decide)⟩
  · show Steps p.tables e below (T1.setTop (mkF m 4 #[.val (.ref a0_)] [(.int c_)])) _
    exact retOut X1 hx Bd.returns rfl (Or.inl ⟨rfl, Or.inl rfl, _, rfl⟩) (hb hby own_d23_4) hr
  · show Q23 Z a0_ b_ ks_ z_ c_ vs_ cs h0 n0 _ T1.heap _
    rw [e1]
    exact ⟨rfl, N1, rfl⟩
theorem own_d25_0 : decode jdk_68_method_68_code 0 = .ok (.getstatic 18, 3) := by decide +kernel
theorem own_d25_3 : decode jdk_68_method_68_code 3 = .ok (.ifCond .eq 14, 3) := by decide +kernel
theorem own_d25_6 : decode jdk_68_method_68_code 6 = .ok (.aload_n 0, 1) := by decide +kernel
theorem own_d25_7 : decode jdk_68_method_68_code 7 = .ok (.getfield 22, 3) := by decide +kernel
theorem own_d25_10 : decode jdk_68_method_68_code 10 = .ok (.ifCond .ne 7, 3) := by decide +kernel
theorem own_d25_13 : decode jdk_68_method_68_code 13 = .ok (.iconst 1, 1) := by decide +kernel
theorem own_d25_14 : decode jdk_68_method_68_code 14 = .ok (.goto 4, 3) := by decide +kernel
theorem own_d25_18 : decode jdk_68_method_68_code 18 = .ok (.ireturn, 1) := by decide +kernel
theorem own_pn25 : plainName "java/lang/AbstractStringBuilder" = true := by first | (simp [plainName, overriddenIn]; done) | decide +kernel
theorem own_ef25 (m : MethodId) (x0 : Addr) : entryFrame m #[(.ref x0)] 1 = mkF m 0 #[.val (.ref x0)] [] := by first | (simp [entryFrame, mkF, argsToLocals, Value.category]; done) | rfl
def Q25 (Z : State) (a0_ : Addr) (b_ : Addr) (ks_ : ClassId) (z_ : Int32) (c_ : Int32) (vs_ : List Value) (cs : Int32) (h0 : Heap) (n0 : Nat) (v : Option Value) (h : Heap) (L : List Loc) : Prop := v = some (.int (1 : Int32)) ∧ Fr n0 L ∧ h = h0
set_option maxRecDepth 65536 in
set_option maxHeartbeats 40000000 in
theorem rm25 (l : Launch) (Z : State) (a0 : Array Value) (hw : ∀ d ∈ tables_1, d.before a0 Z = true) (ws : List Jvm.Cond) (a0_ : Addr) (b_ : Addr) (ks_ : ClassId) (z_ : Int32) (c_ : Int32) (vs_ : List Value) (cs : Int32) (h0 : Heap) (n0 : Nat) (Z0 : n0 ≤ h0.size) (P0 : own_sb Z h0 a0_ b_ ks_ z_ c_ vs_) (SC : Sta Z Z.heap "java/lang/String" "COMPACT_STRINGS" "Z" (.int cs)) (hcs : ¬ cs = (0 : Int32)) (O0 : Old Z n0 h0) :
    MetFree l (⟨"java/lang/AbstractStringBuilder", "isLatin1", "()Z"⟩ : MethodName) (head1 (Jvm.Cond.code (⟨"java/lang/AbstractStringBuilder", "isLatin1", "()Z"⟩ : MethodName) jdk_68_method_68_code 1 (some .boolean) :: ws) ({ frames := 0, cells := 0, slots := 0, locals := 0 } : Room)) (fun a U => a = #[(.ref a0_)] ∧ Z.Warmed39 U.vm ∧ U.heap = h0) (fun _ _ _ _ _ => True) (fun _ U o U' => ∃ v L, o = .returned v ∧ Q25 Z a0_ b_ ks_ z_ c_ vs_ cs h0 n0 v U'.heap L ∧ FrameEnd U o U' L ({ frames := 0, cells := 0, slots := 0, locals := 0 } : Room).cells ({ frames := 0, cells := 0, slots := 0, locals := 0 } : Room).slots) := by
  refine MetFree.of_bodySF (plainFor_of_name own_pn25) hisR ?_
  intro p e s m args below meth c s₁ Bd hml0 hP hK
  obtain ⟨rfl, hZ, hh⟩ := hP
  have hx := Bd.exec
  have hby := Bd.bytes
  have hml : c.maxLocals = 1 := hml0
  have hown : s.vm.findClass "java/lang/AbstractStringBuilder" = some m.cls := findClass_of_methodNamed Bd.named
  have hnm := (name_of_methodNamed Bd.named Bd.method).1
  have X0 : Stand p l e ({ frames := 0, cells := 0, slots := 0, locals := 0 } : Room) s m #[(.ref a0_)] below meth c s₁ [] 0 0 := Stand.of_body Bd
  have e0 : s₁.heap = h0 := by rw [← hh, Bd.state]; rfl
  have N0 := Fr.nil n0
  have k0 : own_To p e below s₁ (mkF m 0 #[.val (.ref a0_)] []) s₁ (entryFrame m #[(.ref a0_)] 1) := fun t k => castTop (own_ef25 m a0_) k
  have ki : own_To p e below s₁ (mkF m 0 #[.val (.ref a0_)] []) s₁ (mkF m 0 #[.val (.ref a0_)] []) := fun t q => q
  have nab : a0_ ≠ b_ := Exa.neArv (own_sbo P0).1 (own_sbo P0).2.2.2.2.1 (hw _ (List.mem_of_getElem? (i := 43) rfl))
  obtain ⟨T1, X1, e1, st1⟩ := getS2 X0 hx hZ hown (host := "") (Or.inl (hw _ (List.mem_of_getElem? (i := 55) rfl))) Via.refl e0 (SC.ext O0.2) (g := (mkF m 0 #[.val (.ref a0_)] [])) rfl (hb hby own_d25_0)
  obtain ⟨T2, X2, e2, st2⟩ := getF X1 hx hZ hown (host := "") (Or.inl (hw _ (List.mem_of_getElem? (i := 58) rfl))) Via.refl e1 (own_sbo P0).2.2.1 (g := (mkF m 7 #[.val (.ref a0_)] [(.ref a0_)])) rfl rfl (hb hby own_d25_7)
  have k3 : own_To p e below T2 (mkF m 18 #[.val (.ref a0_)] [(.int (1 : Int32))]) s₁ (mkF m 0 #[.val (.ref a0_)] []) := fun t q => ki t (by
    refine st1 _ ?_
    show Steps p.tables e below (T1.setTop (mkF m 3 #[.val (.ref a0_)] [(.int cs)])) _
    refine XS.ifNo X1.here hx rfl (hb hby own_d25_3) rfl ((if0 _ _).trans (feq hcs).1) ?_
    show Steps p.tables e below (T1.setTop (mkF m 6 #[.val (.ref a0_)] [])) _
    refine XS.aloadN X1.here hx rfl (hb hby own_d25_6) rfl rfl ?_
    show Steps p.tables e below (T1.setTop (mkF m 7 #[.val (.ref a0_)] [(.ref a0_)])) _
    refine st2 _ ?_
    show Steps p.tables e below (T2.setTop (mkF m 10 #[.val (.ref a0_)] [(.int (0 : Int32))])) _
    refine XS.ifNo X2.here hx rfl (hb hby own_d25_10) rfl ((if0 _ _).trans (teq rfl).2) ?_
    show Steps p.tables e below (T2.setTop (mkF m 13 #[.val (.ref a0_)] [])) _
    refine XS.iconst X2.here hx rfl (hb hby own_d25_13) ?_
    show Steps p.tables e below (T2.setTop (mkF m 14 #[.val (.ref a0_)] [(.int (1 : Int32))])) _
    refine XS.goto X2.here hx rfl (pc0 := 14) (pc' := 18) rfl (hb hby own_d25_14) (by decide) (by decide) ?_
    show Steps p.tables e below (T2.setTop (mkF m 18 #[.val (.ref a0_)] [(.int (1 : Int32))])) _
    exact q)
  obtain ⟨fs, hr, hrun, hended, hW, hsame⟩ := X2.leave (v := some (.int (1 : Int32))) (fun h => by rw [Bd.returns] at h; cases h)
  refine ⟨_, _, k0 _ (k3 _ ?_), hrun, hended, _, _, rfl, ?_, ⟨_, rfl⟩, hW, hsame.mono (by decide) (by decide)⟩
  · show Steps p.tables e below (T2.setTop (mkF m 18 #[.val (.ref a0_)] [(.int (1 : Int32))])) _
    exact retN X2 hx (t := .boolean) Bd.returns (by simp) (hb hby own_d25_18) hr
  · show Q25 Z a0_ b_ ks_ z_ c_ vs_ cs h0 n0 _ T2.heap _
    rw [e2]
    exact ⟨rfl, N0, rfl⟩
theorem own_pd6 : parseMethodDescriptor "()[B" = some ⟨[], some (.array .byte)⟩ := by decide +kernel
theorem own_d21_0 : decode jdk_42_method_150_code 0 = .ok (.aload_n 0, 1) := by decide +kernel
theorem own_d21_1 : decode jdk_42_method_150_code 1 = .ok (.invokespecial 1, 3) := by decide +kernel
theorem own_d21_4 : decode jdk_42_method_150_code 4 = .ok (.aload_n 1, 1) := by decide +kernel
theorem own_d21_5 : decode jdk_42_method_150_code 5 = .ok (.invokevirtual 552, 3) := by decide +kernel
theorem own_d21_8 : decode jdk_42_method_150_code 8 = .ok (.astore_n 3, 1) := by decide +kernel
theorem own_d21_9 : decode jdk_42_method_150_code 9 = .ok (.aload_n 1, 1) := by decide +kernel
theorem own_d21_10 : decode jdk_42_method_150_code 10 = .ok (.invokevirtual 549, 3) := by decide +kernel
theorem own_d21_13 : decode jdk_42_method_150_code 13 = .ok (.istore 4, 2) := by decide +kernel
theorem own_d21_15 : decode jdk_42_method_150_code 15 = .ok (.aload_n 1, 1) := by decide +kernel
theorem own_d21_16 : decode jdk_42_method_150_code 16 = .ok (.invokevirtual 1047, 3) := by decide +kernel
theorem own_d21_19 : decode jdk_42_method_150_code 19 = .ok (.ifCond .eq 22, 3) := by decide +kernel
theorem own_d21_22 : decode jdk_42_method_150_code 22 = .ok (.aload_n 0, 1) := by decide +kernel
theorem own_d21_23 : decode jdk_42_method_150_code 23 = .ok (.iconst 0, 1) := by decide +kernel
theorem own_d21_24 : decode jdk_42_method_150_code 24 = .ok (.putfield 15, 3) := by decide +kernel
theorem own_d21_27 : decode jdk_42_method_150_code 27 = .ok (.aload_n 0, 1) := by decide +kernel
theorem own_d21_28 : decode jdk_42_method_150_code 28 = .ok (.aload_n 3, 1) := by decide +kernel
theorem own_d21_29 : decode jdk_42_method_150_code 29 = .ok (.iconst 0, 1) := by decide +kernel
theorem own_d21_30 : decode jdk_42_method_150_code 30 = .ok (.iload 4, 2) := by decide +kernel
theorem own_d21_32 : decode jdk_42_method_150_code 32 = .ok (.invokestatic 54, 3) := by decide +kernel
theorem own_d21_35 : decode jdk_42_method_150_code 35 = .ok (.putfield 9, 3) := by decide +kernel
theorem own_d21_38 : decode jdk_42_method_150_code 38 = .ok (.goto 59, 3) := by decide +kernel
theorem own_d21_97 : decode jdk_42_method_150_code 97 = .ok (.return_, 1) := by decide +kernel
theorem own_pn21 : plainName "java/lang/String" = true := by first | (simp [plainName, overriddenIn]; done) | decide +kernel
theorem own_efV1 (m : MethodId) (x0 : Addr) (x1 : Addr) : entryFrame m #[(.ref x0), (.ref x1), .null] 5 = mkF m 0 #[.val (.ref x0), .val (.ref x1), .val .null, .unset, .unset] [] := by first | (simp [entryFrame, mkF, argsToLocals, Value.category]; done) | rfl
def QV1 (Z : State) (a0_ : Addr) (a1 : Addr) (b_ : Addr) (ks_ : ClassId) (z_ : Int32) (c_ : Int32) (vs_ : List Value) (cs : Int32) (h0 : Heap) (n0 : Nat) (v : Option Value) (h : Heap) (L : List Loc) : Prop := ∃ (b : Addr) (kb : ClassId), v = none ∧ Fr n0 L ∧ Keep h0 h [a0_] ∧ Exa Z h a0_ "java/lang/String" ∧ Fld Z h a0_ "java/lang/String" "coder" "B" (.int (0 : Int32)) ∧ Fld Z h a0_ "java/lang/String" "value" "[B" (.ref b) ∧ Arv Z h b kb .byte c_ vs_ (.int (0 : Int32))
set_option maxRecDepth 65536 in
set_option maxHeartbeats 40000000 in
theorem rmV1 (l : Launch) (Z : State) (a0 : Array Value) (hw : ∀ d ∈ tables_1, d.before a0 Z = true) (ws : List Jvm.Cond) (a0_ : Addr) (a1 : Addr) (b_ : Addr) (ks_ : ClassId) (z_ : Int32) (c_ : Int32) (vs_ : List Value) (cs : Int32) (h0 : Heap) (n0 : Nat) (Z0 : n0 ≤ h0.size) (F_value : Fld Z h0 a0_ "java/lang/String" "value" "[B" .null) (F_coder : Fld Z h0 a0_ "java/lang/String" "coder" "B" (.int (0 : Int32))) (E_ : Exa Z h0 a0_ "java/lang/String") (g_ : n0 ≤ a0_) (P0 : own_sb Z h0 a1 b_ ks_ z_ c_ vs_) (h0_ : ¬ c_ < (0 : Int32)) (hle : c_.toNatClampNeg ≤ z_.toNatClampNeg) (hcap : c_.toNatClampNeg ≤ 34) (hmin : (own_min z_ c_) = c_) (hne : ¬ c_ = z_) (SC : Sta Z Z.heap "java/lang/String" "COMPACT_STRINGS" "Z" (.int cs)) (hcs : ¬ cs = (0 : Int32)) (O0 : Old Z n0 h0) :
    MetFree l (⟨"java/lang/String", "<init>", "(Ljava/lang/AbstractStringBuilder;Ljava/lang/Void;)V"⟩ : MethodName) (head1 (Jvm.Cond.code (⟨"java/lang/String", "<init>", "(Ljava/lang/AbstractStringBuilder;Ljava/lang/Void;)V"⟩ : MethodName) jdk_42_method_150_code 5 none :: ws) ({ frames := 3, cells := 1, slots := 34, locals := 49 } : Room)) (fun a U => a = #[(.ref a0_), (.ref a1), .null] ∧ Z.Warmed39 U.vm ∧ U.heap = h0) (fun _ _ _ _ _ => True) (fun _ U o U' => ∃ v L, o = .returned v ∧ QV1 Z a0_ a1 b_ ks_ z_ c_ vs_ cs h0 n0 v U'.heap L ∧ FrameEnd U o U' L ({ frames := 3, cells := 1, slots := 34, locals := 49 } : Room).cells ({ frames := 3, cells := 1, slots := 34, locals := 49 } : Room).slots) := by
  refine MetFree.of_bodySF (plainFor_of_name own_pn21) hisR ?_
  intro p e s m args below meth c s₁ Bd hml0 hP hK
  obtain ⟨rfl, hZ, hh⟩ := hP
  have hx := Bd.exec
  have hby := Bd.bytes
  have hml : c.maxLocals = 5 := hml0
  have hown : s.vm.findClass "java/lang/String" = some m.cls := findClass_of_methodNamed Bd.named
  have hnm := (name_of_methodNamed Bd.named Bd.method).1
  have X0 : Stand p l e ({ frames := 3, cells := 1, slots := 34, locals := 49 } : Room) s m #[(.ref a0_), (.ref a1), .null] below meth c s₁ [] 0 0 := Stand.of_body Bd
  have e0 : s₁.heap = h0 := by rw [← hh, Bd.state]; rfl
  have N0 := Fr.nil n0
  have k0 : own_To p e below s₁ (mkF m 0 #[.val (.ref a0_), .val (.ref a1), .val .null, .unset, .unset] []) s₁ (entryFrame m #[(.ref a0_), (.ref a1), .null] 5) := fun t k => castTop (own_efV1 m a0_ a1) k
  have ki : own_To p e below s₁ (mkF m 0 #[.val (.ref a0_), .val (.ref a1), .val .null, .unset, .unset] []) s₁ (mkF m 0 #[.val (.ref a0_), .val (.ref a1), .val .null, .unset, .unset] []) := fun t q => q
  have hl_ := (own_sbo P0).2.2.2.2.2.2
  have nsb : a0_ ≠ b_ := Exa.neArv E_ (own_sbo P0).2.2.2.2.1 (hw _ (List.mem_of_getElem? (i := 5) rfl))
  have nsa : a0_ ≠ a1 := Exa.ne E_ (own_sbo P0).1 (by decide)
  obtain ⟨T1, X1, e1, st1⟩ := initO X0 hx hZ hown (hw _ (List.mem_of_getElem? (i := 15) rfl)) (hw _ (List.mem_of_getElem? (i := 16) rfl)) (hw _ (List.mem_of_getElem? (i := 17) rfl)) e0 (g := (mkF m 1 #[.val (.ref a0_), .val (.ref a1), .val .null, .unset, .unset] [(.ref a0_)])) rfl (by rw [hml]; rfl) rfl (hb hby own_d21_1) (by decide) (W := 0) (by show 2 * 0 + _ ≤ _; exact Nat.le_of_eq rfl) (by decide)
  have P3 : own_sb Z h0 a1 b_ ks_ z_ c_ vs_ := ⟨(own_sbo P0).1, (own_sbo P0).2.1, (own_sbo P0).2.2.1, (own_sbo P0).2.2.2.1, (own_sbo P0).2.2.2.2.1, (own_sbo P0).2.2.2.2.2.1, (own_sbo P0).2.2.2.2.2.2⟩
  obtain ⟨cq2, kq2, q2a, q2b, q2c⟩ := isOf hZ e1 (own_sbo P0).1
  obtain ⟨_, _, ⟨T2, L2, kk2, n2⟩, -, X2, ⟨Lc2, hQ2, l2, y2, z2⟩, st2⟩ := X1.virtualBack hx (y := (⟨"java/lang/AbstractStringBuilder", "getValue", "()[B"⟩ : MethodName)) (z := (⟨"java/lang/AbstractStringBuilder", "getValue", "()[B"⟩ : MethodName)) hown (mvT hZ (hw _ (List.mem_of_getElem? (i := 120) rfl))) (mvT hZ (hw _ (List.mem_of_getElem? (i := 121) rfl))) (notFace_of_selects (args := #[]) (mvT hZ (hw _ (List.mem_of_getElem? (i := 123) rfl)))) (mvT hZ (hw _ (List.mem_of_getElem? (i := 123) rfl))) (mvT hZ (hw _ (List.mem_of_getElem? (i := 122) rfl))) (by decide) (backOf (W := 0) (rm22 l Z a0 hw [] a1 b_ ks_ z_ c_ vs_ cs h0 n0 Z0 P3 SC hcs O0) hZ (hw _ (List.mem_of_getElem? (i := 124) rfl)) (hw _ (List.mem_of_getElem? (i := 52) rfl)) (by decide) (by decide)) q2a q2c (g := (mkF m 5 #[.val (.ref a0_), .val (.ref a1), .val .null, .unset, .unset] [(.ref a1)])) rfl (by rw [hml]; rfl) (Steps.refl _) (argsL := []) (rest := []) (lenOf own_pd6 rfl) rfl (by show 2 * 0 + _ ≤ _; exact Nat.le_of_eq rfl) (hb hby own_d21_5) (fun _ _ => ⟨rfl, e1, (by decide : 0 + 0 ≤ _), (by decide : 0 + 0 ≤ _)⟩)
  dsimp only [Pt.U, Pt.locs, Pt.cells, Pt.slots] at X2 l2 y2 z2 st2 hQ2
  subst l2 y2 z2
  obtain ⟨rfl, N2q, e2⟩ := hQ2
  have N2 := Fr.app N0 N2q
  have P5 : own_sb Z h0 a1 b_ ks_ z_ c_ vs_ := ⟨(own_sbo P0).1, (own_sbo P0).2.1, (own_sbo P0).2.2.1, (own_sbo P0).2.2.2.1, (own_sbo P0).2.2.2.2.1, (own_sbo P0).2.2.2.2.2.1, (own_sbo P0).2.2.2.2.2.2⟩
  obtain ⟨cq4, kq4, q4a, q4b, q4c⟩ := isOf hZ e2 (own_sbo P0).1
  obtain ⟨_, _, ⟨T4, L4, kk4, n4⟩, -, X4, ⟨Lc4, hQ4, l4, y4, z4⟩, st4⟩ := X2.virtualBack hx (y := (⟨"java/lang/AbstractStringBuilder", "length", "()I"⟩ : MethodName)) (z := (⟨"java/lang/StringBuilder", "length", "()I"⟩ : MethodName)) hown (mvT hZ (hw _ (List.mem_of_getElem? (i := 125) rfl))) (mvT hZ (hw _ (List.mem_of_getElem? (i := 126) rfl))) (own_nf (args := #[]) (mvT hZ (hw _ (List.mem_of_getElem? (i := 86) rfl))) rfl) (mvT hZ (hw _ (List.mem_of_getElem? (i := 128) rfl))) (mvT hZ (hw _ (List.mem_of_getElem? (i := 129) rfl))) (by decide) (backOf (W := 0) (rm23 l Z a0 hw [] a1 b_ ks_ z_ c_ vs_ cs h0 n0 Z0 P5 SC hcs O0) hZ (hw _ (List.mem_of_getElem? (i := 130) rfl)) (hw _ (List.mem_of_getElem? (i := 44) rfl)) (by decide) (by decide)) q4a q4c (g := (mkF m 10 #[.val (.ref a0_), .val (.ref a1), .val .null, .val (.ref b_), .unset] [(.ref a1)])) rfl (by rw [hml]; rfl) (Steps.refl _) (argsL := []) (rest := []) (lenOf own_pd1 rfl) rfl (by show 2 * 0 + _ ≤ _; exact Nat.le_of_eq rfl) (hb hby own_d21_10) (fun _ _ => ⟨rfl, e2, (by decide : 0 + 0 ≤ _), (by decide : 0 + 0 ≤ _)⟩)
  dsimp only [Pt.U, Pt.locs, Pt.cells, Pt.slots] at X4 l4 y4 z4 st4 hQ4
  subst l4 y4 z4
  obtain ⟨rfl, N4q, e4⟩ := hQ4
  have N4 := Fr.app N2 N4q
  have P7 : own_sb Z h0 a1 b_ ks_ z_ c_ vs_ := ⟨(own_sbo P0).1, (own_sbo P0).2.1, (own_sbo P0).2.2.1, (own_sbo P0).2.2.2.1, (own_sbo P0).2.2.2.2.1, (own_sbo P0).2.2.2.2.2.1, (own_sbo P0).2.2.2.2.2.2⟩
  obtain ⟨cq6, kq6, q6a, q6b, q6c⟩ := isOf hZ e4 (own_sbo P0).1
  obtain ⟨_, _, ⟨T6, L6, kk6, n6⟩, -, X6, ⟨Lc6, hQ6, l6, y6, z6⟩, st6⟩ := X4.virtualBack hx (y := (⟨"java/lang/AbstractStringBuilder", "isLatin1", "()Z"⟩ : MethodName)) (z := (⟨"java/lang/AbstractStringBuilder", "isLatin1", "()Z"⟩ : MethodName)) hown (mvT hZ (hw _ (List.mem_of_getElem? (i := 133) rfl))) (mvT hZ (hw _ (List.mem_of_getElem? (i := 134) rfl))) (notFace_of_selects (args := #[]) (mvT hZ (hw _ (List.mem_of_getElem? (i := 136) rfl)))) (mvT hZ (hw _ (List.mem_of_getElem? (i := 136) rfl))) (mvT hZ (hw _ (List.mem_of_getElem? (i := 135) rfl))) (by decide) (backOf (W := 0) (rm25 l Z a0 hw [] a1 b_ ks_ z_ c_ vs_ cs h0 n0 Z0 P7 SC hcs O0) hZ (hw _ (List.mem_of_getElem? (i := 137) rfl)) (hw _ (List.mem_of_getElem? (i := 52) rfl)) (by decide) (by decide)) q6a q6c (g := (mkF m 16 #[.val (.ref a0_), .val (.ref a1), .val .null, .val (.ref b_), .val (.int c_)] [(.ref a1)])) rfl (by rw [hml]; rfl) (Steps.refl _) (argsL := []) (rest := []) (lenOf own_pd5 rfl) rfl (by show 2 * 0 + _ ≤ _; exact Nat.le_of_eq rfl) (hb hby own_d21_16) (fun _ _ => ⟨rfl, e4, (by decide : 0 + 0 ≤ _), (by decide : 0 + 0 ≤ _)⟩)
  dsimp only [Pt.U, Pt.locs, Pt.cells, Pt.slots] at X6 l6 y6 z6 st6 hQ6
  subst l6 y6 z6
  obtain ⟨rfl, N6q, e6⟩ := hQ6
  have N6 := Fr.app N4 N6q
  have k8 : own_To p e below T6 (mkF m 23 #[.val (.ref a0_), .val (.ref a1), .val .null, .val (.ref b_), .val (.int c_)] [(.ref a0_)]) s₁ (mkF m 0 #[.val (.ref a0_), .val (.ref a1), .val .null, .unset, .unset] []) := fun t q => ki t (by
    refine XS.aloadN X0.here hx rfl (hb hby own_d21_0) rfl rfl ?_
    show Steps p.tables e below (s₁.setTop (mkF m 1 #[.val (.ref a0_), .val (.ref a1), .val .null, .unset, .unset] [(.ref a0_)])) _
    refine st1 _ ?_
    show Steps p.tables e below (T1.setTop (mkF m 4 #[.val (.ref a0_), .val (.ref a1), .val .null, .unset, .unset] [])) _
    refine XS.aloadN X1.here hx rfl (hb hby own_d21_4) rfl rfl ?_
    show Steps p.tables e below (T1.setTop (mkF m 5 #[.val (.ref a0_), .val (.ref a1), .val .null, .unset, .unset] [(.ref a1)])) _
    refine st2.trans ?_
    show Steps p.tables e below (T2.setTop (mkF m 8 #[.val (.ref a0_), .val (.ref a1), .val .null, .unset, .unset] [(.ref b_)])) _
    refine XS.astoreN X2.here hx rfl (hb hby own_d21_8) rfl rfl (l' := #[.val (.ref a0_), .val (.ref a1), .val .null, .val (.ref b_), .unset]) rfl ?_
    show Steps p.tables e below (T2.setTop (mkF m 9 #[.val (.ref a0_), .val (.ref a1), .val .null, .val (.ref b_), .unset] [])) _
    refine XS.aloadN X2.here hx rfl (hb hby own_d21_9) rfl rfl ?_
    show Steps p.tables e below (T2.setTop (mkF m 10 #[.val (.ref a0_), .val (.ref a1), .val .null, .val (.ref b_), .unset] [(.ref a1)])) _
    refine st4.trans ?_
    show Steps p.tables e below (T4.setTop (mkF m 13 #[.val (.ref a0_), .val (.ref a1), .val .null, .val (.ref b_), .unset] [(.int c_)])) _
    refine XS.istore X4.here hx rfl (hb hby own_d21_13) rfl (l' := #[.val (.ref a0_), .val (.ref a1), .val .null, .val (.ref b_), .val (.int c_)]) rfl ?_
    show Steps p.tables e below (T4.setTop (mkF m 15 #[.val (.ref a0_), .val (.ref a1), .val .null, .val (.ref b_), .val (.int c_)] [])) _
    refine XS.aloadN X4.here hx rfl (hb hby own_d21_15) rfl rfl ?_
    show Steps p.tables e below (T4.setTop (mkF m 16 #[.val (.ref a0_), .val (.ref a1), .val .null, .val (.ref b_), .val (.int c_)] [(.ref a1)])) _
    refine st6.trans ?_
    show Steps p.tables e below (T6.setTop (mkF m 19 #[.val (.ref a0_), .val (.ref a1), .val .null, .val (.ref b_), .val (.int c_)] [(.int (1 : Int32))])) _
    refine XS.ifNo X6.here hx rfl (hb hby own_d21_19) rfl ((if0 _ _).trans (feq (by decide)).1) ?_
    show Steps p.tables e below (T6.setTop (mkF m 22 #[.val (.ref a0_), .val (.ref a1), .val .null, .val (.ref b_), .val (.int c_)] [])) _
    refine XS.aloadN X6.here hx rfl (hb hby own_d21_22) rfl rfl ?_
    show Steps p.tables e below (T6.setTop (mkF m 23 #[.val (.ref a0_), .val (.ref a1), .val .null, .val (.ref b_), .val (.int c_)] [(.ref a0_)])) _
    exact q)
  obtain ⟨T9, h9, X9, e9, W9, st9⟩ := putFN X6 hx hZ hown (hw _ (List.mem_of_getElem? (i := 25) rfl)) Via.refl e6 F_coder E_ (Or.inr ⟨(hw _ (List.mem_of_getElem? (i := 21) rfl)), rfl, hnm⟩) (hw _ (List.mem_of_getElem? (i := 5) rfl)) (ty := .byte) (v' := (.int (nar .byte (0 : Int32)))) (by decide) rfl (fits_nar_byte _) (g := (mkF m 24 #[.val (.ref a0_), .val (.ref a1), .val .null, .val (.ref b_), .val (.int c_)] [(.int (0 : Int32)), (.ref a0_)])) rfl rfl (hb hby own_d21_24)
  have N9 := Fr.snoc X9 N6 g_
  obtain ⟨Lf9, Nf9, Xf9⟩ := own_fold X9 N9
  have Fw9 := F_coder.same W9
  have K11 : Keep h0 h9 [a0_] := ((Keep.refl h0 [a0_]).wr W9 (Or.inl (List.mem_of_getElem? (i := 0) rfl)))
  have F12 := ((own_sbo P0).2.2.2.2.1.other W9 (Ne.symm nsb))
  obtain ⟨_, _, ⟨T10, L10, kk10, n10⟩, -, X10, ⟨Lc10, hQ10, l10, y10, z10⟩, st10⟩ := Jvm.LawKit.callS Xf9 hx (y := (⟨"java/util/Arrays", "copyOfRange", "([BII)[B"⟩ : MethodName)) hown (mvT hZ (hw _ (List.mem_of_getElem? (i := 138) rfl))) (mvT hZ (hw _ (List.mem_of_getElem? (i := 139) rfl))) (mvT hZ (hw _ (List.mem_of_getElem? (i := 140) rfl))) (mvT hZ (hw _ (List.mem_of_getElem? (i := 141) rfl))) (by decide) (backOf (W := 1) (rmR1 l Z a0 hw [] b_ c_ ks_ z_ vs_ h9 n0 (Nat.le_trans Z0 K11.1) F12 h0_ hle hcap hl_ hmin hne) hZ (hw _ (List.mem_of_getElem? (i := 141) rfl)) (hw _ (List.mem_of_getElem? (i := 140) rfl)) (by decide) (by decide)) (g := (mkF m 32 #[.val (.ref a0_), .val (.ref a1), .val .null, .val (.ref b_), .val (.int c_)] [(.int c_), (.int (0 : Int32)), (.ref b_), (.ref a0_)])) rfl (by rw [hml]; rfl) (argsL := [(.ref b_), (.int (0 : Int32)), (.int c_)]) (rest := [(.ref a0_)]) (lenOf own_pd33 rfl) rfl (by show 2 * 0 + _ ≤ _; exact Nat.le_of_eq rfl) (hb hby own_d21_32) (fun _ _ => ⟨rfl, e9, (by decide : 0 + 1 ≤ _), (by decide : 0 + 34 ≤ _)⟩)
  dsimp only [Pt.U, Pt.locs, Pt.cells, Pt.slots] at X10 l10 y10 z10 st10 hQ10
  subst l10 y10 z10
  obtain ⟨rb10, kb10, rfl, N10q, K10, z10z, V10, EB10⟩ := hQ10
  have F13 := (E_.wr W9)
  have ne_a0__rb10 : a0_ ≠ rb10 := Nat.ne_of_lt (Nat.lt_of_lt_of_le F13.lt z10z)
  have F14 := ((own_sbo P0).1.wr W9)
  have ne_a1_rb10 : a1 ≠ rb10 := Nat.ne_of_lt (Nat.lt_of_lt_of_le F14.lt z10z)
  have ne_b__rb10 : b_ ≠ rb10 := Nat.ne_of_lt (Nat.lt_of_lt_of_le F12.lt z10z)
  have sz_rb10 : h0.size ≤ rb10 := Nat.le_trans K11.1 z10z
  have ge_rb10 : n0 ≤ rb10 := Nat.le_trans Z0 sz_rb10
  have N10 := Fr.app Nf9 N10q
  have F15 := ((F_value.other W9 (Or.inr (slot_ne (Or.inr (hw _ (List.mem_of_getElem? (i := 20) rfl))) (Or.inr (hw _ (List.mem_of_getElem? (i := 21) rfl))) (by decide) (t := (.array .byte)) (t' := .byte) (by decide) (by decide)))).keep K10 nin0)
  have F16 := (F13.keep K10)
  obtain ⟨T17, h17, X17, e17, W17, st17⟩ := putF X10 hx hZ hown (host := "") (Or.inl (hw _ (List.mem_of_getElem? (i := 24) rfl))) Via.refl rfl F15 F16 (Or.inr ⟨(hw _ (List.mem_of_getElem? (i := 20) rfl)), rfl, hnm⟩) (hw _ (List.mem_of_getElem? (i := 5) rfl)) (ty := (.array .byte)) (by decide) rfl rfl (g := (mkF m 35 #[.val (.ref a0_), .val (.ref a1), .val .null, .val (.ref b_), .val (.int c_)] [(.ref rb10), (.ref a0_)])) rfl rfl (hb hby own_d21_35)
  have N17 := Fr.snoc X17 N10 g_
  obtain ⟨Lf17, Nf17, Xf17⟩ := own_fold X17 N17
  have Fw17 := F15.same W17
  have F18 := ((Fw9.keep K10 nin0).other W17 (Or.inr (slot_ne (Or.inr (hw _ (List.mem_of_getElem? (i := 21) rfl))) (Or.inr (hw _ (List.mem_of_getElem? (i := 20) rfl))) (by decide) (t := .byte) (t' := (.array .byte)) (by decide) (by decide))))
  have Fz19 : Fld Z h17 a0_ "java/lang/String" "coder" "B" (.int (0 : Int32)) := by have q := F18; rw [show nar .byte (0 : Int32) = 0 from by decide] at q; exact q
  have F20 := (F16.wr W17)
  have F21 := (V10.other W17 (Ne.symm ne_a0__rb10))
  have K22 : Keep h0 h17 [a0_] := ((K11.trans K10 all0).wr W17 (Or.inl (List.mem_of_getElem? (i := 0) rfl)))
  have k23 : own_To p e below T17 (mkF m 97 #[.val (.ref a0_), .val (.ref a1), .val .null, .val (.ref b_), .val (.int c_)] []) s₁ (mkF m 0 #[.val (.ref a0_), .val (.ref a1), .val .null, .unset, .unset] []) := fun t q => k8 t (by
    refine XS.iconst X6.here hx rfl (hb hby own_d21_23) ?_
    show Steps p.tables e below (T6.setTop (mkF m 24 #[.val (.ref a0_), .val (.ref a1), .val .null, .val (.ref b_), .val (.int c_)] [(.int (0 : Int32)), (.ref a0_)])) _
    refine st9 _ ?_
    show Steps p.tables e below (T9.setTop (mkF m 27 #[.val (.ref a0_), .val (.ref a1), .val .null, .val (.ref b_), .val (.int c_)] [])) _
    refine XS.aloadN Xf9.here hx rfl (hb hby own_d21_27) rfl rfl ?_
    show Steps p.tables e below (T9.setTop (mkF m 28 #[.val (.ref a0_), .val (.ref a1), .val .null, .val (.ref b_), .val (.int c_)] [(.ref a0_)])) _
    refine XS.aloadN Xf9.here hx rfl (hb hby own_d21_28) rfl rfl ?_
    show Steps p.tables e below (T9.setTop (mkF m 29 #[.val (.ref a0_), .val (.ref a1), .val .null, .val (.ref b_), .val (.int c_)] [(.ref b_), (.ref a0_)])) _
    refine XS.iconst Xf9.here hx rfl (hb hby own_d21_29) ?_
    show Steps p.tables e below (T9.setTop (mkF m 30 #[.val (.ref a0_), .val (.ref a1), .val .null, .val (.ref b_), .val (.int c_)] [(.int (0 : Int32)), (.ref b_), (.ref a0_)])) _
    refine XS.iload Xf9.here hx rfl (hb hby own_d21_30) rfl ?_
    show Steps p.tables e below (T9.setTop (mkF m 32 #[.val (.ref a0_), .val (.ref a1), .val .null, .val (.ref b_), .val (.int c_)] [(.int c_), (.int (0 : Int32)), (.ref b_), (.ref a0_)])) _
    refine st10 _ ?_
    show Steps p.tables e below (T10.setTop (mkF m 35 #[.val (.ref a0_), .val (.ref a1), .val .null, .val (.ref b_), .val (.int c_)] [(.ref rb10), (.ref a0_)])) _
    refine st17 _ ?_
    show Steps p.tables e below (T17.setTop (mkF m 38 #[.val (.ref a0_), .val (.ref a1), .val .null, .val (.ref b_), .val (.int c_)] [])) _
    refine XS.goto Xf17.here hx rfl (pc0 := 38) (pc' := 97) rfl (hb hby own_d21_38) (by decide) (by decide) ?_
    show Steps p.tables e below (T17.setTop (mkF m 97 #[.val (.ref a0_), .val (.ref a1), .val .null, .val (.ref b_), .val (.int c_)] [])) _
    exact q)
  obtain ⟨fs, hr, hrun, hended, hW, hsame⟩ := Xf17.leave (v := none) (fun _ => rfl)
  refine ⟨_, _, k0 _ (k23 _ ?_), hrun, hended, _, _, rfl, ?_, ⟨_, rfl⟩, hW, hsame.mono (by decide) (by decide)⟩
  · show Steps p.tables e below (T17.setTop (mkF m 97 #[.val (.ref a0_), .val (.ref a1), .val .null, .val (.ref b_), .val (.int c_)] [])) _
    exact Xf17.returnOut hx Bd.returns (hb hby own_d21_97) hr
  · show QV1 Z a0_ a1 b_ ks_ z_ c_ vs_ cs h0 n0 _ T17.heap _
    rw [e17]
    exact ⟨rb10, kb10, rfl, Nf17, K22, F20, Fz19, Fw17, F21⟩
theorem own_pd19 : parseMethodDescriptor "(Ljava/lang/AbstractStringBuilder;Ljava/lang/Void;)V" = some ⟨[(.object "java/lang/AbstractStringBuilder"), (.object "java/lang/Void")], none⟩ := by decide +kernel
theorem own_d20_0 : decode jdk_42_method_53_code 0 = .ok (.aload_n 0, 1) := by decide +kernel
theorem own_d20_1 : decode jdk_42_method_53_code 1 = .ok (.aload_n 1, 1) := by decide +kernel
theorem own_d20_2 : decode jdk_42_method_53_code 2 = .ok (.aconst_null, 1) := by decide +kernel
theorem own_d20_3 : decode jdk_42_method_53_code 3 = .ok (.invokespecial 489, 3) := by decide +kernel
theorem own_d20_6 : decode jdk_42_method_53_code 6 = .ok (.return_, 1) := by decide +kernel
theorem own_pn20 : plainName "java/lang/String" = true := by first | (simp [plainName, overriddenIn]; done) | decide +kernel
theorem own_efU1 (m : MethodId) (x0 : Addr) (x1 : Addr) : entryFrame m #[(.ref x0), (.ref x1)] 2 = mkF m 0 #[.val (.ref x0), .val (.ref x1)] [] := by first | (simp [entryFrame, mkF, argsToLocals, Value.category]; done) | rfl
def QU1 (Z : State) (a0_ : Addr) (a1 : Addr) (b_ : Addr) (ks_ : ClassId) (z_ : Int32) (c_ : Int32) (vs_ : List Value) (cs : Int32) (h0 : Heap) (n0 : Nat) (v : Option Value) (h : Heap) (L : List Loc) : Prop := ∃ (b : Addr) (kb : ClassId), v = none ∧ Fr n0 L ∧ Keep h0 h [a0_] ∧ Exa Z h a0_ "java/lang/String" ∧ Fld Z h a0_ "java/lang/String" "coder" "B" (.int (0 : Int32)) ∧ Fld Z h a0_ "java/lang/String" "value" "[B" (.ref b) ∧ Arv Z h b kb .byte c_ vs_ (.int (0 : Int32))
set_option maxRecDepth 65536 in
set_option maxHeartbeats 40000000 in
theorem rmU1 (l : Launch) (Z : State) (a0 : Array Value) (hw : ∀ d ∈ tables_1, d.before a0 Z = true) (ws : List Jvm.Cond) (a0_ : Addr) (a1 : Addr) (b_ : Addr) (ks_ : ClassId) (z_ : Int32) (c_ : Int32) (vs_ : List Value) (cs : Int32) (h0 : Heap) (n0 : Nat) (Z0 : n0 ≤ h0.size) (F_value : Fld Z h0 a0_ "java/lang/String" "value" "[B" .null) (F_coder : Fld Z h0 a0_ "java/lang/String" "coder" "B" (.int (0 : Int32))) (E_ : Exa Z h0 a0_ "java/lang/String") (g_ : n0 ≤ a0_) (P0 : own_sb Z h0 a1 b_ ks_ z_ c_ vs_) (h0_ : ¬ c_ < (0 : Int32)) (hle : c_.toNatClampNeg ≤ z_.toNatClampNeg) (hcap : c_.toNatClampNeg ≤ 34) (hmin : (own_min z_ c_) = c_) (hne : ¬ c_ = z_) (SC : Sta Z Z.heap "java/lang/String" "COMPACT_STRINGS" "Z" (.int cs)) (hcs : ¬ cs = (0 : Int32)) (O0 : Old Z n0 h0) :
    MetFree l (⟨"java/lang/String", "<init>", "(Ljava/lang/StringBuilder;)V"⟩ : MethodName) (head1 (Jvm.Cond.code (⟨"java/lang/String", "<init>", "(Ljava/lang/StringBuilder;)V"⟩ : MethodName) jdk_42_method_53_code 2 none :: ws) ({ frames := 4, cells := 1, slots := 34, locals := 65 } : Room)) (fun a U => a = #[(.ref a0_), (.ref a1)] ∧ Z.Warmed39 U.vm ∧ U.heap = h0) (fun _ _ _ _ _ => True) (fun _ U o U' => ∃ v L, o = .returned v ∧ QU1 Z a0_ a1 b_ ks_ z_ c_ vs_ cs h0 n0 v U'.heap L ∧ FrameEnd U o U' L ({ frames := 4, cells := 1, slots := 34, locals := 65 } : Room).cells ({ frames := 4, cells := 1, slots := 34, locals := 65 } : Room).slots) := by
  refine MetFree.of_bodySF (plainFor_of_name own_pn20) hisR ?_
  intro p e s m args below meth c s₁ Bd hml0 hP hK
  obtain ⟨rfl, hZ, hh⟩ := hP
  have hx := Bd.exec
  have hby := Bd.bytes
  have hml : c.maxLocals = 2 := hml0
  have hown : s.vm.findClass "java/lang/String" = some m.cls := findClass_of_methodNamed Bd.named
  have hnm := (name_of_methodNamed Bd.named Bd.method).1
  have X0 : Stand p l e ({ frames := 4, cells := 1, slots := 34, locals := 65 } : Room) s m #[(.ref a0_), (.ref a1)] below meth c s₁ [] 0 0 := Stand.of_body Bd
  have e0 : s₁.heap = h0 := by rw [← hh, Bd.state]; rfl
  have N0 := Fr.nil n0
  have k0 : own_To p e below s₁ (mkF m 0 #[.val (.ref a0_), .val (.ref a1)] []) s₁ (entryFrame m #[(.ref a0_), (.ref a1)] 2) := fun t k => castTop (own_efU1 m a0_ a1) k
  have ki : own_To p e below s₁ (mkF m 0 #[.val (.ref a0_), .val (.ref a1)] []) s₁ (mkF m 0 #[.val (.ref a0_), .val (.ref a1)] []) := fun t q => q
  have hl_ := (own_sbo P0).2.2.2.2.2.2
  have P2 : own_sb Z h0 a1 b_ ks_ z_ c_ vs_ := ⟨(own_sbo P0).1, (own_sbo P0).2.1, (own_sbo P0).2.2.1, (own_sbo P0).2.2.2.1, (own_sbo P0).2.2.2.2.1, (own_sbo P0).2.2.2.2.2.1, (own_sbo P0).2.2.2.2.2.2⟩
  obtain ⟨_, _, ⟨T1, L1, kk1, n1⟩, -, X1, ⟨Lc1, hQ1, l1, y1, z1⟩, st1⟩ := X0.specialBack hx (y := (⟨"java/lang/String", "<init>", "(Ljava/lang/AbstractStringBuilder;Ljava/lang/Void;)V"⟩ : MethodName)) rfl hown (mvT hZ (hw _ (List.mem_of_getElem? (i := 117) rfl))) (mvT hZ (hw _ (List.mem_of_getElem? (i := 118) rfl))) (mvT hZ (hw _ (List.mem_of_getElem? (i := 119) rfl))) (by decide) (backOf (W := 0) (rmV1 l Z a0 hw [] a0_ a1 b_ ks_ z_ c_ vs_ cs h0 n0 Z0 F_value F_coder E_ g_ P2 h0_ hle hcap hmin hne SC hcs O0) hZ (hw _ (List.mem_of_getElem? (i := 119) rfl)) (hw _ (List.mem_of_getElem? (i := 6) rfl)) (by decide) (by decide)) (g := (mkF m 3 #[.val (.ref a0_), .val (.ref a1)] [.null, (.ref a1), (.ref a0_)])) rfl (by rw [hml]; rfl) (Steps.refl _) (a := a0_) (argsL := [(.ref a1), .null]) (rest := []) (lenOf own_pd19 rfl) rfl (by show 2 * 0 + _ ≤ _; exact Nat.le_of_eq rfl) (hb hby own_d20_3) (fun _ _ => ⟨rfl, e0, (by decide : 0 + 1 ≤ _), (by decide : 0 + 34 ≤ _)⟩)
  dsimp only [Pt.U, Pt.locs, Pt.cells, Pt.slots] at X1 l1 y1 z1 st1 hQ1
  subst l1 y1 z1
  obtain ⟨rb1, kb1, rfl, N1q, K1, E1, Fc1, Fv1, V1⟩ := hQ1
  have N1 := Fr.app N0 N1q
  have K3 : Keep h0 T1.heap [a0_] := ((Keep.refl h0 [a0_]).trans K1 (allS (P := fun x => x ∈ ([a0_] : List Addr) ∨ h0.size ≤ x) (Or.inl (List.mem_of_getElem? (i := 0) rfl)) all0))
  have k4 : own_To p e below T1 (mkF m 6 #[.val (.ref a0_), .val (.ref a1)] []) s₁ (mkF m 0 #[.val (.ref a0_), .val (.ref a1)] []) := fun t q => ki t (by
    refine XS.aloadN X0.here hx rfl (hb hby own_d20_0) rfl rfl ?_
    show Steps p.tables e below (s₁.setTop (mkF m 1 #[.val (.ref a0_), .val (.ref a1)] [(.ref a0_)])) _
    refine XS.aloadN X0.here hx rfl (hb hby own_d20_1) rfl rfl ?_
    show Steps p.tables e below (s₁.setTop (mkF m 2 #[.val (.ref a0_), .val (.ref a1)] [(.ref a1), (.ref a0_)])) _
    refine XS.aconstNull X0.here hx rfl (hb hby own_d20_2) ?_
    show Steps p.tables e below (s₁.setTop (mkF m 3 #[.val (.ref a0_), .val (.ref a1)] [.null, (.ref a1), (.ref a0_)])) _
    refine st1.trans ?_
    show Steps p.tables e below (T1.setTop (mkF m 6 #[.val (.ref a0_), .val (.ref a1)] [])) _
    exact q)
  obtain ⟨fs, hr, hrun, hended, hW, hsame⟩ := X1.leave (v := none) (fun _ => rfl)
  refine ⟨_, _, k0 _ (k4 _ ?_), hrun, hended, _, _, rfl, ?_, ⟨_, rfl⟩, hW, hsame.mono (by decide) (by decide)⟩
  · show Steps p.tables e below (T1.setTop (mkF m 6 #[.val (.ref a0_), .val (.ref a1)] [])) _
    exact X1.returnOut hx Bd.returns (hb hby own_d20_6) hr
  · show QU1 Z a0_ a1 b_ ks_ z_ c_ vs_ cs h0 n0 _ T1.heap _
    exact ⟨rb1, kb1, rfl, N1, K3, E1, Fc1, Fv1, V1⟩
theorem own_pd27 : parseMethodDescriptor "(Ljava/lang/StringBuilder;)V" = some ⟨[(.object "java/lang/StringBuilder")], none⟩ := by decide +kernel
theorem own_d19_0 : decode jdk_67_method_42_code 0 = .ok (.new 18, 3) := by decide +kernel
theorem own_d19_3 : decode jdk_67_method_42_code 3 = .ok (.dup, 1) := by decide +kernel
theorem own_d19_4 : decode jdk_67_method_42_code 4 = .ok (.aload_n 0, 1) := by decide +kernel
theorem own_d19_5 : decode jdk_67_method_42_code 5 = .ok (.invokespecial 137, 3) := by decide +kernel
theorem own_d19_8 : decode jdk_67_method_42_code 8 = .ok (.areturn, 1) := by decide +kernel
theorem own_pn19 : plainName "java/lang/StringBuilder" = true := by first | (simp [plainName, overriddenIn]; done) | decide +kernel
theorem own_efT1 (m : MethodId) (x0 : Addr) : entryFrame m #[(.ref x0)] 1 = mkF m 0 #[.val (.ref x0)] [] := by first | (simp [entryFrame, mkF, argsToLocals, Value.category]; done) | rfl
def QT1 (Z : State) (a0_ : Addr) (b_ : Addr) (ks_ : ClassId) (z_ : Int32) (c_ : Int32) (vs_ : List Value) (cs : Int32) (h0 : Heap) (n0 : Nat) (v : Option Value) (h : Heap) (L : List Loc) : Prop := ∃ (r b : Addr) (kb : ClassId), v = some (.ref r) ∧ Fr n0 L ∧ Keep h0 h [] ∧ Exa Z h r "java/lang/String" ∧ Fld Z h r "java/lang/String" "coder" "B" (.int (0 : Int32)) ∧ Fld Z h r "java/lang/String" "value" "[B" (.ref b) ∧ Arv Z h b kb .byte c_ vs_ (.int (0 : Int32))
set_option maxRecDepth 65536 in
set_option maxHeartbeats 40000000 in
theorem rmT1 (l : Launch) (Z : State) (a0 : Array Value) (hw : ∀ d ∈ tables_1, d.before a0 Z = true) (ws : List Jvm.Cond) (a0_ : Addr) (b_ : Addr) (ks_ : ClassId) (z_ : Int32) (c_ : Int32) (vs_ : List Value) (cs : Int32) (h0 : Heap) (n0 : Nat) (Z0 : n0 ≤ h0.size) (P0 : own_sb Z h0 a0_ b_ ks_ z_ c_ vs_) (h0_ : ¬ c_ < (0 : Int32)) (hle : c_.toNatClampNeg ≤ z_.toNatClampNeg) (hcap : c_.toNatClampNeg ≤ 34) (hmin : (own_min z_ c_) = c_) (hne : ¬ c_ = z_) (SC : Sta Z Z.heap "java/lang/String" "COMPACT_STRINGS" "Z" (.int cs)) (hcs : ¬ cs = (0 : Int32)) (O0 : Old Z n0 h0) :
    MetFree l (⟨"java/lang/StringBuilder", "toString", "()Ljava/lang/String;"⟩ : MethodName) (head1 (Jvm.Cond.code (⟨"java/lang/StringBuilder", "toString", "()Ljava/lang/String;"⟩ : MethodName) jdk_67_method_42_code 1 (some (.object "java/lang/String")) :: ws) ({ frames := 5, cells := 2, slots := 38, locals := 79 } : Room)) (fun a U => a = #[(.ref a0_)] ∧ Z.Warmed39 U.vm ∧ U.heap = h0) (fun _ _ _ _ _ => True) (fun _ U o U' => ∃ v L, o = .returned v ∧ QT1 Z a0_ b_ ks_ z_ c_ vs_ cs h0 n0 v U'.heap L ∧ FrameEnd U o U' L ({ frames := 5, cells := 2, slots := 38, locals := 79 } : Room).cells ({ frames := 5, cells := 2, slots := 38, locals := 79 } : Room).slots) := by
  refine MetFree.of_bodySF (plainFor_of_name own_pn19) hisR ?_
  intro p e s m args below meth c s₁ Bd hml0 hP hK
  obtain ⟨rfl, hZ, hh⟩ := hP
  have hx := Bd.exec
  have hby := Bd.bytes
  have hml : c.maxLocals = 1 := hml0
  have hown : s.vm.findClass "java/lang/StringBuilder" = some m.cls := findClass_of_methodNamed Bd.named
  have hnm := (name_of_methodNamed Bd.named Bd.method).1
  have X0 : Stand p l e ({ frames := 5, cells := 2, slots := 38, locals := 79 } : Room) s m #[(.ref a0_)] below meth c s₁ [] 0 0 := Stand.of_body Bd
  have e0 : s₁.heap = h0 := by rw [← hh, Bd.state]; rfl
  have N0 := Fr.nil n0
  have k0 : own_To p e below s₁ (mkF m 0 #[.val (.ref a0_)] []) s₁ (entryFrame m #[(.ref a0_)] 1) := fun t k => castTop (own_efT1 m a0_) k
  have ki : own_To p e below s₁ (mkF m 0 #[.val (.ref a0_)] []) s₁ (mkF m 0 #[.val (.ref a0_)] []) := fun t q => q
  have hl_ := (own_sbo P0).2.2.2.2.2.2
  obtain ⟨T1, h1, X1, e1, E1, A1, D1, -, st1⟩ := newO X0 hx hZ hown (hw _ (List.mem_of_getElem? (i := 113) rfl)) (hw _ (List.mem_of_getElem? (i := 5) rfl)) (hw _ (List.mem_of_getElem? (i := 6) rfl)) e0 (g := (mkF m 0 #[.val (.ref a0_)] [])) rfl (hb hby own_d19_0) (by decide) (by decide)
  obtain ⟨b1, g1⟩ : ∃ z, z = h0.size := ⟨_, rfl⟩
  rw [← g1] at A1 D1 st1
  have ge_b1 : n0 ≤ b1 := Nat.le_trans Z0 (Nat.le_of_eq g1.symm)
  have K2 : Keep h0 h0 [] := (Keep.refl h0 [])
  have sz_b1 : h0.size ≤ b1 := Nat.le_trans K2.1 (Nat.le_of_eq g1.symm)
  have ne_a0__b1 : a0_ ≠ b1 := Nat.ne_of_lt (Nat.lt_of_lt_of_le (own_sbo P0).1.lt (Nat.le_of_eq g1.symm))
  have ne_b__b1 : b_ ≠ b1 := Nat.ne_of_lt (Nat.lt_of_lt_of_le (own_sbo P0).2.2.2.2.1.lt (Nat.le_of_eq g1.symm))
  have F1_20 : Fld Z h1 b1 "java/lang/String" "value" "[B" .null := D1 (Or.inr (hw _ (List.mem_of_getElem? (i := 20) rfl))) (ty := (.array .byte)) (by decide)
  have F1_21 : Fld Z h1 b1 "java/lang/String" "coder" "B" (.int (0 : Int32)) := D1 (Or.inr (hw _ (List.mem_of_getElem? (i := 21) rfl))) (ty := .byte) (by decide)
  have F4 := ((own_sbo P0).1.ext E1)
  have F5 := ((own_sbo P0).2.1.ext E1)
  have F6 := ((own_sbo P0).2.2.1.ext E1)
  have F7 := ((own_sbo P0).2.2.2.1.ext E1)
  have F8 := ((own_sbo P0).2.2.2.2.1.ext E1)
  have F9 := ((own_sbo P0).2.2.2.2.2.1.ext E1)
  have P10 : own_sb Z h1 a0_ b_ ks_ z_ c_ vs_ := ⟨F4, F5, F6, F7, F8, F9, (own_sbo P0).2.2.2.2.2.2⟩
  have K11 : Keep h0 h1 [] := (K2.ext E1)
  have O12 : Old Z n0 h1 := (O0.ext E1)
  obtain ⟨_, _, ⟨T3, L3, kk3, n3⟩, -, X3, ⟨Lc3, hQ3, l3, y3, z3⟩, st3⟩ := X1.specialBack hx (y := (⟨"java/lang/String", "<init>", "(Ljava/lang/StringBuilder;)V"⟩ : MethodName)) rfl hown (mvT hZ (hw _ (List.mem_of_getElem? (i := 114) rfl))) (mvT hZ (hw _ (List.mem_of_getElem? (i := 115) rfl))) (mvT hZ (hw _ (List.mem_of_getElem? (i := 116) rfl))) (by decide) (backOf (W := 1) (rmU1 l Z a0 hw [] b1 a0_ b_ ks_ z_ c_ vs_ cs h1 n0 (Nat.le_trans Z0 K11.1) F1_20 F1_21 A1 ge_b1 P10 h0_ hle hcap hmin hne SC hcs O12) hZ (hw _ (List.mem_of_getElem? (i := 116) rfl)) (hw _ (List.mem_of_getElem? (i := 6) rfl)) (by decide) (by decide)) (g := (mkF m 5 #[.val (.ref a0_)] [(.ref a0_), (.ref b1), (.ref b1)])) rfl (by rw [hml]; rfl) (Steps.refl _) (a := b1) (argsL := [(.ref a0_)]) (rest := [(.ref b1)]) (lenOf own_pd27 rfl) rfl (by show 2 * 0 + _ ≤ _; exact Nat.le_of_eq rfl) (hb hby own_d19_5) (fun _ _ => ⟨rfl, e1, (by decide : 1 + 1 ≤ _), (by decide : 4 + 34 ≤ _)⟩)
  dsimp only [Pt.U, Pt.locs, Pt.cells, Pt.slots] at X3 l3 y3 z3 st3 hQ3
  subst l3 y3 z3
  obtain ⟨rb3, kb3, rfl, N3q, K3, E3, Fc3, Fv3, V3⟩ := hQ3
  have N3 := Fr.app N0 N3q
  have K13 : Keep h0 T3.heap [] := (K11.trans K3 (allS (P := fun x => x ∈ ([] : List Addr) ∨ h0.size ≤ x) (Or.inr sz_b1) all0))
  have k14 : own_To p e below T3 (mkF m 8 #[.val (.ref a0_)] [(.ref b1)]) s₁ (mkF m 0 #[.val (.ref a0_)] []) := fun t q => ki t (by
    refine st1 _ ?_
    show Steps p.tables e below (T1.setTop (mkF m 3 #[.val (.ref a0_)] [(.ref b1)])) _
    refine XS.dup X1.here hx rfl (hb hby own_d19_3) rfl rfl ?_
    show Steps p.tables e below (T1.setTop (mkF m 4 #[.val (.ref a0_)] [(.ref b1), (.ref b1)])) _
    refine XS.aloadN X1.here hx rfl (hb hby own_d19_4) rfl rfl ?_
    show Steps p.tables e below (T1.setTop (mkF m 5 #[.val (.ref a0_)] [(.ref a0_), (.ref b1), (.ref b1)])) _
    refine st3.trans ?_
    show Steps p.tables e below (T3.setTop (mkF m 8 #[.val (.ref a0_)] [(.ref b1)])) _
    exact q)
  obtain ⟨fs, hr, hrun, hended, hW, hsame⟩ := X3.leave (v := some (.ref b1)) (fun h => by rw [Bd.returns] at h; cases h)
  refine ⟨_, _, k0 _ (k14 _ ?_), hrun, hended, _, _, rfl, ?_, ⟨_, rfl⟩, hW, hsame.mono (by decide) (by decide)⟩
  · show Steps p.tables e below (T3.setTop (mkF m 8 #[.val (.ref a0_)] [(.ref b1)])) _
    exact retOut X3 hx Bd.returns rfl (Or.inr (Or.inr (Or.inr (Or.inr ⟨rfl, rfl, rfl⟩)))) (hb hby own_d19_8) hr
  · show QT1 Z a0_ b_ ks_ z_ c_ vs_ cs h0 n0 _ T3.heap _
    exact ⟨b1, rb3, kb3, rfl, N3, K13, E3, Fc3, Fv3, V3⟩
theorem own_efV2 (m : MethodId) (x0 : Addr) (x1 : Addr) : entryFrame m #[(.ref x0), (.ref x1), .null] 5 = mkF m 0 #[.val (.ref x0), .val (.ref x1), .val .null, .unset, .unset] [] := by first | (simp [entryFrame, mkF, argsToLocals, Value.category]; done) | rfl
def QV2 (Z : State) (a0_ : Addr) (a1 : Addr) (b_ : Addr) (ks_ : ClassId) (vs_ : List Value) (cs : Int32) (h0 : Heap) (n0 : Nat) (v : Option Value) (h : Heap) (L : List Loc) : Prop := ∃ (b : Addr) (kb : ClassId), v = none ∧ Fr n0 L ∧ Keep h0 h [a0_] ∧ Exa Z h a0_ "java/lang/String" ∧ Fld Z h a0_ "java/lang/String" "coder" "B" (.int (0 : Int32)) ∧ Fld Z h a0_ "java/lang/String" "value" "[B" (.ref b) ∧ Arv Z h b kb .byte (16 : Int32) vs_ (.int (0 : Int32))
set_option maxRecDepth 65536 in
set_option maxHeartbeats 40000000 in
theorem rmV2 (l : Launch) (Z : State) (a0 : Array Value) (hw : ∀ d ∈ tables_1, d.before a0 Z = true) (ws : List Jvm.Cond) (a0_ : Addr) (a1 : Addr) (b_ : Addr) (ks_ : ClassId) (vs_ : List Value) (cs : Int32) (h0 : Heap) (n0 : Nat) (Z0 : n0 ≤ h0.size) (F_value : Fld Z h0 a0_ "java/lang/String" "value" "[B" .null) (F_coder : Fld Z h0 a0_ "java/lang/String" "coder" "B" (.int (0 : Int32))) (E_ : Exa Z h0 a0_ "java/lang/String") (g_ : n0 ≤ a0_) (P0 : own_sb Z h0 a1 b_ ks_ (16 : Int32) (16 : Int32) vs_) (SC : Sta Z Z.heap "java/lang/String" "COMPACT_STRINGS" "Z" (.int cs)) (hcs : ¬ cs = (0 : Int32)) (O0 : Old Z n0 h0) :
    MetFree l (⟨"java/lang/String", "<init>", "(Ljava/lang/AbstractStringBuilder;Ljava/lang/Void;)V"⟩ : MethodName) (head1 (Jvm.Cond.code (⟨"java/lang/String", "<init>", "(Ljava/lang/AbstractStringBuilder;Ljava/lang/Void;)V"⟩ : MethodName) jdk_42_method_150_code 5 none :: ws) ({ frames := 2, cells := 1, slots := 16, locals := 29 } : Room)) (fun a U => a = #[(.ref a0_), (.ref a1), .null] ∧ Z.Warmed39 U.vm ∧ U.heap = h0) (fun _ _ _ _ _ => True) (fun _ U o U' => ∃ v L, o = .returned v ∧ QV2 Z a0_ a1 b_ ks_ vs_ cs h0 n0 v U'.heap L ∧ FrameEnd U o U' L ({ frames := 2, cells := 1, slots := 16, locals := 29 } : Room).cells ({ frames := 2, cells := 1, slots := 16, locals := 29 } : Room).slots) := by
  refine MetFree.of_bodySF (plainFor_of_name own_pn21) hisR ?_
  intro p e s m args below meth c s₁ Bd hml0 hP hK
  obtain ⟨rfl, hZ, hh⟩ := hP
  have hx := Bd.exec
  have hby := Bd.bytes
  have hml : c.maxLocals = 5 := hml0
  have hown : s.vm.findClass "java/lang/String" = some m.cls := findClass_of_methodNamed Bd.named
  have hnm := (name_of_methodNamed Bd.named Bd.method).1
  have X0 : Stand p l e ({ frames := 2, cells := 1, slots := 16, locals := 29 } : Room) s m #[(.ref a0_), (.ref a1), .null] below meth c s₁ [] 0 0 := Stand.of_body Bd
  have e0 : s₁.heap = h0 := by rw [← hh, Bd.state]; rfl
  have N0 := Fr.nil n0
  have k0 : own_To p e below s₁ (mkF m 0 #[.val (.ref a0_), .val (.ref a1), .val .null, .unset, .unset] []) s₁ (entryFrame m #[(.ref a0_), (.ref a1), .null] 5) := fun t k => castTop (own_efV2 m a0_ a1) k
  have ki : own_To p e below s₁ (mkF m 0 #[.val (.ref a0_), .val (.ref a1), .val .null, .unset, .unset] []) s₁ (mkF m 0 #[.val (.ref a0_), .val (.ref a1), .val .null, .unset, .unset] []) := fun t q => q
  have hl_ := (own_sbo P0).2.2.2.2.2.2
  have nsb : a0_ ≠ b_ := Exa.neArv E_ (own_sbo P0).2.2.2.2.1 (hw _ (List.mem_of_getElem? (i := 5) rfl))
  have nsa : a0_ ≠ a1 := Exa.ne E_ (own_sbo P0).1 (by decide)
  obtain ⟨T1, X1, e1, st1⟩ := initO X0 hx hZ hown (hw _ (List.mem_of_getElem? (i := 15) rfl)) (hw _ (List.mem_of_getElem? (i := 16) rfl)) (hw _ (List.mem_of_getElem? (i := 17) rfl)) e0 (g := (mkF m 1 #[.val (.ref a0_), .val (.ref a1), .val .null, .unset, .unset] [(.ref a0_)])) rfl (by rw [hml]; rfl) rfl (hb hby own_d21_1) (by decide) (W := 0) (by show 2 * 0 + _ ≤ _; exact Nat.le_of_eq rfl) (by decide)
  have P3 : own_sb Z h0 a1 b_ ks_ (16 : Int32) (16 : Int32) vs_ := ⟨(own_sbo P0).1, (own_sbo P0).2.1, (own_sbo P0).2.2.1, (own_sbo P0).2.2.2.1, (own_sbo P0).2.2.2.2.1, (own_sbo P0).2.2.2.2.2.1, (own_sbo P0).2.2.2.2.2.2⟩
  obtain ⟨cq2, kq2, q2a, q2b, q2c⟩ := isOf hZ e1 (own_sbo P0).1
  obtain ⟨_, _, ⟨T2, L2, kk2, n2⟩, -, X2, ⟨Lc2, hQ2, l2, y2, z2⟩, st2⟩ := X1.virtualBack hx (y := (⟨"java/lang/AbstractStringBuilder", "getValue", "()[B"⟩ : MethodName)) (z := (⟨"java/lang/AbstractStringBuilder", "getValue", "()[B"⟩ : MethodName)) hown (mvT hZ (hw _ (List.mem_of_getElem? (i := 120) rfl))) (mvT hZ (hw _ (List.mem_of_getElem? (i := 121) rfl))) (notFace_of_selects (args := #[]) (mvT hZ (hw _ (List.mem_of_getElem? (i := 123) rfl)))) (mvT hZ (hw _ (List.mem_of_getElem? (i := 123) rfl))) (mvT hZ (hw _ (List.mem_of_getElem? (i := 122) rfl))) (by decide) (backOf (W := 0) (rm22 l Z a0 hw [] a1 b_ ks_ (16 : Int32) (16 : Int32) vs_ cs h0 n0 Z0 P3 SC hcs O0) hZ (hw _ (List.mem_of_getElem? (i := 124) rfl)) (hw _ (List.mem_of_getElem? (i := 52) rfl)) (by decide) (by decide)) q2a q2c (g := (mkF m 5 #[.val (.ref a0_), .val (.ref a1), .val .null, .unset, .unset] [(.ref a1)])) rfl (by rw [hml]; rfl) (Steps.refl _) (argsL := []) (rest := []) (lenOf own_pd6 rfl) rfl (by show 2 * 0 + _ ≤ _; exact Nat.le_of_eq rfl) (hb hby own_d21_5) (fun _ _ => ⟨rfl, e1, (by decide : 0 + 0 ≤ _), (by decide : 0 + 0 ≤ _)⟩)
  dsimp only [Pt.U, Pt.locs, Pt.cells, Pt.slots] at X2 l2 y2 z2 st2 hQ2
  subst l2 y2 z2
  obtain ⟨rfl, N2q, e2⟩ := hQ2
  have N2 := Fr.app N0 N2q
  have P5 : own_sb Z h0 a1 b_ ks_ (16 : Int32) (16 : Int32) vs_ := ⟨(own_sbo P0).1, (own_sbo P0).2.1, (own_sbo P0).2.2.1, (own_sbo P0).2.2.2.1, (own_sbo P0).2.2.2.2.1, (own_sbo P0).2.2.2.2.2.1, (own_sbo P0).2.2.2.2.2.2⟩
  obtain ⟨cq4, kq4, q4a, q4b, q4c⟩ := isOf hZ e2 (own_sbo P0).1
  obtain ⟨_, _, ⟨T4, L4, kk4, n4⟩, -, X4, ⟨Lc4, hQ4, l4, y4, z4⟩, st4⟩ := X2.virtualBack hx (y := (⟨"java/lang/AbstractStringBuilder", "length", "()I"⟩ : MethodName)) (z := (⟨"java/lang/StringBuilder", "length", "()I"⟩ : MethodName)) hown (mvT hZ (hw _ (List.mem_of_getElem? (i := 125) rfl))) (mvT hZ (hw _ (List.mem_of_getElem? (i := 126) rfl))) (own_nf (args := #[]) (mvT hZ (hw _ (List.mem_of_getElem? (i := 86) rfl))) rfl) (mvT hZ (hw _ (List.mem_of_getElem? (i := 128) rfl))) (mvT hZ (hw _ (List.mem_of_getElem? (i := 129) rfl))) (by decide) (backOf (W := 0) (rm23 l Z a0 hw [] a1 b_ ks_ (16 : Int32) (16 : Int32) vs_ cs h0 n0 Z0 P5 SC hcs O0) hZ (hw _ (List.mem_of_getElem? (i := 130) rfl)) (hw _ (List.mem_of_getElem? (i := 44) rfl)) (by decide) (by decide)) q4a q4c (g := (mkF m 10 #[.val (.ref a0_), .val (.ref a1), .val .null, .val (.ref b_), .unset] [(.ref a1)])) rfl (by rw [hml]; rfl) (Steps.refl _) (argsL := []) (rest := []) (lenOf own_pd1 rfl) rfl (by show 2 * 0 + _ ≤ _; exact Nat.le_of_eq rfl) (hb hby own_d21_10) (fun _ _ => ⟨rfl, e2, (by decide : 0 + 0 ≤ _), (by decide : 0 + 0 ≤ _)⟩)
  dsimp only [Pt.U, Pt.locs, Pt.cells, Pt.slots] at X4 l4 y4 z4 st4 hQ4
  subst l4 y4 z4
  obtain ⟨rfl, N4q, e4⟩ := hQ4
  have N4 := Fr.app N2 N4q
  have P7 : own_sb Z h0 a1 b_ ks_ (16 : Int32) (16 : Int32) vs_ := ⟨(own_sbo P0).1, (own_sbo P0).2.1, (own_sbo P0).2.2.1, (own_sbo P0).2.2.2.1, (own_sbo P0).2.2.2.2.1, (own_sbo P0).2.2.2.2.2.1, (own_sbo P0).2.2.2.2.2.2⟩
  obtain ⟨cq6, kq6, q6a, q6b, q6c⟩ := isOf hZ e4 (own_sbo P0).1
  obtain ⟨_, _, ⟨T6, L6, kk6, n6⟩, -, X6, ⟨Lc6, hQ6, l6, y6, z6⟩, st6⟩ := X4.virtualBack hx (y := (⟨"java/lang/AbstractStringBuilder", "isLatin1", "()Z"⟩ : MethodName)) (z := (⟨"java/lang/AbstractStringBuilder", "isLatin1", "()Z"⟩ : MethodName)) hown (mvT hZ (hw _ (List.mem_of_getElem? (i := 133) rfl))) (mvT hZ (hw _ (List.mem_of_getElem? (i := 134) rfl))) (notFace_of_selects (args := #[]) (mvT hZ (hw _ (List.mem_of_getElem? (i := 136) rfl)))) (mvT hZ (hw _ (List.mem_of_getElem? (i := 136) rfl))) (mvT hZ (hw _ (List.mem_of_getElem? (i := 135) rfl))) (by decide) (backOf (W := 0) (rm25 l Z a0 hw [] a1 b_ ks_ (16 : Int32) (16 : Int32) vs_ cs h0 n0 Z0 P7 SC hcs O0) hZ (hw _ (List.mem_of_getElem? (i := 137) rfl)) (hw _ (List.mem_of_getElem? (i := 52) rfl)) (by decide) (by decide)) q6a q6c (g := (mkF m 16 #[.val (.ref a0_), .val (.ref a1), .val .null, .val (.ref b_), .val (.int (16 : Int32))] [(.ref a1)])) rfl (by rw [hml]; rfl) (Steps.refl _) (argsL := []) (rest := []) (lenOf own_pd5 rfl) rfl (by show 2 * 0 + _ ≤ _; exact Nat.le_of_eq rfl) (hb hby own_d21_16) (fun _ _ => ⟨rfl, e4, (by decide : 0 + 0 ≤ _), (by decide : 0 + 0 ≤ _)⟩)
  dsimp only [Pt.U, Pt.locs, Pt.cells, Pt.slots] at X6 l6 y6 z6 st6 hQ6
  subst l6 y6 z6
  obtain ⟨rfl, N6q, e6⟩ := hQ6
  have N6 := Fr.app N4 N6q
  have k8 : own_To p e below T6 (mkF m 23 #[.val (.ref a0_), .val (.ref a1), .val .null, .val (.ref b_), .val (.int (16 : Int32))] [(.ref a0_)]) s₁ (mkF m 0 #[.val (.ref a0_), .val (.ref a1), .val .null, .unset, .unset] []) := fun t q => ki t (by
    refine XS.aloadN X0.here hx rfl (hb hby own_d21_0) rfl rfl ?_
    show Steps p.tables e below (s₁.setTop (mkF m 1 #[.val (.ref a0_), .val (.ref a1), .val .null, .unset, .unset] [(.ref a0_)])) _
    refine st1 _ ?_
    show Steps p.tables e below (T1.setTop (mkF m 4 #[.val (.ref a0_), .val (.ref a1), .val .null, .unset, .unset] [])) _
    refine XS.aloadN X1.here hx rfl (hb hby own_d21_4) rfl rfl ?_
    show Steps p.tables e below (T1.setTop (mkF m 5 #[.val (.ref a0_), .val (.ref a1), .val .null, .unset, .unset] [(.ref a1)])) _
    refine st2.trans ?_
    show Steps p.tables e below (T2.setTop (mkF m 8 #[.val (.ref a0_), .val (.ref a1), .val .null, .unset, .unset] [(.ref b_)])) _
    refine XS.astoreN X2.here hx rfl (hb hby own_d21_8) rfl rfl (l' := #[.val (.ref a0_), .val (.ref a1), .val .null, .val (.ref b_), .unset]) rfl ?_
    show Steps p.tables e below (T2.setTop (mkF m 9 #[.val (.ref a0_), .val (.ref a1), .val .null, .val (.ref b_), .unset] [])) _
    refine XS.aloadN X2.here hx rfl (hb hby own_d21_9) rfl rfl ?_
    show Steps p.tables e below (T2.setTop (mkF m 10 #[.val (.ref a0_), .val (.ref a1), .val .null, .val (.ref b_), .unset] [(.ref a1)])) _
    refine st4.trans ?_
    show Steps p.tables e below (T4.setTop (mkF m 13 #[.val (.ref a0_), .val (.ref a1), .val .null, .val (.ref b_), .unset] [(.int (16 : Int32))])) _
    refine XS.istore X4.here hx rfl (hb hby own_d21_13) rfl (l' := #[.val (.ref a0_), .val (.ref a1), .val .null, .val (.ref b_), .val (.int (16 : Int32))]) rfl ?_
    show Steps p.tables e below (T4.setTop (mkF m 15 #[.val (.ref a0_), .val (.ref a1), .val .null, .val (.ref b_), .val (.int (16 : Int32))] [])) _
    refine XS.aloadN X4.here hx rfl (hb hby own_d21_15) rfl rfl ?_
    show Steps p.tables e below (T4.setTop (mkF m 16 #[.val (.ref a0_), .val (.ref a1), .val .null, .val (.ref b_), .val (.int (16 : Int32))] [(.ref a1)])) _
    refine st6.trans ?_
    show Steps p.tables e below (T6.setTop (mkF m 19 #[.val (.ref a0_), .val (.ref a1), .val .null, .val (.ref b_), .val (.int (16 : Int32))] [(.int (1 : Int32))])) _
    refine XS.ifNo X6.here hx rfl (hb hby own_d21_19) rfl ((if0 _ _).trans (feq (by decide)).1) ?_
    show Steps p.tables e below (T6.setTop (mkF m 22 #[.val (.ref a0_), .val (.ref a1), .val .null, .val (.ref b_), .val (.int (16 : Int32))] [])) _
    refine XS.aloadN X6.here hx rfl (hb hby own_d21_22) rfl rfl ?_
    show Steps p.tables e below (T6.setTop (mkF m 23 #[.val (.ref a0_), .val (.ref a1), .val .null, .val (.ref b_), .val (.int (16 : Int32))] [(.ref a0_)])) _
    exact q)
  obtain ⟨T9, h9, X9, e9, W9, st9⟩ := putFN X6 hx hZ hown (hw _ (List.mem_of_getElem? (i := 25) rfl)) Via.refl e6 F_coder E_ (Or.inr ⟨(hw _ (List.mem_of_getElem? (i := 21) rfl)), rfl, hnm⟩) (hw _ (List.mem_of_getElem? (i := 5) rfl)) (ty := .byte) (v' := (.int (nar .byte (0 : Int32)))) (by decide) rfl (fits_nar_byte _) (g := (mkF m 24 #[.val (.ref a0_), .val (.ref a1), .val .null, .val (.ref b_), .val (.int (16 : Int32))] [(.int (0 : Int32)), (.ref a0_)])) rfl rfl (hb hby own_d21_24)
  have N9 := Fr.snoc X9 N6 g_
  obtain ⟨Lf9, Nf9, Xf9⟩ := own_fold X9 N9
  have Fw9 := F_coder.same W9
  have K11 : Keep h0 h9 [a0_] := ((Keep.refl h0 [a0_]).wr W9 (Or.inl (List.mem_of_getElem? (i := 0) rfl)))
  have F12 := ((own_sbo P0).2.2.2.2.1.other W9 (Ne.symm nsb))
  have F13 := ((own_sbo P0).2.2.2.2.2.1.wr W9)
  obtain ⟨_, _, ⟨T10, L10, kk10, n10⟩, -, X10, ⟨Lc10, hQ10, l10, y10, z10⟩, st10⟩ := Jvm.LawKit.callS Xf9 hx (y := (⟨"java/util/Arrays", "copyOfRange", "([BII)[B"⟩ : MethodName)) hown (mvT hZ (hw _ (List.mem_of_getElem? (i := 138) rfl))) (mvT hZ (hw _ (List.mem_of_getElem? (i := 139) rfl))) (mvT hZ (hw _ (List.mem_of_getElem? (i := 140) rfl))) (mvT hZ (hw _ (List.mem_of_getElem? (i := 141) rfl))) (by decide) (backOf (W := 1) (rmR2 l Z a0 hw [] b_ ks_ vs_ h9 n0 (Nat.le_trans Z0 K11.1) F12 F13) hZ (hw _ (List.mem_of_getElem? (i := 141) rfl)) (hw _ (List.mem_of_getElem? (i := 140) rfl)) (by decide) (by decide)) (g := (mkF m 32 #[.val (.ref a0_), .val (.ref a1), .val .null, .val (.ref b_), .val (.int (16 : Int32))] [(.int (16 : Int32)), (.int (0 : Int32)), (.ref b_), (.ref a0_)])) rfl (by rw [hml]; rfl) (argsL := [(.ref b_), (.int (0 : Int32)), (.int (16 : Int32))]) (rest := [(.ref a0_)]) (lenOf own_pd33 rfl) rfl (by show 2 * 0 + _ ≤ _; exact Nat.le_of_eq rfl) (hb hby own_d21_32) (fun _ _ => ⟨rfl, e9, (by decide : 0 + 1 ≤ _), (by decide : 0 + 16 ≤ _)⟩)
  dsimp only [Pt.U, Pt.locs, Pt.cells, Pt.slots] at X10 l10 y10 z10 st10 hQ10
  subst l10 y10 z10
  obtain ⟨rb10, kb10, rfl, N10q, K10, z10z, V10, EB10⟩ := hQ10
  have F14 := (E_.wr W9)
  have ne_a0__rb10 : a0_ ≠ rb10 := Nat.ne_of_lt (Nat.lt_of_lt_of_le F14.lt z10z)
  have F15 := ((own_sbo P0).1.wr W9)
  have ne_a1_rb10 : a1 ≠ rb10 := Nat.ne_of_lt (Nat.lt_of_lt_of_le F15.lt z10z)
  have ne_b__rb10 : b_ ≠ rb10 := Nat.ne_of_lt (Nat.lt_of_lt_of_le F12.lt z10z)
  have sz_rb10 : h0.size ≤ rb10 := Nat.le_trans K11.1 z10z
  have ge_rb10 : n0 ≤ rb10 := Nat.le_trans Z0 sz_rb10
  have N10 := Fr.app Nf9 N10q
  have F16 := ((F_value.other W9 (Or.inr (slot_ne (Or.inr (hw _ (List.mem_of_getElem? (i := 20) rfl))) (Or.inr (hw _ (List.mem_of_getElem? (i := 21) rfl))) (by decide) (t := (.array .byte)) (t' := .byte) (by decide) (by decide)))).keep K10 nin0)
  have F17 := (F14.keep K10)
  obtain ⟨T18, h18, X18, e18, W18, st18⟩ := putF X10 hx hZ hown (host := "") (Or.inl (hw _ (List.mem_of_getElem? (i := 24) rfl))) Via.refl rfl F16 F17 (Or.inr ⟨(hw _ (List.mem_of_getElem? (i := 20) rfl)), rfl, hnm⟩) (hw _ (List.mem_of_getElem? (i := 5) rfl)) (ty := (.array .byte)) (by decide) rfl rfl (g := (mkF m 35 #[.val (.ref a0_), .val (.ref a1), .val .null, .val (.ref b_), .val (.int (16 : Int32))] [(.ref rb10), (.ref a0_)])) rfl rfl (hb hby own_d21_35)
  have N18 := Fr.snoc X18 N10 g_
  obtain ⟨Lf18, Nf18, Xf18⟩ := own_fold X18 N18
  have Fw18 := F16.same W18
  have F19 := ((Fw9.keep K10 nin0).other W18 (Or.inr (slot_ne (Or.inr (hw _ (List.mem_of_getElem? (i := 21) rfl))) (Or.inr (hw _ (List.mem_of_getElem? (i := 20) rfl))) (by decide) (t := .byte) (t' := (.array .byte)) (by decide) (by decide))))
  have Fz20 : Fld Z h18 a0_ "java/lang/String" "coder" "B" (.int (0 : Int32)) := by have q := F19; rw [show nar .byte (0 : Int32) = 0 from by decide] at q; exact q
  have F21 := (F17.wr W18)
  have F22 := (V10.other W18 (Ne.symm ne_a0__rb10))
  have K23 : Keep h0 h18 [a0_] := ((K11.trans K10 all0).wr W18 (Or.inl (List.mem_of_getElem? (i := 0) rfl)))
  have k24 : own_To p e below T18 (mkF m 97 #[.val (.ref a0_), .val (.ref a1), .val .null, .val (.ref b_), .val (.int (16 : Int32))] []) s₁ (mkF m 0 #[.val (.ref a0_), .val (.ref a1), .val .null, .unset, .unset] []) := fun t q => k8 t (by
    refine XS.iconst X6.here hx rfl (hb hby own_d21_23) ?_
    show Steps p.tables e below (T6.setTop (mkF m 24 #[.val (.ref a0_), .val (.ref a1), .val .null, .val (.ref b_), .val (.int (16 : Int32))] [(.int (0 : Int32)), (.ref a0_)])) _
    refine st9 _ ?_
    show Steps p.tables e below (T9.setTop (mkF m 27 #[.val (.ref a0_), .val (.ref a1), .val .null, .val (.ref b_), .val (.int (16 : Int32))] [])) _
    refine XS.aloadN Xf9.here hx rfl (hb hby own_d21_27) rfl rfl ?_
    show Steps p.tables e below (T9.setTop (mkF m 28 #[.val (.ref a0_), .val (.ref a1), .val .null, .val (.ref b_), .val (.int (16 : Int32))] [(.ref a0_)])) _
    refine XS.aloadN Xf9.here hx rfl (hb hby own_d21_28) rfl rfl ?_
    show Steps p.tables e below (T9.setTop (mkF m 29 #[.val (.ref a0_), .val (.ref a1), .val .null, .val (.ref b_), .val (.int (16 : Int32))] [(.ref b_), (.ref a0_)])) _
    refine XS.iconst Xf9.here hx rfl (hb hby own_d21_29) ?_
    show Steps p.tables e below (T9.setTop (mkF m 30 #[.val (.ref a0_), .val (.ref a1), .val .null, .val (.ref b_), .val (.int (16 : Int32))] [(.int (0 : Int32)), (.ref b_), (.ref a0_)])) _
    refine XS.iload Xf9.here hx rfl (hb hby own_d21_30) rfl ?_
    show Steps p.tables e below (T9.setTop (mkF m 32 #[.val (.ref a0_), .val (.ref a1), .val .null, .val (.ref b_), .val (.int (16 : Int32))] [(.int (16 : Int32)), (.int (0 : Int32)), (.ref b_), (.ref a0_)])) _
    refine st10 _ ?_
    show Steps p.tables e below (T10.setTop (mkF m 35 #[.val (.ref a0_), .val (.ref a1), .val .null, .val (.ref b_), .val (.int (16 : Int32))] [(.ref rb10), (.ref a0_)])) _
    refine st18 _ ?_
    show Steps p.tables e below (T18.setTop (mkF m 38 #[.val (.ref a0_), .val (.ref a1), .val .null, .val (.ref b_), .val (.int (16 : Int32))] [])) _
    refine XS.goto Xf18.here hx rfl (pc0 := 38) (pc' := 97) rfl (hb hby own_d21_38) (by decide) (by decide) ?_
    show Steps p.tables e below (T18.setTop (mkF m 97 #[.val (.ref a0_), .val (.ref a1), .val .null, .val (.ref b_), .val (.int (16 : Int32))] [])) _
    exact q)
  obtain ⟨fs, hr, hrun, hended, hW, hsame⟩ := Xf18.leave (v := none) (fun _ => rfl)
  refine ⟨_, _, k0 _ (k24 _ ?_), hrun, hended, _, _, rfl, ?_, ⟨_, rfl⟩, hW, hsame.mono (by decide) (by decide)⟩
  · show Steps p.tables e below (T18.setTop (mkF m 97 #[.val (.ref a0_), .val (.ref a1), .val .null, .val (.ref b_), .val (.int (16 : Int32))] [])) _
    exact Xf18.returnOut hx Bd.returns (hb hby own_d21_97) hr
  · show QV2 Z a0_ a1 b_ ks_ vs_ cs h0 n0 _ T18.heap _
    rw [e18]
    exact ⟨rb10, kb10, rfl, Nf18, K23, F21, Fz20, Fw18, F22⟩
theorem own_efU2 (m : MethodId) (x0 : Addr) (x1 : Addr) : entryFrame m #[(.ref x0), (.ref x1)] 2 = mkF m 0 #[.val (.ref x0), .val (.ref x1)] [] := by first | (simp [entryFrame, mkF, argsToLocals, Value.category]; done) | rfl
def QU2 (Z : State) (a0_ : Addr) (a1 : Addr) (b_ : Addr) (ks_ : ClassId) (vs_ : List Value) (cs : Int32) (h0 : Heap) (n0 : Nat) (v : Option Value) (h : Heap) (L : List Loc) : Prop := ∃ (b : Addr) (kb : ClassId), v = none ∧ Fr n0 L ∧ Keep h0 h [a0_] ∧ Exa Z h a0_ "java/lang/String" ∧ Fld Z h a0_ "java/lang/String" "coder" "B" (.int (0 : Int32)) ∧ Fld Z h a0_ "java/lang/String" "value" "[B" (.ref b) ∧ Arv Z h b kb .byte (16 : Int32) vs_ (.int (0 : Int32))
set_option maxRecDepth 65536 in
set_option maxHeartbeats 40000000 in
theorem rmU2 (l : Launch) (Z : State) (a0 : Array Value) (hw : ∀ d ∈ tables_1, d.before a0 Z = true) (ws : List Jvm.Cond) (a0_ : Addr) (a1 : Addr) (b_ : Addr) (ks_ : ClassId) (vs_ : List Value) (cs : Int32) (h0 : Heap) (n0 : Nat) (Z0 : n0 ≤ h0.size) (F_value : Fld Z h0 a0_ "java/lang/String" "value" "[B" .null) (F_coder : Fld Z h0 a0_ "java/lang/String" "coder" "B" (.int (0 : Int32))) (E_ : Exa Z h0 a0_ "java/lang/String") (g_ : n0 ≤ a0_) (P0 : own_sb Z h0 a1 b_ ks_ (16 : Int32) (16 : Int32) vs_) (SC : Sta Z Z.heap "java/lang/String" "COMPACT_STRINGS" "Z" (.int cs)) (hcs : ¬ cs = (0 : Int32)) (O0 : Old Z n0 h0) :
    MetFree l (⟨"java/lang/String", "<init>", "(Ljava/lang/StringBuilder;)V"⟩ : MethodName) (head1 (Jvm.Cond.code (⟨"java/lang/String", "<init>", "(Ljava/lang/StringBuilder;)V"⟩ : MethodName) jdk_42_method_53_code 2 none :: ws) ({ frames := 3, cells := 1, slots := 16, locals := 45 } : Room)) (fun a U => a = #[(.ref a0_), (.ref a1)] ∧ Z.Warmed39 U.vm ∧ U.heap = h0) (fun _ _ _ _ _ => True) (fun _ U o U' => ∃ v L, o = .returned v ∧ QU2 Z a0_ a1 b_ ks_ vs_ cs h0 n0 v U'.heap L ∧ FrameEnd U o U' L ({ frames := 3, cells := 1, slots := 16, locals := 45 } : Room).cells ({ frames := 3, cells := 1, slots := 16, locals := 45 } : Room).slots) := by
  refine MetFree.of_bodySF (plainFor_of_name own_pn20) hisR ?_
  intro p e s m args below meth c s₁ Bd hml0 hP hK
  obtain ⟨rfl, hZ, hh⟩ := hP
  have hx := Bd.exec
  have hby := Bd.bytes
  have hml : c.maxLocals = 2 := hml0
  have hown : s.vm.findClass "java/lang/String" = some m.cls := findClass_of_methodNamed Bd.named
  have hnm := (name_of_methodNamed Bd.named Bd.method).1
  have X0 : Stand p l e ({ frames := 3, cells := 1, slots := 16, locals := 45 } : Room) s m #[(.ref a0_), (.ref a1)] below meth c s₁ [] 0 0 := Stand.of_body Bd
  have e0 : s₁.heap = h0 := by rw [← hh, Bd.state]; rfl
  have N0 := Fr.nil n0
  have k0 : own_To p e below s₁ (mkF m 0 #[.val (.ref a0_), .val (.ref a1)] []) s₁ (entryFrame m #[(.ref a0_), (.ref a1)] 2) := fun t k => castTop (own_efU2 m a0_ a1) k
  have ki : own_To p e below s₁ (mkF m 0 #[.val (.ref a0_), .val (.ref a1)] []) s₁ (mkF m 0 #[.val (.ref a0_), .val (.ref a1)] []) := fun t q => q
  have hl_ := (own_sbo P0).2.2.2.2.2.2
  have P2 : own_sb Z h0 a1 b_ ks_ (16 : Int32) (16 : Int32) vs_ := ⟨(own_sbo P0).1, (own_sbo P0).2.1, (own_sbo P0).2.2.1, (own_sbo P0).2.2.2.1, (own_sbo P0).2.2.2.2.1, (own_sbo P0).2.2.2.2.2.1, (own_sbo P0).2.2.2.2.2.2⟩
  obtain ⟨_, _, ⟨T1, L1, kk1, n1⟩, -, X1, ⟨Lc1, hQ1, l1, y1, z1⟩, st1⟩ := X0.specialBack hx (y := (⟨"java/lang/String", "<init>", "(Ljava/lang/AbstractStringBuilder;Ljava/lang/Void;)V"⟩ : MethodName)) rfl hown (mvT hZ (hw _ (List.mem_of_getElem? (i := 117) rfl))) (mvT hZ (hw _ (List.mem_of_getElem? (i := 118) rfl))) (mvT hZ (hw _ (List.mem_of_getElem? (i := 119) rfl))) (by decide) (backOf (W := 0) (rmV2 l Z a0 hw [] a0_ a1 b_ ks_ vs_ cs h0 n0 Z0 F_value F_coder E_ g_ P2 SC hcs O0) hZ (hw _ (List.mem_of_getElem? (i := 119) rfl)) (hw _ (List.mem_of_getElem? (i := 6) rfl)) (by decide) (by decide)) (g := (mkF m 3 #[.val (.ref a0_), .val (.ref a1)] [.null, (.ref a1), (.ref a0_)])) rfl (by rw [hml]; rfl) (Steps.refl _) (a := a0_) (argsL := [(.ref a1), .null]) (rest := []) (lenOf own_pd19 rfl) rfl (by show 2 * 0 + _ ≤ _; exact Nat.le_of_eq rfl) (hb hby own_d20_3) (fun _ _ => ⟨rfl, e0, (by decide : 0 + 1 ≤ _), (by decide : 0 + 16 ≤ _)⟩)
  dsimp only [Pt.U, Pt.locs, Pt.cells, Pt.slots] at X1 l1 y1 z1 st1 hQ1
  subst l1 y1 z1
  obtain ⟨rb1, kb1, rfl, N1q, K1, E1, Fc1, Fv1, V1⟩ := hQ1
  have N1 := Fr.app N0 N1q
  have K3 : Keep h0 T1.heap [a0_] := ((Keep.refl h0 [a0_]).trans K1 (allS (P := fun x => x ∈ ([a0_] : List Addr) ∨ h0.size ≤ x) (Or.inl (List.mem_of_getElem? (i := 0) rfl)) all0))
  have k4 : own_To p e below T1 (mkF m 6 #[.val (.ref a0_), .val (.ref a1)] []) s₁ (mkF m 0 #[.val (.ref a0_), .val (.ref a1)] []) := fun t q => ki t (by
    refine XS.aloadN X0.here hx rfl (hb hby own_d20_0) rfl rfl ?_
    show Steps p.tables e below (s₁.setTop (mkF m 1 #[.val (.ref a0_), .val (.ref a1)] [(.ref a0_)])) _
    refine XS.aloadN X0.here hx rfl (hb hby own_d20_1) rfl rfl ?_
    show Steps p.tables e below (s₁.setTop (mkF m 2 #[.val (.ref a0_), .val (.ref a1)] [(.ref a1), (.ref a0_)])) _
    refine XS.aconstNull X0.here hx rfl (hb hby own_d20_2) ?_
    show Steps p.tables e below (s₁.setTop (mkF m 3 #[.val (.ref a0_), .val (.ref a1)] [.null, (.ref a1), (.ref a0_)])) _
    refine st1.trans ?_
    show Steps p.tables e below (T1.setTop (mkF m 6 #[.val (.ref a0_), .val (.ref a1)] [])) _
    exact q)
  obtain ⟨fs, hr, hrun, hended, hW, hsame⟩ := X1.leave (v := none) (fun _ => rfl)
  refine ⟨_, _, k0 _ (k4 _ ?_), hrun, hended, _, _, rfl, ?_, ⟨_, rfl⟩, hW, hsame.mono (by decide) (by decide)⟩
  · show Steps p.tables e below (T1.setTop (mkF m 6 #[.val (.ref a0_), .val (.ref a1)] [])) _
    exact X1.returnOut hx Bd.returns (hb hby own_d20_6) hr
  · show QU2 Z a0_ a1 b_ ks_ vs_ cs h0 n0 _ T1.heap _
    exact ⟨rb1, kb1, rfl, N1, K3, E1, Fc1, Fv1, V1⟩
theorem own_efT2 (m : MethodId) (x0 : Addr) : entryFrame m #[(.ref x0)] 1 = mkF m 0 #[.val (.ref x0)] [] := by first | (simp [entryFrame, mkF, argsToLocals, Value.category]; done) | rfl
def QT2 (Z : State) (a0_ : Addr) (b_ : Addr) (ks_ : ClassId) (vs_ : List Value) (cs : Int32) (h0 : Heap) (n0 : Nat) (v : Option Value) (h : Heap) (L : List Loc) : Prop := ∃ (r b : Addr) (kb : ClassId), v = some (.ref r) ∧ Fr n0 L ∧ Keep h0 h [] ∧ Exa Z h r "java/lang/String" ∧ Fld Z h r "java/lang/String" "coder" "B" (.int (0 : Int32)) ∧ Fld Z h r "java/lang/String" "value" "[B" (.ref b) ∧ Arv Z h b kb .byte (16 : Int32) vs_ (.int (0 : Int32))
set_option maxRecDepth 65536 in
set_option maxHeartbeats 40000000 in
theorem rmT2 (l : Launch) (Z : State) (a0 : Array Value) (hw : ∀ d ∈ tables_1, d.before a0 Z = true) (ws : List Jvm.Cond) (a0_ : Addr) (b_ : Addr) (ks_ : ClassId) (vs_ : List Value) (cs : Int32) (h0 : Heap) (n0 : Nat) (Z0 : n0 ≤ h0.size) (P0 : own_sb Z h0 a0_ b_ ks_ (16 : Int32) (16 : Int32) vs_) (SC : Sta Z Z.heap "java/lang/String" "COMPACT_STRINGS" "Z" (.int cs)) (hcs : ¬ cs = (0 : Int32)) (O0 : Old Z n0 h0) :
    MetFree l (⟨"java/lang/StringBuilder", "toString", "()Ljava/lang/String;"⟩ : MethodName) (head1 (Jvm.Cond.code (⟨"java/lang/StringBuilder", "toString", "()Ljava/lang/String;"⟩ : MethodName) jdk_67_method_42_code 1 (some (.object "java/lang/String")) :: ws) ({ frames := 4, cells := 2, slots := 20, locals := 59 } : Room)) (fun a U => a = #[(.ref a0_)] ∧ Z.Warmed39 U.vm ∧ U.heap = h0) (fun _ _ _ _ _ => True) (fun _ U o U' => ∃ v L, o = .returned v ∧ QT2 Z a0_ b_ ks_ vs_ cs h0 n0 v U'.heap L ∧ FrameEnd U o U' L ({ frames := 4, cells := 2, slots := 20, locals := 59 } : Room).cells ({ frames := 4, cells := 2, slots := 20, locals := 59 } : Room).slots) := by
  refine MetFree.of_bodySF (plainFor_of_name own_pn19) hisR ?_
  intro p e s m args below meth c s₁ Bd hml0 hP hK
  obtain ⟨rfl, hZ, hh⟩ := hP
  have hx := Bd.exec
  have hby := Bd.bytes
  have hml : c.maxLocals = 1 := hml0
  have hown : s.vm.findClass "java/lang/StringBuilder" = some m.cls := findClass_of_methodNamed Bd.named
  have hnm := (name_of_methodNamed Bd.named Bd.method).1
  have X0 : Stand p l e ({ frames := 4, cells := 2, slots := 20, locals := 59 } : Room) s m #[(.ref a0_)] below meth c s₁ [] 0 0 := Stand.of_body Bd
  have e0 : s₁.heap = h0 := by rw [← hh, Bd.state]; rfl
  have N0 := Fr.nil n0
  have k0 : own_To p e below s₁ (mkF m 0 #[.val (.ref a0_)] []) s₁ (entryFrame m #[(.ref a0_)] 1) := fun t k => castTop (own_efT2 m a0_) k
  have ki : own_To p e below s₁ (mkF m 0 #[.val (.ref a0_)] []) s₁ (mkF m 0 #[.val (.ref a0_)] []) := fun t q => q
  have hl_ := (own_sbo P0).2.2.2.2.2.2
  obtain ⟨T1, h1, X1, e1, E1, A1, D1, -, st1⟩ := newO X0 hx hZ hown (hw _ (List.mem_of_getElem? (i := 113) rfl)) (hw _ (List.mem_of_getElem? (i := 5) rfl)) (hw _ (List.mem_of_getElem? (i := 6) rfl)) e0 (g := (mkF m 0 #[.val (.ref a0_)] [])) rfl (hb hby own_d19_0) (by decide) (by decide)
  obtain ⟨b1, g1⟩ : ∃ z, z = h0.size := ⟨_, rfl⟩
  rw [← g1] at A1 D1 st1
  have ge_b1 : n0 ≤ b1 := Nat.le_trans Z0 (Nat.le_of_eq g1.symm)
  have K2 : Keep h0 h0 [] := (Keep.refl h0 [])
  have sz_b1 : h0.size ≤ b1 := Nat.le_trans K2.1 (Nat.le_of_eq g1.symm)
  have ne_a0__b1 : a0_ ≠ b1 := Nat.ne_of_lt (Nat.lt_of_lt_of_le (own_sbo P0).1.lt (Nat.le_of_eq g1.symm))
  have ne_b__b1 : b_ ≠ b1 := Nat.ne_of_lt (Nat.lt_of_lt_of_le (own_sbo P0).2.2.2.2.1.lt (Nat.le_of_eq g1.symm))
  have F1_20 : Fld Z h1 b1 "java/lang/String" "value" "[B" .null := D1 (Or.inr (hw _ (List.mem_of_getElem? (i := 20) rfl))) (ty := (.array .byte)) (by decide)
  have F1_21 : Fld Z h1 b1 "java/lang/String" "coder" "B" (.int (0 : Int32)) := D1 (Or.inr (hw _ (List.mem_of_getElem? (i := 21) rfl))) (ty := .byte) (by decide)
  have F4 := ((own_sbo P0).1.ext E1)
  have F5 := ((own_sbo P0).2.1.ext E1)
  have F6 := ((own_sbo P0).2.2.1.ext E1)
  have F7 := ((own_sbo P0).2.2.2.1.ext E1)
  have F8 := ((own_sbo P0).2.2.2.2.1.ext E1)
  have F9 := ((own_sbo P0).2.2.2.2.2.1.ext E1)
  have P10 : own_sb Z h1 a0_ b_ ks_ (16 : Int32) (16 : Int32) vs_ := ⟨F4, F5, F6, F7, F8, F9, (own_sbo P0).2.2.2.2.2.2⟩
  have K11 : Keep h0 h1 [] := (K2.ext E1)
  have O12 : Old Z n0 h1 := (O0.ext E1)
  obtain ⟨_, _, ⟨T3, L3, kk3, n3⟩, -, X3, ⟨Lc3, hQ3, l3, y3, z3⟩, st3⟩ := X1.specialBack hx (y := (⟨"java/lang/String", "<init>", "(Ljava/lang/StringBuilder;)V"⟩ : MethodName)) rfl hown (mvT hZ (hw _ (List.mem_of_getElem? (i := 114) rfl))) (mvT hZ (hw _ (List.mem_of_getElem? (i := 115) rfl))) (mvT hZ (hw _ (List.mem_of_getElem? (i := 116) rfl))) (by decide) (backOf (W := 1) (rmU2 l Z a0 hw [] b1 a0_ b_ ks_ vs_ cs h1 n0 (Nat.le_trans Z0 K11.1) F1_20 F1_21 A1 ge_b1 P10 SC hcs O12) hZ (hw _ (List.mem_of_getElem? (i := 116) rfl)) (hw _ (List.mem_of_getElem? (i := 6) rfl)) (by decide) (by decide)) (g := (mkF m 5 #[.val (.ref a0_)] [(.ref a0_), (.ref b1), (.ref b1)])) rfl (by rw [hml]; rfl) (Steps.refl _) (a := b1) (argsL := [(.ref a0_)]) (rest := [(.ref b1)]) (lenOf own_pd27 rfl) rfl (by show 2 * 0 + _ ≤ _; exact Nat.le_of_eq rfl) (hb hby own_d19_5) (fun _ _ => ⟨rfl, e1, (by decide : 1 + 1 ≤ _), (by decide : 4 + 16 ≤ _)⟩)
  dsimp only [Pt.U, Pt.locs, Pt.cells, Pt.slots] at X3 l3 y3 z3 st3 hQ3
  subst l3 y3 z3
  obtain ⟨rb3, kb3, rfl, N3q, K3, E3, Fc3, Fv3, V3⟩ := hQ3
  have N3 := Fr.app N0 N3q
  have K13 : Keep h0 T3.heap [] := (K11.trans K3 (allS (P := fun x => x ∈ ([] : List Addr) ∨ h0.size ≤ x) (Or.inr sz_b1) all0))
  have k14 : own_To p e below T3 (mkF m 8 #[.val (.ref a0_)] [(.ref b1)]) s₁ (mkF m 0 #[.val (.ref a0_)] []) := fun t q => ki t (by
    refine st1 _ ?_
    show Steps p.tables e below (T1.setTop (mkF m 3 #[.val (.ref a0_)] [(.ref b1)])) _
    refine XS.dup X1.here hx rfl (hb hby own_d19_3) rfl rfl ?_
    show Steps p.tables e below (T1.setTop (mkF m 4 #[.val (.ref a0_)] [(.ref b1), (.ref b1)])) _
    refine XS.aloadN X1.here hx rfl (hb hby own_d19_4) rfl rfl ?_
    show Steps p.tables e below (T1.setTop (mkF m 5 #[.val (.ref a0_)] [(.ref a0_), (.ref b1), (.ref b1)])) _
    refine st3.trans ?_
    show Steps p.tables e below (T3.setTop (mkF m 8 #[.val (.ref a0_)] [(.ref b1)])) _
    exact q)
  obtain ⟨fs, hr, hrun, hended, hW, hsame⟩ := X3.leave (v := some (.ref b1)) (fun h => by rw [Bd.returns] at h; cases h)
  refine ⟨_, _, k0 _ (k14 _ ?_), hrun, hended, _, _, rfl, ?_, ⟨_, rfl⟩, hW, hsame.mono (by decide) (by decide)⟩
  · show Steps p.tables e below (T3.setTop (mkF m 8 #[.val (.ref a0_)] [(.ref b1)])) _
    exact retOut X3 hx Bd.returns rfl (Or.inr (Or.inr (Or.inr (Or.inr ⟨rfl, rfl, rfl⟩)))) (hb hby own_d19_8) hr
  · show QT2 Z a0_ b_ ks_ vs_ cs h0 n0 _ T3.heap _
    exact ⟨b1, rb3, kb3, rfl, N3, K13, E3, Fc3, Fv3, V3⟩
def own_by (x : Int32) : Int32 := nar .byte x.toInt8.toInt32
theorem own_d6_0 : decode jdk_52_method_21_code 0 = .ok (.iconst 0, 1) := by decide +kernel
theorem own_d6_1 : decode jdk_52_method_21_code 1 = .ok (.istore 5, 2) := by decide +kernel
theorem own_d6_3 : decode jdk_52_method_21_code 3 = .ok (.iload 5, 2) := by decide +kernel
theorem own_d6_5 : decode jdk_52_method_21_code 5 = .ok (.iload 4, 2) := by decide +kernel
theorem own_d6_7 : decode jdk_52_method_21_code 7 = .ok (.if_icmp .ge 37, 3) := by decide +kernel
theorem own_d6_10 : decode jdk_52_method_21_code 10 = .ok (.aload_n 0, 1) := by decide +kernel
theorem own_d6_11 : decode jdk_52_method_21_code 11 = .ok (.iload_n 1, 1) := by decide +kernel
theorem own_d6_12 : decode jdk_52_method_21_code 12 = .ok (.caload, 1) := by decide +kernel
theorem own_d6_13 : decode jdk_52_method_21_code 13 = .ok (.istore 6, 2) := by decide +kernel
theorem own_d6_15 : decode jdk_52_method_21_code 15 = .ok (.iload 6, 2) := by decide +kernel
theorem own_d6_17 : decode jdk_52_method_21_code 17 = .ok (.sipush 255, 3) := by decide +kernel
theorem own_d6_20 : decode jdk_52_method_21_code 20 = .ok (.if_icmp .le 6, 3) := by decide +kernel
theorem own_d6_26 : decode jdk_52_method_21_code 26 = .ok (.aload_n 2, 1) := by decide +kernel
theorem own_d6_27 : decode jdk_52_method_21_code 27 = .ok (.iload_n 3, 1) := by decide +kernel
theorem own_d6_28 : decode jdk_52_method_21_code 28 = .ok (.iload 6, 2) := by decide +kernel
theorem own_d6_30 : decode jdk_52_method_21_code 30 = .ok (.i2b, 1) := by decide +kernel
theorem own_d6_31 : decode jdk_52_method_21_code 31 = .ok (.bastore, 1) := by decide +kernel
theorem own_d6_32 : decode jdk_52_method_21_code 32 = .ok (.iinc 1 1, 3) := by decide +kernel
theorem own_d6_35 : decode jdk_52_method_21_code 35 = .ok (.iinc 3 1, 3) := by decide +kernel
theorem own_d6_38 : decode jdk_52_method_21_code 38 = .ok (.iinc 5 1, 3) := by decide +kernel
theorem own_d6_41 : decode jdk_52_method_21_code 41 = .ok (.goto (-38), 3) := by decide +kernel
theorem own_d6_44 : decode jdk_52_method_21_code 44 = .ok (.iload 4, 2) := by decide +kernel
theorem own_d6_46 : decode jdk_52_method_21_code 46 = .ok (.ireturn, 1) := by decide +kernel
theorem own_pn6 : plainName "java/lang/StringUTF16" = true := by first | (simp [plainName, overriddenIn]; done) | decide +kernel
theorem own_ef6 (m : MethodId) (x0 : Addr) (x2 : Addr) : entryFrame m #[(.ref x0), (.int (0 : Int32)), (.ref x2), (.int (0 : Int32)), (.int (2 : Int32))] 7 = mkF m 0 #[.val (.ref x0), .val (.int (0 : Int32)), .val (.ref x2), .val (.int (0 : Int32)), .val (.int (2 : Int32)), .unset, .unset] [] := by first | (simp [entryFrame, mkF, argsToLocals, Value.category]; done) | rfl
def Q6 (Z : State) (a0_ : Addr) (a2 : Addr) (kc_ : ClassId) (kb_ : ClassId) (x0 : Int32) (x1 : Int32) (h0 : Heap) (n0 : Nat) (v : Option Value) (h : Heap) (L : List Loc) : Prop := v = some (.int (2 : Int32)) ∧ Fr n0 L ∧ Keep h0 h [a2] ∧ Arv Z h a2 kb_ .byte (2 : Int32) [(.int (own_by x0)), (.int (own_by x1))] (.int (0 : Int32))
set_option maxRecDepth 65536 in
set_option maxHeartbeats 40000000 in
theorem rm6 (l : Launch) (Z : State) (a0 : Array Value) (hw : ∀ d ∈ tables_1, d.before a0 Z = true) (ws : List Jvm.Cond) (a0_ : Addr) (a2 : Addr) (kc_ : ClassId) (kb_ : ClassId) (x0 : Int32) (x1 : Int32) (h0 : Heap) (n0 : Nat) (Z0 : n0 ≤ h0.size) (V0 : Arv Z h0 a0_ kc_ .char (2 : Int32) [(.int x0), (.int x1)] (.int (0 : Int32))) (V2 : Arv Z h0 a2 kb_ .byte (2 : Int32) [(.int (0 : Int32)), (.int (0 : Int32))] (.int (0 : Int32))) (g_ : n0 ≤ a2) (ne_ : a0_ ≠ a2) (hx0 : ¬ (255 : Int32) < x0) (hx1 : ¬ (255 : Int32) < x1) :
    MetFree l (⟨"java/lang/StringUTF16", "compress", "([CI[BII)I"⟩ : MethodName) (head1 (Jvm.Cond.code (⟨"java/lang/StringUTF16", "compress", "([CI[BII)I"⟩ : MethodName) jdk_52_method_21_code 7 (some .int) :: ws) ({ frames := 0, cells := 0, slots := 0, locals := 0 } : Room)) (fun a U => a = #[(.ref a0_), (.int (0 : Int32)), (.ref a2), (.int (0 : Int32)), (.int (2 : Int32))] ∧ Z.Warmed39 U.vm ∧ U.heap = h0) (fun _ _ _ _ _ => True) (fun _ U o U' => ∃ v L, o = .returned v ∧ Q6 Z a0_ a2 kc_ kb_ x0 x1 h0 n0 v U'.heap L ∧ FrameEnd U o U' L ({ frames := 0, cells := 0, slots := 0, locals := 0 } : Room).cells ({ frames := 0, cells := 0, slots := 0, locals := 0 } : Room).slots) := by
  refine MetFree.of_bodySF (plainFor_of_name own_pn6) hisR ?_
  intro p e s m args below meth c s₁ Bd hml0 hP hK
  obtain ⟨rfl, hZ, hh⟩ := hP
  have hx := Bd.exec
  have hby := Bd.bytes
  have hml : c.maxLocals = 7 := hml0
  have hown : s.vm.findClass "java/lang/StringUTF16" = some m.cls := findClass_of_methodNamed Bd.named
  have hnm := (name_of_methodNamed Bd.named Bd.method).1
  have X0 : Stand p l e ({ frames := 0, cells := 0, slots := 0, locals := 0 } : Room) s m #[(.ref a0_), (.int (0 : Int32)), (.ref a2), (.int (0 : Int32)), (.int (2 : Int32))] below meth c s₁ [] 0 0 := Stand.of_body Bd
  have e0 : s₁.heap = h0 := by rw [← hh, Bd.state]; rfl
  have N0 := Fr.nil n0
  have k0 : own_To p e below s₁ (mkF m 0 #[.val (.ref a0_), .val (.int (0 : Int32)), .val (.ref a2), .val (.int (0 : Int32)), .val (.int (2 : Int32)), .unset, .unset] []) s₁ (entryFrame m #[(.ref a0_), (.int (0 : Int32)), (.ref a2), (.int (0 : Int32)), (.int (2 : Int32))] 7) := fun t k => castTop (own_ef6 m a0_ a2) k
  have ki : own_To p e below s₁ (mkF m 0 #[.val (.ref a0_), .val (.int (0 : Int32)), .val (.ref a2), .val (.int (0 : Int32)), .val (.int (2 : Int32)), .unset, .unset] []) s₁ (mkF m 0 #[.val (.ref a0_), .val (.int (0 : Int32)), .val (.ref a2), .val (.int (0 : Int32)), .val (.int (2 : Int32)), .unset, .unset] []) := fun t q => q
  obtain ⟨clr1, Arr1, qr1, Sr1, Mr1, Hhr1, Gr1⟩ := id V0
  have hinr1 : ¬ ((0 : Int32) < 0 ∨ clr1.slots.size ≤ ((0 : Int32)).toNatClampNeg) := inb_of Sr1 ⟨by decide, by decide⟩
  have hatr1 : clr1.slots[((0 : Int32)).toNatClampNeg]? = some (.int x0) := Has.at Hhr1 hinr1 rfl
  have k2 : own_To p e below s₁ (mkF m 26 #[.val (.ref a0_), .val (.int (0 : Int32)), .val (.ref a2), .val (.int (0 : Int32)), .val (.int (2 : Int32)), .val (.int (0 : Int32)), .val (.int x0)] []) s₁ (mkF m 0 #[.val (.ref a0_), .val (.int (0 : Int32)), .val (.ref a2), .val (.int (0 : Int32)), .val (.int (2 : Int32)), .unset, .unset] []) := fun t q => ki t (by
    refine XS.iconst X0.here hx rfl (hb hby own_d6_0) ?_
    show Steps p.tables e below (s₁.setTop (mkF m 1 #[.val (.ref a0_), .val (.int (0 : Int32)), .val (.ref a2), .val (.int (0 : Int32)), .val (.int (2 : Int32)), .unset, .unset] [(.int (0 : Int32))])) _
    refine XS.istore X0.here hx rfl (hb hby own_d6_1) rfl (l' := #[.val (.ref a0_), .val (.int (0 : Int32)), .val (.ref a2), .val (.int (0 : Int32)), .val (.int (2 : Int32)), .val (.int (0 : Int32)), .unset]) rfl ?_
    show Steps p.tables e below (s₁.setTop (mkF m 3 #[.val (.ref a0_), .val (.int (0 : Int32)), .val (.ref a2), .val (.int (0 : Int32)), .val (.int (2 : Int32)), .val (.int (0 : Int32)), .unset] [])) _
    refine XS.iload X0.here hx rfl (hb hby own_d6_3) rfl ?_
    show Steps p.tables e below (s₁.setTop (mkF m 5 #[.val (.ref a0_), .val (.int (0 : Int32)), .val (.ref a2), .val (.int (0 : Int32)), .val (.int (2 : Int32)), .val (.int (0 : Int32)), .unset] [(.int (0 : Int32))])) _
    refine XS.iload X0.here hx rfl (hb hby own_d6_5) rfl ?_
    show Steps p.tables e below (s₁.setTop (mkF m 7 #[.val (.ref a0_), .val (.int (0 : Int32)), .val (.ref a2), .val (.int (0 : Int32)), .val (.int (2 : Int32)), .val (.int (0 : Int32)), .unset] [(.int (2 : Int32)), (.int (0 : Int32))])) _
    refine XS.icmpNo X0.here hx rfl (hb hby own_d6_7) rfl (tlt (by decide)).2.1 ?_
    show Steps p.tables e below (s₁.setTop (mkF m 10 #[.val (.ref a0_), .val (.int (0 : Int32)), .val (.ref a2), .val (.int (0 : Int32)), .val (.int (2 : Int32)), .val (.int (0 : Int32)), .unset] [])) _
    refine XS.aloadN X0.here hx rfl (hb hby own_d6_10) rfl rfl ?_
    show Steps p.tables e below (s₁.setTop (mkF m 11 #[.val (.ref a0_), .val (.int (0 : Int32)), .val (.ref a2), .val (.int (0 : Int32)), .val (.int (2 : Int32)), .val (.int (0 : Int32)), .unset] [(.ref a0_)])) _
    refine XS.iloadN X0.here hx rfl (hb hby own_d6_11) rfl ?_
    show Steps p.tables e below (s₁.setTop (mkF m 12 #[.val (.ref a0_), .val (.int (0 : Int32)), .val (.ref a2), .val (.int (0 : Int32)), .val (.int (2 : Int32)), .val (.int (0 : Int32)), .unset] [(.int (0 : Int32)), (.ref a0_)])) _
    refine X0.caload hx (j := (0 : Int32)) (v := (.int x0)) (by rw [e0]; exact Arr1.1) (State.isArrayOf_alike hZ.alike Arr1.2.1) Arr1.2.2 hinr1 hatr1 (g := (mkF m 12 #[.val (.ref a0_), .val (.int (0 : Int32)), .val (.ref a2), .val (.int (0 : Int32)), .val (.int (2 : Int32)), .val (.int (0 : Int32)), .unset] [(.int (0 : Int32)), (.ref a0_)])) rfl rfl (hb hby own_d6_12) _ ?_
    show Steps p.tables e below (s₁.setTop (mkF m 13 #[.val (.ref a0_), .val (.int (0 : Int32)), .val (.ref a2), .val (.int (0 : Int32)), .val (.int (2 : Int32)), .val (.int (0 : Int32)), .unset] [(.int x0)])) _
    refine XS.istore X0.here hx rfl (hb hby own_d6_13) rfl (l' := #[.val (.ref a0_), .val (.int (0 : Int32)), .val (.ref a2), .val (.int (0 : Int32)), .val (.int (2 : Int32)), .val (.int (0 : Int32)), .val (.int x0)]) rfl ?_
    show Steps p.tables e below (s₁.setTop (mkF m 15 #[.val (.ref a0_), .val (.int (0 : Int32)), .val (.ref a2), .val (.int (0 : Int32)), .val (.int (2 : Int32)), .val (.int (0 : Int32)), .val (.int x0)] [])) _
    refine XS.iload X0.here hx rfl (hb hby own_d6_15) rfl ?_
    show Steps p.tables e below (s₁.setTop (mkF m 17 #[.val (.ref a0_), .val (.int (0 : Int32)), .val (.ref a2), .val (.int (0 : Int32)), .val (.int (2 : Int32)), .val (.int (0 : Int32)), .val (.int x0)] [(.int x0)])) _
    refine XS.sipush X0.here hx rfl (hb hby own_d6_17) ?_
    show Steps p.tables e below (s₁.setTop (mkF m 20 #[.val (.ref a0_), .val (.int (0 : Int32)), .val (.ref a2), .val (.int (0 : Int32)), .val (.int (2 : Int32)), .val (.int (0 : Int32)), .val (.int x0)] [(.int (255 : Int32)), (.int x0)])) _
    refine XS.icmpYes X0.here hx rfl (pc0 := 20) (pc' := 26) rfl (hb hby own_d6_20) rfl (flt hx0).2.2.2 (by decide) (by decide) ?_
    show Steps p.tables e below (s₁.setTop (mkF m 26 #[.val (.ref a0_), .val (.int (0 : Int32)), .val (.ref a2), .val (.int (0 : Int32)), .val (.int (2 : Int32)), .val (.int (0 : Int32)), .val (.int x0)] [])) _
    exact q)
  obtain ⟨clr3, Arr3, qr3, Sr3, Mr3, Hhr3, Gr3⟩ := id V2
  have hinr3 : ¬ ((0 : Int32) < 0 ∨ clr3.slots.size ≤ ((0 : Int32)).toNatClampNeg) := inb_of Sr3 ⟨by decide, by decide⟩
  obtain ⟨T4, h4, X4, e4, W4, st4⟩ := stB X0 hx hZ e0 Arr3 (j := (0 : Int32)) hinr3 (g := (mkF m 31 #[.val (.ref a0_), .val (.int (0 : Int32)), .val (.ref a2), .val (.int (0 : Int32)), .val (.int (2 : Int32)), .val (.int (0 : Int32)), .val (.int x0)] [(.int (x0.toInt8.toInt32)), (.int (0 : Int32)), (.ref a2)])) rfl rfl (hb hby own_d6_31)
  have N4 := Fr.snoc X4 N0 g_
  obtain ⟨Lf4, Nf4, Xf4⟩ := own_fold X4 N4
  have V4 : Arv Z h4 a2 kb_ .byte (2 : Int32) [(.int (nar .byte (x0.toInt8.toInt32))), (.int (0 : Int32))] (.int (0 : Int32)) := Arv.set Arr3 qr3 Sr3 Mr3 Hhr3 Gr3 (fits_nar_byte _) W4 0 rfl (Nat.le_of_ble_eq_true rfl)
  have k5 : own_To p e below T4 (mkF m 10 #[.val (.ref a0_), .val (.int (1 : Int32)), .val (.ref a2), .val (.int (1 : Int32)), .val (.int (2 : Int32)), .val (.int (1 : Int32)), .val (.int x0)] []) s₁ (mkF m 0 #[.val (.ref a0_), .val (.int (0 : Int32)), .val (.ref a2), .val (.int (0 : Int32)), .val (.int (2 : Int32)), .unset, .unset] []) := fun t q => k2 t (by
    refine XS.aloadN X0.here hx rfl (hb hby own_d6_26) rfl rfl ?_
    show Steps p.tables e below (s₁.setTop (mkF m 27 #[.val (.ref a0_), .val (.int (0 : Int32)), .val (.ref a2), .val (.int (0 : Int32)), .val (.int (2 : Int32)), .val (.int (0 : Int32)), .val (.int x0)] [(.ref a2)])) _
    refine XS.iloadN X0.here hx rfl (hb hby own_d6_27) rfl ?_
    show Steps p.tables e below (s₁.setTop (mkF m 28 #[.val (.ref a0_), .val (.int (0 : Int32)), .val (.ref a2), .val (.int (0 : Int32)), .val (.int (2 : Int32)), .val (.int (0 : Int32)), .val (.int x0)] [(.int (0 : Int32)), (.ref a2)])) _
    refine XS.iload X0.here hx rfl (hb hby own_d6_28) rfl ?_
    show Steps p.tables e below (s₁.setTop (mkF m 30 #[.val (.ref a0_), .val (.int (0 : Int32)), .val (.ref a2), .val (.int (0 : Int32)), .val (.int (2 : Int32)), .val (.int (0 : Int32)), .val (.int x0)] [(.int x0), (.int (0 : Int32)), (.ref a2)])) _
    refine XS.i2b X0.here hx rfl (hb hby own_d6_30) rfl ?_
    show Steps p.tables e below (s₁.setTop (mkF m 31 #[.val (.ref a0_), .val (.int (0 : Int32)), .val (.ref a2), .val (.int (0 : Int32)), .val (.int (2 : Int32)), .val (.int (0 : Int32)), .val (.int x0)] [(.int (x0.toInt8.toInt32)), (.int (0 : Int32)), (.ref a2)])) _
    refine st4 _ ?_
    show Steps p.tables e below (T4.setTop (mkF m 32 #[.val (.ref a0_), .val (.int (0 : Int32)), .val (.ref a2), .val (.int (0 : Int32)), .val (.int (2 : Int32)), .val (.int (0 : Int32)), .val (.int x0)] [])) _
    refine XS.iinc Xf4.here hx rfl (hb hby own_d6_32) rfl (l' := #[.val (.ref a0_), .val (.int (1 : Int32)), .val (.ref a2), .val (.int (0 : Int32)), .val (.int (2 : Int32)), .val (.int (0 : Int32)), .val (.int x0)]) rfl ?_
    show Steps p.tables e below (T4.setTop (mkF m 35 #[.val (.ref a0_), .val (.int (1 : Int32)), .val (.ref a2), .val (.int (0 : Int32)), .val (.int (2 : Int32)), .val (.int (0 : Int32)), .val (.int x0)] [])) _
    refine XS.iinc Xf4.here hx rfl (hb hby own_d6_35) rfl (l' := #[.val (.ref a0_), .val (.int (1 : Int32)), .val (.ref a2), .val (.int (1 : Int32)), .val (.int (2 : Int32)), .val (.int (0 : Int32)), .val (.int x0)]) rfl ?_
    show Steps p.tables e below (T4.setTop (mkF m 38 #[.val (.ref a0_), .val (.int (1 : Int32)), .val (.ref a2), .val (.int (1 : Int32)), .val (.int (2 : Int32)), .val (.int (0 : Int32)), .val (.int x0)] [])) _
    refine XS.iinc Xf4.here hx rfl (hb hby own_d6_38) rfl (l' := #[.val (.ref a0_), .val (.int (1 : Int32)), .val (.ref a2), .val (.int (1 : Int32)), .val (.int (2 : Int32)), .val (.int (1 : Int32)), .val (.int x0)]) rfl ?_
    show Steps p.tables e below (T4.setTop (mkF m 41 #[.val (.ref a0_), .val (.int (1 : Int32)), .val (.ref a2), .val (.int (1 : Int32)), .val (.int (2 : Int32)), .val (.int (1 : Int32)), .val (.int x0)] [])) _
    refine XS.goto Xf4.here hx rfl (pc0 := 41) (pc' := 3) rfl (hb hby own_d6_41) (by decide) (by decide) ?_
    show Steps p.tables e below (T4.setTop (mkF m 3 #[.val (.ref a0_), .val (.int (1 : Int32)), .val (.ref a2), .val (.int (1 : Int32)), .val (.int (2 : Int32)), .val (.int (1 : Int32)), .val (.int x0)] [])) _
    refine XS.iload Xf4.here hx rfl (hb hby own_d6_3) rfl ?_
    show Steps p.tables e below (T4.setTop (mkF m 5 #[.val (.ref a0_), .val (.int (1 : Int32)), .val (.ref a2), .val (.int (1 : Int32)), .val (.int (2 : Int32)), .val (.int (1 : Int32)), .val (.int x0)] [(.int (1 : Int32))])) _
    refine XS.iload Xf4.here hx rfl (hb hby own_d6_5) rfl ?_
    show Steps p.tables e below (T4.setTop (mkF m 7 #[.val (.ref a0_), .val (.int (1 : Int32)), .val (.ref a2), .val (.int (1 : Int32)), .val (.int (2 : Int32)), .val (.int (1 : Int32)), .val (.int x0)] [(.int (2 : Int32)), (.int (1 : Int32))])) _
    refine XS.icmpNo Xf4.here hx rfl (hb hby own_d6_7) rfl (tlt (by decide)).2.1 ?_
    show Steps p.tables e below (T4.setTop (mkF m 10 #[.val (.ref a0_), .val (.int (1 : Int32)), .val (.ref a2), .val (.int (1 : Int32)), .val (.int (2 : Int32)), .val (.int (1 : Int32)), .val (.int x0)] [])) _
    exact q)
  have F6 := (V0.other W4 ne_)
  obtain ⟨clr7, Arr7, qr7, Sr7, Mr7, Hhr7, Gr7⟩ := id F6
  have hinr7 : ¬ ((1 : Int32) < 0 ∨ clr7.slots.size ≤ ((1 : Int32)).toNatClampNeg) := inb_of Sr7 ⟨by decide, by decide⟩
  have hatr7 : clr7.slots[((1 : Int32)).toNatClampNeg]? = some (.int x1) := Has.at Hhr7 hinr7 rfl
  obtain ⟨clr8, Arr8, qr8, Sr8, Mr8, Hhr8, Gr8⟩ := id V4
  have hinr8 : ¬ ((1 : Int32) < 0 ∨ clr8.slots.size ≤ ((1 : Int32)).toNatClampNeg) := inb_of Sr8 ⟨by decide, by decide⟩
  obtain ⟨T9, h9, X9, e9, W9, st9⟩ := stB Xf4 hx hZ e4 Arr8 (j := (1 : Int32)) hinr8 (g := (mkF m 31 #[.val (.ref a0_), .val (.int (1 : Int32)), .val (.ref a2), .val (.int (1 : Int32)), .val (.int (2 : Int32)), .val (.int (1 : Int32)), .val (.int x1)] [(.int (x1.toInt8.toInt32)), (.int (1 : Int32)), (.ref a2)])) rfl rfl (hb hby own_d6_31)
  have N9 := Fr.snoc X9 Nf4 g_
  obtain ⟨Lf9, Nf9, Xf9⟩ := own_fold X9 N9
  have V9 : Arv Z h9 a2 kb_ .byte (2 : Int32) [(.int (nar .byte (x0.toInt8.toInt32))), (.int (nar .byte (x1.toInt8.toInt32)))] (.int (0 : Int32)) := Arv.set Arr8 qr8 Sr8 Mr8 Hhr8 Gr8 (fits_nar_byte _) W9 1 rfl (Nat.le_of_ble_eq_true rfl)
  have k10 : own_To p e below T9 (mkF m 32 #[.val (.ref a0_), .val (.int (1 : Int32)), .val (.ref a2), .val (.int (1 : Int32)), .val (.int (2 : Int32)), .val (.int (1 : Int32)), .val (.int x1)] []) s₁ (mkF m 0 #[.val (.ref a0_), .val (.int (0 : Int32)), .val (.ref a2), .val (.int (0 : Int32)), .val (.int (2 : Int32)), .unset, .unset] []) := fun t q => k5 t (by
    refine XS.aloadN Xf4.here hx rfl (hb hby own_d6_10) rfl rfl ?_
    show Steps p.tables e below (T4.setTop (mkF m 11 #[.val (.ref a0_), .val (.int (1 : Int32)), .val (.ref a2), .val (.int (1 : Int32)), .val (.int (2 : Int32)), .val (.int (1 : Int32)), .val (.int x0)] [(.ref a0_)])) _
    refine XS.iloadN Xf4.here hx rfl (hb hby own_d6_11) rfl ?_
    show Steps p.tables e below (T4.setTop (mkF m 12 #[.val (.ref a0_), .val (.int (1 : Int32)), .val (.ref a2), .val (.int (1 : Int32)), .val (.int (2 : Int32)), .val (.int (1 : Int32)), .val (.int x0)] [(.int (1 : Int32)), (.ref a0_)])) _
    refine Xf4.caload hx (j := (1 : Int32)) (v := (.int x1)) (by rw [e4]; exact Arr7.1) (State.isArrayOf_alike hZ.alike Arr7.2.1) Arr7.2.2 hinr7 hatr7 (g := (mkF m 12 #[.val (.ref a0_), .val (.int (1 : Int32)), .val (.ref a2), .val (.int (1 : Int32)), .val (.int (2 : Int32)), .val (.int (1 : Int32)), .val (.int x0)] [(.int (1 : Int32)), (.ref a0_)])) rfl rfl (hb hby own_d6_12) _ ?_
    show Steps p.tables e below (T4.setTop (mkF m 13 #[.val (.ref a0_), .val (.int (1 : Int32)), .val (.ref a2), .val (.int (1 : Int32)), .val (.int (2 : Int32)), .val (.int (1 : Int32)), .val (.int x0)] [(.int x1)])) _
    refine XS.istore Xf4.here hx rfl (hb hby own_d6_13) rfl (l' := #[.val (.ref a0_), .val (.int (1 : Int32)), .val (.ref a2), .val (.int (1 : Int32)), .val (.int (2 : Int32)), .val (.int (1 : Int32)), .val (.int x1)]) rfl ?_
    show Steps p.tables e below (T4.setTop (mkF m 15 #[.val (.ref a0_), .val (.int (1 : Int32)), .val (.ref a2), .val (.int (1 : Int32)), .val (.int (2 : Int32)), .val (.int (1 : Int32)), .val (.int x1)] [])) _
    refine XS.iload Xf4.here hx rfl (hb hby own_d6_15) rfl ?_
    show Steps p.tables e below (T4.setTop (mkF m 17 #[.val (.ref a0_), .val (.int (1 : Int32)), .val (.ref a2), .val (.int (1 : Int32)), .val (.int (2 : Int32)), .val (.int (1 : Int32)), .val (.int x1)] [(.int x1)])) _
    refine XS.sipush Xf4.here hx rfl (hb hby own_d6_17) ?_
    show Steps p.tables e below (T4.setTop (mkF m 20 #[.val (.ref a0_), .val (.int (1 : Int32)), .val (.ref a2), .val (.int (1 : Int32)), .val (.int (2 : Int32)), .val (.int (1 : Int32)), .val (.int x1)] [(.int (255 : Int32)), (.int x1)])) _
    refine XS.icmpYes Xf4.here hx rfl (pc0 := 20) (pc' := 26) rfl (hb hby own_d6_20) rfl (flt hx1).2.2.2 (by decide) (by decide) ?_
    show Steps p.tables e below (T4.setTop (mkF m 26 #[.val (.ref a0_), .val (.int (1 : Int32)), .val (.ref a2), .val (.int (1 : Int32)), .val (.int (2 : Int32)), .val (.int (1 : Int32)), .val (.int x1)] [])) _
    refine XS.aloadN Xf4.here hx rfl (hb hby own_d6_26) rfl rfl ?_
    show Steps p.tables e below (T4.setTop (mkF m 27 #[.val (.ref a0_), .val (.int (1 : Int32)), .val (.ref a2), .val (.int (1 : Int32)), .val (.int (2 : Int32)), .val (.int (1 : Int32)), .val (.int x1)] [(.ref a2)])) _
    refine XS.iloadN Xf4.here hx rfl (hb hby own_d6_27) rfl ?_
    show Steps p.tables e below (T4.setTop (mkF m 28 #[.val (.ref a0_), .val (.int (1 : Int32)), .val (.ref a2), .val (.int (1 : Int32)), .val (.int (2 : Int32)), .val (.int (1 : Int32)), .val (.int x1)] [(.int (1 : Int32)), (.ref a2)])) _
    refine XS.iload Xf4.here hx rfl (hb hby own_d6_28) rfl ?_
    show Steps p.tables e below (T4.setTop (mkF m 30 #[.val (.ref a0_), .val (.int (1 : Int32)), .val (.ref a2), .val (.int (1 : Int32)), .val (.int (2 : Int32)), .val (.int (1 : Int32)), .val (.int x1)] [(.int x1), (.int (1 : Int32)), (.ref a2)])) _
    refine XS.i2b Xf4.here hx rfl (hb hby own_d6_30) rfl ?_
    show Steps p.tables e below (T4.setTop (mkF m 31 #[.val (.ref a0_), .val (.int (1 : Int32)), .val (.ref a2), .val (.int (1 : Int32)), .val (.int (2 : Int32)), .val (.int (1 : Int32)), .val (.int x1)] [(.int (x1.toInt8.toInt32)), (.int (1 : Int32)), (.ref a2)])) _
    refine st9 _ ?_
    show Steps p.tables e below (T9.setTop (mkF m 32 #[.val (.ref a0_), .val (.int (1 : Int32)), .val (.ref a2), .val (.int (1 : Int32)), .val (.int (2 : Int32)), .val (.int (1 : Int32)), .val (.int x1)] [])) _
    exact q)
  have K11 : Keep h0 h9 [a2] := (((Keep.refl h0 [a2]).wr W4 (Or.inl (List.mem_of_getElem? (i := 0) rfl))).wr W9 (Or.inl (List.mem_of_getElem? (i := 0) rfl)))
  have k12 : own_To p e below T9 (mkF m 46 #[.val (.ref a0_), .val (.int (2 : Int32)), .val (.ref a2), .val (.int (2 : Int32)), .val (.int (2 : Int32)), .val (.int (2 : Int32)), .val (.int x1)] [(.int (2 : Int32))]) s₁ (mkF m 0 #[.val (.ref a0_), .val (.int (0 : Int32)), .val (.ref a2), .val (.int (0 : Int32)), .val (.int (2 : Int32)), .unset, .unset] []) := fun t q => k10 t (by
    refine XS.iinc Xf9.here hx rfl (hb hby own_d6_32) rfl (l' := #[.val (.ref a0_), .val (.int (2 : Int32)), .val (.ref a2), .val (.int (1 : Int32)), .val (.int (2 : Int32)), .val (.int (1 : Int32)), .val (.int x1)]) rfl ?_
    show Steps p.tables e below (T9.setTop (mkF m 35 #[.val (.ref a0_), .val (.int (2 : Int32)), .val (.ref a2), .val (.int (1 : Int32)), .val (.int (2 : Int32)), .val (.int (1 : Int32)), .val (.int x1)] [])) _
    refine XS.iinc Xf9.here hx rfl (hb hby own_d6_35) rfl (l' := #[.val (.ref a0_), .val (.int (2 : Int32)), .val (.ref a2), .val (.int (2 : Int32)), .val (.int (2 : Int32)), .val (.int (1 : Int32)), .val (.int x1)]) rfl ?_
    show Steps p.tables e below (T9.setTop (mkF m 38 #[.val (.ref a0_), .val (.int (2 : Int32)), .val (.ref a2), .val (.int (2 : Int32)), .val (.int (2 : Int32)), .val (.int (1 : Int32)), .val (.int x1)] [])) _
    refine XS.iinc Xf9.here hx rfl (hb hby own_d6_38) rfl (l' := #[.val (.ref a0_), .val (.int (2 : Int32)), .val (.ref a2), .val (.int (2 : Int32)), .val (.int (2 : Int32)), .val (.int (2 : Int32)), .val (.int x1)]) rfl ?_
    show Steps p.tables e below (T9.setTop (mkF m 41 #[.val (.ref a0_), .val (.int (2 : Int32)), .val (.ref a2), .val (.int (2 : Int32)), .val (.int (2 : Int32)), .val (.int (2 : Int32)), .val (.int x1)] [])) _
    refine XS.goto Xf9.here hx rfl (pc0 := 41) (pc' := 3) rfl (hb hby own_d6_41) (by decide) (by decide) ?_
    show Steps p.tables e below (T9.setTop (mkF m 3 #[.val (.ref a0_), .val (.int (2 : Int32)), .val (.ref a2), .val (.int (2 : Int32)), .val (.int (2 : Int32)), .val (.int (2 : Int32)), .val (.int x1)] [])) _
    refine XS.iload Xf9.here hx rfl (hb hby own_d6_3) rfl ?_
    show Steps p.tables e below (T9.setTop (mkF m 5 #[.val (.ref a0_), .val (.int (2 : Int32)), .val (.ref a2), .val (.int (2 : Int32)), .val (.int (2 : Int32)), .val (.int (2 : Int32)), .val (.int x1)] [(.int (2 : Int32))])) _
    refine XS.iload Xf9.here hx rfl (hb hby own_d6_5) rfl ?_
    show Steps p.tables e below (T9.setTop (mkF m 7 #[.val (.ref a0_), .val (.int (2 : Int32)), .val (.ref a2), .val (.int (2 : Int32)), .val (.int (2 : Int32)), .val (.int (2 : Int32)), .val (.int x1)] [(.int (2 : Int32)), (.int (2 : Int32))])) _
    refine XS.icmpYes Xf9.here hx rfl (pc0 := 7) (pc' := 44) rfl (hb hby own_d6_7) rfl (flt (by decide)).2.1 (by decide) (by decide) ?_
    show Steps p.tables e below (T9.setTop (mkF m 44 #[.val (.ref a0_), .val (.int (2 : Int32)), .val (.ref a2), .val (.int (2 : Int32)), .val (.int (2 : Int32)), .val (.int (2 : Int32)), .val (.int x1)] [])) _
    refine XS.iload Xf9.here hx rfl (hb hby own_d6_44) rfl ?_
    show Steps p.tables e below (T9.setTop (mkF m 46 #[.val (.ref a0_), .val (.int (2 : Int32)), .val (.ref a2), .val (.int (2 : Int32)), .val (.int (2 : Int32)), .val (.int (2 : Int32)), .val (.int x1)] [(.int (2 : Int32))])) _
    exact q)
  obtain ⟨fs, hr, hrun, hended, hW, hsame⟩ := Xf9.leave (v := some (.int (2 : Int32))) (fun h => by rw [Bd.returns] at h; cases h)
  refine ⟨_, _, k0 _ (k12 _ ?_), hrun, hended, _, _, rfl, ?_, ⟨_, rfl⟩, hW, hsame.mono (by decide) (by decide)⟩
  · show Steps p.tables e below (T9.setTop (mkF m 46 #[.val (.ref a0_), .val (.int (2 : Int32)), .val (.ref a2), .val (.int (2 : Int32)), .val (.int (2 : Int32)), .val (.int (2 : Int32)), .val (.int x1)] [(.int (2 : Int32))])) _
    exact retOut Xf9 hx Bd.returns rfl (Or.inl ⟨rfl, Or.inl rfl, _, rfl⟩) (hb hby own_d6_46) hr
  · show Q6 Z a0_ a2 kc_ kb_ x0 x1 h0 n0 _ T9.heap _
    rw [e9]
    exact ⟨rfl, Nf9, K11, V9⟩
theorem own_pd37 : parseMethodDescriptor "([CI[BII)I" = some ⟨[(.array .char), .int, (.array .byte), .int, .int], some .int⟩ := by decide +kernel
theorem own_d5_0 : decode jdk_52_method_16_code 0 = .ok (.iload_n 2, 1) := by decide +kernel
theorem own_d5_1 : decode jdk_52_method_16_code 1 = .ok (.newarray .byte, 2) := by decide +kernel
theorem own_d5_3 : decode jdk_52_method_16_code 3 = .ok (.astore_n 3, 1) := by decide +kernel
theorem own_d5_4 : decode jdk_52_method_16_code 4 = .ok (.aload_n 0, 1) := by decide +kernel
theorem own_d5_5 : decode jdk_52_method_16_code 5 = .ok (.iload_n 1, 1) := by decide +kernel
theorem own_d5_6 : decode jdk_52_method_16_code 6 = .ok (.aload_n 3, 1) := by decide +kernel
theorem own_d5_7 : decode jdk_52_method_16_code 7 = .ok (.iconst 0, 1) := by decide +kernel
theorem own_d5_8 : decode jdk_52_method_16_code 8 = .ok (.iload_n 2, 1) := by decide +kernel
theorem own_d5_9 : decode jdk_52_method_16_code 9 = .ok (.invokestatic 115, 3) := by decide +kernel
theorem own_d5_12 : decode jdk_52_method_16_code 12 = .ok (.istore 4, 2) := by decide +kernel
theorem own_d5_14 : decode jdk_52_method_16_code 14 = .ok (.iload 4, 2) := by decide +kernel
theorem own_d5_16 : decode jdk_52_method_16_code 16 = .ok (.iload_n 2, 1) := by decide +kernel
theorem own_d5_17 : decode jdk_52_method_16_code 17 = .ok (.if_icmp .eq 40, 3) := by decide +kernel
theorem own_d5_57 : decode jdk_52_method_16_code 57 = .ok (.aload_n 3, 1) := by decide +kernel
theorem own_d5_58 : decode jdk_52_method_16_code 58 = .ok (.areturn, 1) := by decide +kernel
theorem own_pn5 : plainName "java/lang/StringUTF16" = true := by first | (simp [plainName, overriddenIn]; done) | decide +kernel
theorem own_ef5 (m : MethodId) (x0 : Addr) : entryFrame m #[(.ref x0), (.int (0 : Int32)), (.int (2 : Int32))] 6 = mkF m 0 #[.val (.ref x0), .val (.int (0 : Int32)), .val (.int (2 : Int32)), .unset, .unset, .unset] [] := by first | (simp [entryFrame, mkF, argsToLocals, Value.category]; done) | rfl
def Q5 (Z : State) (a0_ : Addr) (kc_ : ClassId) (x0 : Int32) (x1 : Int32) (h0 : Heap) (n0 : Nat) (v : Option Value) (h : Heap) (L : List Loc) : Prop := ∃ (b : Addr) (kb : ClassId), v = some (.ref b) ∧ Fr n0 L ∧ Keep h0 h [] ∧ h0.size ≤ b ∧ Arv Z h b kb .byte (2 : Int32) [(.int (own_by x0)), (.int (own_by x1))] (.int (0 : Int32))
set_option maxRecDepth 65536 in
set_option maxHeartbeats 40000000 in
theorem rm5 (l : Launch) (Z : State) (a0 : Array Value) (hw : ∀ d ∈ tables_1, d.before a0 Z = true) (ws : List Jvm.Cond) (a0_ : Addr) (kc_ : ClassId) (x0 : Int32) (x1 : Int32) (h0 : Heap) (n0 : Nat) (Z0 : n0 ≤ h0.size) (V0 : Arv Z h0 a0_ kc_ .char (2 : Int32) [(.int x0), (.int x1)] (.int (0 : Int32))) (hx0 : ¬ (255 : Int32) < x0) (hx1 : ¬ (255 : Int32) < x1) :
    MetFree l (⟨"java/lang/StringUTF16", "compress", "([CII)[B"⟩ : MethodName) (head1 (Jvm.Cond.code (⟨"java/lang/StringUTF16", "compress", "([CII)[B"⟩ : MethodName) jdk_52_method_16_code 6 (some (.array .byte)) :: ws) ({ frames := 1, cells := 1, slots := 2, locals := 18 } : Room)) (fun a U => a = #[(.ref a0_), (.int (0 : Int32)), (.int (2 : Int32))] ∧ Z.Warmed39 U.vm ∧ U.heap = h0) (fun _ _ _ _ _ => True) (fun _ U o U' => ∃ v L, o = .returned v ∧ Q5 Z a0_ kc_ x0 x1 h0 n0 v U'.heap L ∧ FrameEnd U o U' L ({ frames := 1, cells := 1, slots := 2, locals := 18 } : Room).cells ({ frames := 1, cells := 1, slots := 2, locals := 18 } : Room).slots) := by
  refine MetFree.of_bodySF (plainFor_of_name own_pn5) hisR ?_
  intro p e s m args below meth c s₁ Bd hml0 hP hK
  obtain ⟨rfl, hZ, hh⟩ := hP
  have hx := Bd.exec
  have hby := Bd.bytes
  have hml : c.maxLocals = 6 := hml0
  have hown : s.vm.findClass "java/lang/StringUTF16" = some m.cls := findClass_of_methodNamed Bd.named
  have hnm := (name_of_methodNamed Bd.named Bd.method).1
  have X0 : Stand p l e ({ frames := 1, cells := 1, slots := 2, locals := 18 } : Room) s m #[(.ref a0_), (.int (0 : Int32)), (.int (2 : Int32))] below meth c s₁ [] 0 0 := Stand.of_body Bd
  have e0 : s₁.heap = h0 := by rw [← hh, Bd.state]; rfl
  have N0 := Fr.nil n0
  have k0 : own_To p e below s₁ (mkF m 0 #[.val (.ref a0_), .val (.int (0 : Int32)), .val (.int (2 : Int32)), .unset, .unset, .unset] []) s₁ (entryFrame m #[(.ref a0_), (.int (0 : Int32)), (.int (2 : Int32))] 6) := fun t k => castTop (own_ef5 m a0_) k
  have ki : own_To p e below s₁ (mkF m 0 #[.val (.ref a0_), .val (.int (0 : Int32)), .val (.int (2 : Int32)), .unset, .unset, .unset] []) s₁ (mkF m 0 #[.val (.ref a0_), .val (.int (0 : Int32)), .val (.int (2 : Int32)), .unset, .unset, .unset] []) := fun t q => q
  obtain ⟨T1, h1, kk1, X1, e1, E1, A1, st1⟩ := newP X0 hx hZ (hw _ (List.mem_of_getElem? (i := 19) rfl)) e0 (g := (mkF m 1 #[.val (.ref a0_), .val (.int (0 : Int32)), .val (.int (2 : Int32)), .unset, .unset, .unset] [(.int (2 : Int32))])) rfl (hb hby own_d5_1) rfl (by decide) (cap := 2) (by decide) (by decide) (by decide) (by decide)
  obtain ⟨b1, g1⟩ : ∃ z, z = h0.size := ⟨_, rfl⟩
  rw [← g1] at A1 st1
  have ge_b1 : n0 ≤ b1 := Nat.le_trans Z0 (Nat.le_of_eq g1.symm)
  have K2 : Keep h0 h0 [] := (Keep.refl h0 [])
  have sz_b1 : h0.size ≤ b1 := Nat.le_trans K2.1 (Nat.le_of_eq g1.symm)
  have ne_a0__b1 : a0_ ≠ b1 := Nat.ne_of_lt (Nat.lt_of_lt_of_le V0.lt (Nat.le_of_eq g1.symm))
  have V1 : Arv Z h1 b1 kk1 .byte (2 : Int32) [(.int (0 : Int32)), (.int (0 : Int32))] (.int (0 : Int32)) := (Arv.new A1 (by decide)).pad (pad_rep [] (.int (0 : Int32)) 2)
  have K4 : Keep h0 h1 [] := (K2.ext E1)
  have F5 := (V0.ext E1)
  obtain ⟨_, _, ⟨T3, L3, kk3, n3⟩, -, X3, ⟨Lc3, hQ3, l3, y3, z3⟩, st3⟩ := Jvm.LawKit.callS X1 hx (y := (⟨"java/lang/StringUTF16", "compress", "([CI[BII)I"⟩ : MethodName)) hown (mvT hZ (hw _ (List.mem_of_getElem? (i := 31) rfl))) (mvT hZ (hw _ (List.mem_of_getElem? (i := 32) rfl))) (mvT hZ (hw _ (List.mem_of_getElem? (i := 29) rfl))) (mvT hZ (hw _ (List.mem_of_getElem? (i := 33) rfl))) (by decide) (backOf (W := 0) (rm6 l Z a0 hw [] a0_ b1 kc_ kk1 x0 x1 h1 n0 (Nat.le_trans Z0 K4.1) F5 V1 ge_b1 ne_a0__b1 hx0 hx1) hZ (hw _ (List.mem_of_getElem? (i := 33) rfl)) (hw _ (List.mem_of_getElem? (i := 29) rfl)) (by decide) (by decide)) (g := (mkF m 9 #[.val (.ref a0_), .val (.int (0 : Int32)), .val (.int (2 : Int32)), .val (.ref b1), .unset, .unset] [(.int (2 : Int32)), (.int (0 : Int32)), (.ref b1), (.int (0 : Int32)), (.ref a0_)])) rfl (by rw [hml]; rfl) (argsL := [(.ref a0_), (.int (0 : Int32)), (.ref b1), (.int (0 : Int32)), (.int (2 : Int32))]) (rest := []) (lenOf own_pd37 rfl) rfl (by show 2 * 0 + _ ≤ _; exact Nat.le_of_eq rfl) (hb hby own_d5_9) (fun _ _ => ⟨rfl, e1, (by decide : 1 + 0 ≤ _), (by decide : 2 + 0 ≤ _)⟩)
  dsimp only [Pt.U, Pt.locs, Pt.cells, Pt.slots] at X3 l3 y3 z3 st3 hQ3
  subst l3 y3 z3
  obtain ⟨rfl, N3q, K3, V3⟩ := hQ3
  have N3 := Fr.app N0 N3q
  have k6 : own_To p e below T3 (mkF m 17 #[.val (.ref a0_), .val (.int (0 : Int32)), .val (.int (2 : Int32)), .val (.ref b1), .val (.int (2 : Int32)), .unset] [(.int (2 : Int32)), (.int (2 : Int32))]) s₁ (mkF m 0 #[.val (.ref a0_), .val (.int (0 : Int32)), .val (.int (2 : Int32)), .unset, .unset, .unset] []) := fun t q => ki t (by
    refine XS.iloadN X0.here hx rfl (hb hby own_d5_0) rfl ?_
    show Steps p.tables e below (s₁.setTop (mkF m 1 #[.val (.ref a0_), .val (.int (0 : Int32)), .val (.int (2 : Int32)), .unset, .unset, .unset] [(.int (2 : Int32))])) _
    refine st1 _ ?_
    show Steps p.tables e below (T1.setTop (mkF m 3 #[.val (.ref a0_), .val (.int (0 : Int32)), .val (.int (2 : Int32)), .unset, .unset, .unset] [(.ref b1)])) _
    refine XS.astoreN X1.here hx rfl (hb hby own_d5_3) rfl rfl (l' := #[.val (.ref a0_), .val (.int (0 : Int32)), .val (.int (2 : Int32)), .val (.ref b1), .unset, .unset]) rfl ?_
    show Steps p.tables e below (T1.setTop (mkF m 4 #[.val (.ref a0_), .val (.int (0 : Int32)), .val (.int (2 : Int32)), .val (.ref b1), .unset, .unset] [])) _
    refine XS.aloadN X1.here hx rfl (hb hby own_d5_4) rfl rfl ?_
    show Steps p.tables e below (T1.setTop (mkF m 5 #[.val (.ref a0_), .val (.int (0 : Int32)), .val (.int (2 : Int32)), .val (.ref b1), .unset, .unset] [(.ref a0_)])) _
    refine XS.iloadN X1.here hx rfl (hb hby own_d5_5) rfl ?_
    show Steps p.tables e below (T1.setTop (mkF m 6 #[.val (.ref a0_), .val (.int (0 : Int32)), .val (.int (2 : Int32)), .val (.ref b1), .unset, .unset] [(.int (0 : Int32)), (.ref a0_)])) _
    refine XS.aloadN X1.here hx rfl (hb hby own_d5_6) rfl rfl ?_
    show Steps p.tables e below (T1.setTop (mkF m 7 #[.val (.ref a0_), .val (.int (0 : Int32)), .val (.int (2 : Int32)), .val (.ref b1), .unset, .unset] [(.ref b1), (.int (0 : Int32)), (.ref a0_)])) _
    refine XS.iconst X1.here hx rfl (hb hby own_d5_7) ?_
    show Steps p.tables e below (T1.setTop (mkF m 8 #[.val (.ref a0_), .val (.int (0 : Int32)), .val (.int (2 : Int32)), .val (.ref b1), .unset, .unset] [(.int (0 : Int32)), (.ref b1), (.int (0 : Int32)), (.ref a0_)])) _
    refine XS.iloadN X1.here hx rfl (hb hby own_d5_8) rfl ?_
    show Steps p.tables e below (T1.setTop (mkF m 9 #[.val (.ref a0_), .val (.int (0 : Int32)), .val (.int (2 : Int32)), .val (.ref b1), .unset, .unset] [(.int (2 : Int32)), (.int (0 : Int32)), (.ref b1), (.int (0 : Int32)), (.ref a0_)])) _
    refine st3 _ ?_
    show Steps p.tables e below (T3.setTop (mkF m 12 #[.val (.ref a0_), .val (.int (0 : Int32)), .val (.int (2 : Int32)), .val (.ref b1), .unset, .unset] [(.int (2 : Int32))])) _
    refine XS.istore X3.here hx rfl (hb hby own_d5_12) rfl (l' := #[.val (.ref a0_), .val (.int (0 : Int32)), .val (.int (2 : Int32)), .val (.ref b1), .val (.int (2 : Int32)), .unset]) rfl ?_
    show Steps p.tables e below (T3.setTop (mkF m 14 #[.val (.ref a0_), .val (.int (0 : Int32)), .val (.int (2 : Int32)), .val (.ref b1), .val (.int (2 : Int32)), .unset] [])) _
    refine XS.iload X3.here hx rfl (hb hby own_d5_14) rfl ?_
    show Steps p.tables e below (T3.setTop (mkF m 16 #[.val (.ref a0_), .val (.int (0 : Int32)), .val (.int (2 : Int32)), .val (.ref b1), .val (.int (2 : Int32)), .unset] [(.int (2 : Int32))])) _
    refine XS.iloadN X3.here hx rfl (hb hby own_d5_16) rfl ?_
    show Steps p.tables e below (T3.setTop (mkF m 17 #[.val (.ref a0_), .val (.int (0 : Int32)), .val (.int (2 : Int32)), .val (.ref b1), .val (.int (2 : Int32)), .unset] [(.int (2 : Int32)), (.int (2 : Int32))])) _
    exact q)
  have K7 : Keep h0 T3.heap [] := (K4.trans K3 (allS (P := fun x => x ∈ ([] : List Addr) ∨ h0.size ≤ x) (Or.inr sz_b1) all0))
  have k8 : own_To p e below T3 (mkF m 58 #[.val (.ref a0_), .val (.int (0 : Int32)), .val (.int (2 : Int32)), .val (.ref b1), .val (.int (2 : Int32)), .unset] [(.ref b1)]) s₁ (mkF m 0 #[.val (.ref a0_), .val (.int (0 : Int32)), .val (.int (2 : Int32)), .unset, .unset, .unset] []) := fun t q => k6 t (by
    refine XS.icmpYes X3.here hx rfl (pc0 := 17) (pc' := 57) rfl (hb hby own_d5_17) rfl (teq rfl).1 (by decide) (by decide) ?_
    show Steps p.tables e below (T3.setTop (mkF m 57 #[.val (.ref a0_), .val (.int (0 : Int32)), .val (.int (2 : Int32)), .val (.ref b1), .val (.int (2 : Int32)), .unset] [])) _
    refine XS.aloadN X3.here hx rfl (hb hby own_d5_57) rfl rfl ?_
    show Steps p.tables e below (T3.setTop (mkF m 58 #[.val (.ref a0_), .val (.int (0 : Int32)), .val (.int (2 : Int32)), .val (.ref b1), .val (.int (2 : Int32)), .unset] [(.ref b1)])) _
    exact q)
  obtain ⟨fs, hr, hrun, hended, hW, hsame⟩ := X3.leave (v := some (.ref b1)) (fun h => by rw [Bd.returns] at h; cases h)
  refine ⟨_, _, k0 _ (k8 _ ?_), hrun, hended, _, _, rfl, ?_, ⟨_, rfl⟩, hW, hsame.mono (by decide) (by decide)⟩
  · show Steps p.tables e below (T3.setTop (mkF m 58 #[.val (.ref a0_), .val (.int (0 : Int32)), .val (.int (2 : Int32)), .val (.ref b1), .val (.int (2 : Int32)), .unset] [(.ref b1)])) _
    exact retOut X3 hx Bd.returns rfl (Or.inr (Or.inr (Or.inr (Or.inr ⟨rfl, rfl, rfl⟩)))) (hb hby own_d5_58) hr
  · show Q5 Z a0_ kc_ x0 x1 h0 n0 _ T3.heap _
    exact ⟨b1, kk1, rfl, N3, K7, sz_b1, V3⟩
theorem own_d7_0 : decode jdk_52_method_15_code 0 = .ok (.iload_n 1, 1) := by decide +kernel
theorem own_d7_1 : decode jdk_52_method_15_code 1 = .ok (.aload_n 0, 1) := by decide +kernel
theorem own_d7_2 : decode jdk_52_method_15_code 2 = .ok (.arraylength, 1) := by decide +kernel
theorem own_d7_3 : decode jdk_52_method_15_code 3 = .ok (.isub, 1) := by decide +kernel
theorem own_d7_4 : decode jdk_52_method_15_code 4 = .ok (.bipush 31, 2) := by decide +kernel
theorem own_d7_6 : decode jdk_52_method_15_code 6 = .ok (.iushr, 1) := by decide +kernel
theorem own_d7_7 : decode jdk_52_method_15_code 7 = .ok (.i2b, 1) := by decide +kernel
theorem own_d7_8 : decode jdk_52_method_15_code 8 = .ok (.ireturn, 1) := by decide +kernel
theorem own_pn7 : plainName "java/lang/StringUTF16" = true := by first | (simp [plainName, overriddenIn]; done) | decide +kernel
theorem own_ef7 (m : MethodId) (x0 : Addr) : entryFrame m #[(.ref x0), (.int (2 : Int32))] 2 = mkF m 0 #[.val (.ref x0), .val (.int (2 : Int32))] [] := by first | (simp [entryFrame, mkF, argsToLocals, Value.category]; done) | rfl
def Q7 (Z : State) (a0_ : Addr) (kb_ : ClassId) (vs : List Value) (h0 : Heap) (n0 : Nat) (v : Option Value) (h : Heap) (L : List Loc) : Prop := v = some (.int (0 : Int32)) ∧ Fr n0 L ∧ h = h0
set_option maxRecDepth 65536 in
set_option maxHeartbeats 40000000 in
theorem rm7 (l : Launch) (Z : State) (a0 : Array Value) (hw : ∀ d ∈ tables_1, d.before a0 Z = true) (ws : List Jvm.Cond) (a0_ : Addr) (kb_ : ClassId) (vs : List Value) (h0 : Heap) (n0 : Nat) (Z0 : n0 ≤ h0.size) (V0 : Arv Z h0 a0_ kb_ .byte (2 : Int32) vs (.int (0 : Int32))) :
    MetFree l (⟨"java/lang/StringUTF16", "coderFromArrayLen", "([BI)B"⟩ : MethodName) (head1 (Jvm.Cond.code (⟨"java/lang/StringUTF16", "coderFromArrayLen", "([BI)B"⟩ : MethodName) jdk_52_method_15_code 2 (some .byte) :: ws) ({ frames := 0, cells := 0, slots := 0, locals := 0 } : Room)) (fun a U => a = #[(.ref a0_), (.int (2 : Int32))] ∧ Z.Warmed39 U.vm ∧ U.heap = h0) (fun _ _ _ _ _ => True) (fun _ U o U' => ∃ v L, o = .returned v ∧ Q7 Z a0_ kb_ vs h0 n0 v U'.heap L ∧ FrameEnd U o U' L ({ frames := 0, cells := 0, slots := 0, locals := 0 } : Room).cells ({ frames := 0, cells := 0, slots := 0, locals := 0 } : Room).slots) := by
  refine MetFree.of_bodySF (plainFor_of_name own_pn7) hisR ?_
  intro p e s m args below meth c s₁ Bd hml0 hP hK
  obtain ⟨rfl, hZ, hh⟩ := hP
  have hx := Bd.exec
  have hby := Bd.bytes
  have hml : c.maxLocals = 2 := hml0
  have hown : s.vm.findClass "java/lang/StringUTF16" = some m.cls := findClass_of_methodNamed Bd.named
  have hnm := (name_of_methodNamed Bd.named Bd.method).1
  have X0 : Stand p l e ({ frames := 0, cells := 0, slots := 0, locals := 0 } : Room) s m #[(.ref a0_), (.int (2 : Int32))] below meth c s₁ [] 0 0 := Stand.of_body Bd
  have e0 : s₁.heap = h0 := by rw [← hh, Bd.state]; rfl
  have N0 := Fr.nil n0
  have k0 : own_To p e below s₁ (mkF m 0 #[.val (.ref a0_), .val (.int (2 : Int32))] []) s₁ (entryFrame m #[(.ref a0_), (.int (2 : Int32))] 2) := fun t k => castTop (own_ef7 m a0_) k
  have ki : own_To p e below s₁ (mkF m 0 #[.val (.ref a0_), .val (.int (2 : Int32))] []) s₁ (mkF m 0 #[.val (.ref a0_), .val (.int (2 : Int32))] []) := fun t q => q
  obtain ⟨clr1, Arr1, qr1, Sr1, Mr1, Hhr1, Gr1⟩ := id V0
  have k2 : own_To p e below s₁ (mkF m 8 #[.val (.ref a0_), .val (.int (2 : Int32))] [(.int (((((2 : Int32) - (2 : Int32)).toUInt32 >>> ((31 : Int32) &&& 31).toUInt32).toInt32).toInt8.toInt32))]) s₁ (mkF m 0 #[.val (.ref a0_), .val (.int (2 : Int32))] []) := fun t q => ki t (by
    refine XS.iloadN X0.here hx rfl (hb hby own_d7_0) rfl ?_
    show Steps p.tables e below (s₁.setTop (mkF m 1 #[.val (.ref a0_), .val (.int (2 : Int32))] [(.int (2 : Int32))])) _
    refine XS.aloadN X0.here hx rfl (hb hby own_d7_1) rfl rfl ?_
    show Steps p.tables e below (s₁.setTop (mkF m 2 #[.val (.ref a0_), .val (.int (2 : Int32))] [(.ref a0_), (.int (2 : Int32))])) _
    refine X0.arraylength hx (by rw [e0]; exact Arr1.1) (State.isArrayOf_alike hZ.alike Arr1.2.1) (g := (mkF m 2 #[.val (.ref a0_), .val (.int (2 : Int32))] [(.ref a0_), (.int (2 : Int32))])) rfl rfl (hb hby own_d7_2) _ ?_
    rw [len_of Sr1 Mr1]
    show Steps p.tables e below (s₁.setTop (mkF m 3 #[.val (.ref a0_), .val (.int (2 : Int32))] [(.int (2 : Int32)), (.int (2 : Int32))])) _
    refine XS.isub X0.here hx rfl (hb hby own_d7_3) rfl ?_
    show Steps p.tables e below (s₁.setTop (mkF m 4 #[.val (.ref a0_), .val (.int (2 : Int32))] [(.int ((2 : Int32) - (2 : Int32)))])) _
    refine XS.bipush X0.here hx rfl (hb hby own_d7_4) ?_
    show Steps p.tables e below (s₁.setTop (mkF m 6 #[.val (.ref a0_), .val (.int (2 : Int32))] [(.int (31 : Int32)), (.int ((2 : Int32) - (2 : Int32)))])) _
    refine XS.iushr X0.here hx rfl (hb hby own_d7_6) rfl ?_
    show Steps p.tables e below (s₁.setTop (mkF m 7 #[.val (.ref a0_), .val (.int (2 : Int32))] [(.int ((((2 : Int32) - (2 : Int32)).toUInt32 >>> ((31 : Int32) &&& 31).toUInt32).toInt32))])) _
    refine XS.i2b X0.here hx rfl (hb hby own_d7_7) rfl ?_
    show Steps p.tables e below (s₁.setTop (mkF m 8 #[.val (.ref a0_), .val (.int (2 : Int32))] [(.int (((((2 : Int32) - (2 : Int32)).toUInt32 >>> ((31 : Int32) &&& 31).toUInt32).toInt32).toInt8.toInt32))])) _
    exact q)
  obtain ⟨fs, hr, hrun, hended, hW, hsame⟩ := X0.leave (v := some (.int (nar .byte (((((2 : Int32) - (2 : Int32)).toUInt32 >>> ((31 : Int32) &&& 31).toUInt32).toInt32).toInt8.toInt32)))) (fun h => by rw [Bd.returns] at h; cases h)
  refine ⟨_, _, k0 _ (k2 _ ?_), hrun, hended, _, _, rfl, ?_, ⟨_, rfl⟩, hW, hsame.mono (by decide) (by decide)⟩
  · show Steps p.tables e below (s₁.setTop (mkF m 8 #[.val (.ref a0_), .val (.int (2 : Int32))] [(.int (((((2 : Int32) - (2 : Int32)).toUInt32 >>> ((31 : Int32) &&& 31).toUInt32).toInt32).toInt8.toInt32))])) _
    exact retN X0 hx (t := .byte) Bd.returns (by simp) (hb hby own_d7_8) hr
  · show Q7 Z a0_ kb_ vs h0 n0 _ s₁.heap _
    rw [e0]
    exact ⟨congrArg (fun z => some (Value.int z)) (by decide), N0, rfl⟩
theorem own_d3_0 : decode jdk_42_method_149_code 0 = .ok (.aload_n 0, 1) := by decide +kernel
theorem own_d3_1 : decode jdk_42_method_149_code 1 = .ok (.invokespecial 1, 3) := by decide +kernel
theorem own_d3_4 : decode jdk_42_method_149_code 4 = .ok (.iload_n 3, 1) := by decide +kernel
theorem own_d3_5 : decode jdk_42_method_149_code 5 = .ok (.ifCond .ne 22, 3) := by decide +kernel
theorem own_d3_8 : decode jdk_42_method_149_code 8 = .ok (.aload_n 0, 1) := by decide +kernel
theorem own_d3_9 : decode jdk_42_method_149_code 9 = .ok (.ldc 7, 2) := by decide +kernel
theorem own_d3_11 : decode jdk_42_method_149_code 11 = .ok (.getfield 9, 3) := by decide +kernel
theorem own_d3_14 : decode jdk_42_method_149_code 14 = .ok (.putfield 9, 3) := by decide +kernel
theorem own_d3_17 : decode jdk_42_method_149_code 17 = .ok (.aload_n 0, 1) := by decide +kernel
theorem own_d3_18 : decode jdk_42_method_149_code 18 = .ok (.ldc 7, 2) := by decide +kernel
theorem own_d3_20 : decode jdk_42_method_149_code 20 = .ok (.getfield 15, 3) := by decide +kernel
theorem own_d3_23 : decode jdk_42_method_149_code 23 = .ok (.putfield 15, 3) := by decide +kernel
theorem own_d3_26 : decode jdk_42_method_149_code 26 = .ok (.return_, 1) := by decide +kernel
theorem own_pn3 : plainName "java/lang/String" = true := by first | (simp [plainName, overriddenIn]; done) | decide +kernel
theorem own_efI0 (m : MethodId) (x0 : Addr) (x1 : Addr) : entryFrame m #[(.ref x0), (.ref x1), (.int (0 : Int32)), (.int (0 : Int32)), .null] 6 = mkF m 0 #[.val (.ref x0), .val (.ref x1), .val (.int (0 : Int32)), .val (.int (0 : Int32)), .val .null, .unset] [] := by first | (simp [entryFrame, mkF, argsToLocals, Value.category]; done) | rfl
def QI0 (Z : State) (a0_ : Addr) (a1 : Addr) (h0 : Heap) (n0 : Nat) (v : Option Value) (h : Heap) (L : List Loc) : Prop := ∃ (b : Addr) (kb : ClassId), v = none ∧ Fr n0 L ∧ Keep h0 h [a0_] ∧ Exa Z h a0_ "java/lang/String" ∧ Fld Z h a0_ "java/lang/String" "coder" "B" (.int (0 : Int32)) ∧ Fld Z h a0_ "java/lang/String" "value" "[B" (.ref b) ∧ Arv Z h b kb .byte (0 : Int32) [] (.int (0 : Int32))
set_option maxRecDepth 65536 in
set_option maxHeartbeats 40000000 in
theorem rmI0 (l : Launch) (Z : State) (a0 : Array Value) (hw : ∀ d ∈ tables_1, d.before a0 Z = true) (ws : List Jvm.Cond) (a0_ : Addr) (a1 : Addr) (h0 : Heap) (n0 : Nat) (Z0 : n0 ≤ h0.size) (F_value : Fld Z h0 a0_ "java/lang/String" "value" "[B" .null) (F_coder : Fld Z h0 a0_ "java/lang/String" "coder" "B" (.int (0 : Int32))) (E_ : Exa Z h0 a0_ "java/lang/String") (g_ : n0 ≤ a0_) (hEL : EW Z a0 own_EL) :
    MetFree l (⟨"java/lang/String", "<init>", "([CIILjava/lang/Void;)V"⟩ : MethodName) (head1 (Jvm.Cond.code (⟨"java/lang/String", "<init>", "([CIILjava/lang/Void;)V"⟩ : MethodName) jdk_42_method_149_code 6 none :: ws) ({ frames := 1, cells := 4, slots := 8, locals := 12 } : Room)) (fun a U => a = #[(.ref a0_), (.ref a1), (.int (0 : Int32)), (.int (0 : Int32)), .null] ∧ Z.Warmed39 U.vm ∧ U.heap = h0 ∧ CHv Z own_EL U.vm h0) (fun _ _ _ _ _ => True) (fun _ U o U' => ∃ v L, o = .returned v ∧ QI0 Z a0_ a1 h0 n0 v U'.heap L ∧ CHr Z own_EL U.vm U.heap U'.vm U'.heap ∧ ReturnedEndW U o U' L ({ frames := 1, cells := 4, slots := 8, locals := 12 } : Room).cells ({ frames := 1, cells := 4, slots := 8, locals := 12 } : Room).slots) := by
  refine MetFree.of_bodySF (plainFor_of_name own_pn3) hisR ?_
  intro p e s m args below meth c s₁ Bd hml0 hP hK
  obtain ⟨rfl, hZ, hh, hCH⟩ := hP
  have hx := Bd.exec
  have hby := Bd.bytes
  have hml : c.maxLocals = 6 := hml0
  have hown : s.vm.findClass "java/lang/String" = some m.cls := findClass_of_methodNamed Bd.named
  have hnm := (name_of_methodNamed Bd.named Bd.method).1
  have X0 : Stand p l e ({ frames := 1, cells := 4, slots := 8, locals := 12 } : Room) s m #[(.ref a0_), (.ref a1), (.int (0 : Int32)), (.int (0 : Int32)), .null] below meth c s₁ [] 0 0 := Stand.of_body Bd
  have e0 : s₁.heap = h0 := by rw [← hh, Bd.state]; rfl
  have N0 := Fr.nil n0
  have k0 : own_To p e below s₁ (mkF m 0 #[.val (.ref a0_), .val (.ref a1), .val (.int (0 : Int32)), .val (.int (0 : Int32)), .val .null, .unset] []) s₁ (entryFrame m #[(.ref a0_), (.ref a1), (.int (0 : Int32)), (.int (0 : Int32)), .null] 6) := fun t k => castTop (own_efI0 m a0_ a1) k
  have ki : own_To p e below s₁ (mkF m 0 #[.val (.ref a0_), .val (.ref a1), .val (.int (0 : Int32)), .val (.int (0 : Int32)), .val .null, .unset] []) s₁ (mkF m 0 #[.val (.ref a0_), .val (.ref a1), .val (.int (0 : Int32)), .val (.int (0 : Int32)), .val .null, .unset] []) := fun t q => q
  have hstr : ∀ a ∈ Bundle.stringAtoms, a.before a0 Z = true := fun d hd => hw d ((by decide +kernel : ∀ d ∈ Bundle.stringAtoms, d ∈ tables_1) d hd)
  have X0 := own_base X0
  have CR0 := CHr.refl hCH
  have Sf0_a0_ : Safe Z own_EL s.vm h0 a0_ := own_safe hZ.alike E_ F_value
  obtain ⟨T1, X1, e1, st1⟩ := initO X0 hx hZ hown (hw _ (List.mem_of_getElem? (i := 15) rfl)) (hw _ (List.mem_of_getElem? (i := 16) rfl)) (hw _ (List.mem_of_getElem? (i := 17) rfl)) e0 (g := (mkF m 1 #[.val (.ref a0_), .val (.ref a1), .val (.int (0 : Int32)), .val (.int (0 : Int32)), .val .null, .unset] [(.ref a0_)])) rfl (by rw [hml]; rfl) rfl (hb hby own_d3_1) (by decide) (W := 0) (by show 2 * 0 + _ ≤ _; exact Nat.le_of_eq rfl) (by decide)
  have k2 : own_To p e below T1 (mkF m 9 #[.val (.ref a0_), .val (.ref a1), .val (.int (0 : Int32)), .val (.int (0 : Int32)), .val .null, .unset] [(.ref a0_)]) s₁ (mkF m 0 #[.val (.ref a0_), .val (.ref a1), .val (.int (0 : Int32)), .val (.int (0 : Int32)), .val .null, .unset] []) := fun t q => ki t (by
    refine XS.aloadN X0.here hx rfl (hb hby own_d3_0) rfl rfl ?_
    show Steps p.tables e below (s₁.setTop (mkF m 1 #[.val (.ref a0_), .val (.ref a1), .val (.int (0 : Int32)), .val (.int (0 : Int32)), .val .null, .unset] [(.ref a0_)])) _
    refine st1 _ ?_
    show Steps p.tables e below (T1.setTop (mkF m 4 #[.val (.ref a0_), .val (.ref a1), .val (.int (0 : Int32)), .val (.int (0 : Int32)), .val .null, .unset] [])) _
    refine XS.iloadN X1.here hx rfl (hb hby own_d3_4) rfl ?_
    show Steps p.tables e below (T1.setTop (mkF m 5 #[.val (.ref a0_), .val (.ref a1), .val (.int (0 : Int32)), .val (.int (0 : Int32)), .val .null, .unset] [(.int (0 : Int32))])) _
    refine XS.ifNo X1.here hx rfl (hb hby own_d3_5) rfl ((if0 _ _).trans (teq rfl).2) ?_
    show Steps p.tables e below (T1.setTop (mkF m 8 #[.val (.ref a0_), .val (.ref a1), .val (.int (0 : Int32)), .val (.int (0 : Int32)), .val .null, .unset] [])) _
    refine XS.aloadN X1.here hx rfl (hb hby own_d3_8) rfl rfl ?_
    show Steps p.tables e below (T1.setTop (mkF m 9 #[.val (.ref a0_), .val (.ref a1), .val (.int (0 : Int32)), .val (.int (0 : Int32)), .val .null, .unset] [(.ref a0_)])) _
    exact q)
  obtain ⟨b3, T3, h3, kk3, bb3, kb3, X3, e3, E3, hS3, hk3, hZ3, hown3, Ex3, Fc3, Fv3, V3, -, -, hC3, -, -, st3⟩ := ldcCH (vm0 := s.vm) X1 hx hZ hown (hw _ (List.mem_of_getElem? (i := 18) rfl)) hstr e1 (State.WarmedH.since (State.WarmedH.refl s) 0) (Nat.zero_le _) hEL (List.mem_of_getElem? (i := 8) rfl) hCH (vs := []) (z := (0 : Int32)) ⟨by decide, rfl⟩ (by decide) rfl (g := (mkF m 9 #[.val (.ref a0_), .val (.ref a1), .val (.int (0 : Int32)), .val (.int (0 : Int32)), .val .null, .unset] [(.ref a0_)])) rfl (hb hby own_d3_9) (n := 0) (by decide) (by decide) (by decide) (by decide)
  have hZ := hZ3
  have hown := hown3
  have CRl3 := CR0.trans hC3
  have CHl3 := CRl3.1
  have Sf3_a0_ := hC3.safe (E_.lt) Sf0_a0_
  have F4 := (E_.ext E3)
  have neb : a0_ ≠ bb3 := Exa.neArv F4 V3 (hw _ (List.mem_of_getElem? (i := 5) rfl))
  obtain ⟨T5, X5, e5, st5⟩ := getF X3 hx hZ hown (host := "") (Or.inl (hw _ (List.mem_of_getElem? (i := 24) rfl))) Via.refl e3 Fv3 (g := (mkF m 11 #[.val (.ref a0_), .val (.ref a1), .val (.int (0 : Int32)), .val (.int (0 : Int32)), .val .null, .unset] [(.ref b3), (.ref a0_)])) rfl rfl (hb hby own_d3_11)
  have F6 := (F_value.ext E3)
  obtain ⟨T7, h7, X7, e7, W7, st7⟩ := putF X5 hx hZ hown (host := "") (Or.inl (hw _ (List.mem_of_getElem? (i := 24) rfl))) Via.refl e5 F6 F4 (Or.inr ⟨(hw _ (List.mem_of_getElem? (i := 20) rfl)), rfl, hnm⟩) (hw _ (List.mem_of_getElem? (i := 5) rfl)) (ty := (.array .byte)) (by decide) rfl rfl (g := (mkF m 14 #[.val (.ref a0_), .val (.ref a1), .val (.int (0 : Int32)), .val (.int (0 : Int32)), .val .null, .unset] [(.ref bb3), (.ref a0_)])) rfl rfl (hb hby own_d3_14)
  have N7 := Fr.snoc X7 N0 g_
  obtain ⟨Lf7, Nf7, Xf7⟩ := own_fold X7 N7
  have Fw7 := F6.same W7
  have k8 : own_To p e below T7 (mkF m 18 #[.val (.ref a0_), .val (.ref a1), .val (.int (0 : Int32)), .val (.int (0 : Int32)), .val .null, .unset] [(.ref a0_)]) s₁ (mkF m 0 #[.val (.ref a0_), .val (.ref a1), .val (.int (0 : Int32)), .val (.int (0 : Int32)), .val .null, .unset] []) := fun t q => k2 t (by
    refine st3 _ ?_
    show Steps p.tables e below (T3.setTop (mkF m 11 #[.val (.ref a0_), .val (.ref a1), .val (.int (0 : Int32)), .val (.int (0 : Int32)), .val .null, .unset] [(.ref b3), (.ref a0_)])) _
    refine st5 _ ?_
    show Steps p.tables e below (T5.setTop (mkF m 14 #[.val (.ref a0_), .val (.ref a1), .val (.int (0 : Int32)), .val (.int (0 : Int32)), .val .null, .unset] [(.ref bb3), (.ref a0_)])) _
    refine st7 _ ?_
    show Steps p.tables e below (T7.setTop (mkF m 17 #[.val (.ref a0_), .val (.ref a1), .val (.int (0 : Int32)), .val (.int (0 : Int32)), .val .null, .unset] [])) _
    refine XS.aloadN Xf7.here hx rfl (hb hby own_d3_17) rfl rfl ?_
    show Steps p.tables e below (T7.setTop (mkF m 18 #[.val (.ref a0_), .val (.ref a1), .val (.int (0 : Int32)), .val (.int (0 : Int32)), .val .null, .unset] [(.ref a0_)])) _
    exact q)
  have CRc10 := CRl3.trans (CHr.wr W7 Sf3_a0_ CHl3)
  have Sfc10_a0_ := Safe.wr W7 Sf3_a0_ CHl3 Sf3_a0_
  have CHc10 := CRc10.1
  obtain ⟨b9, T9, h9, kk9, bb9, kb9, X9, e9, E9, hS9, hk9, hZ9, hown9, Ex9, Fc9, Fv9, V9, -, -, hC9, -, -, st9⟩ := ldcCH (vm0 := T3.vm) Xf7 hx hZ hown (hw _ (List.mem_of_getElem? (i := 18) rfl)) hstr e7 hS3 (Nat.le_trans hk3 (Keep.of_wr W7).1) hEL (List.mem_of_getElem? (i := 8) rfl) CHc10 (vs := []) (z := (0 : Int32)) ⟨by decide, rfl⟩ (by decide) rfl (g := (mkF m 18 #[.val (.ref a0_), .val (.ref a1), .val (.int (0 : Int32)), .val (.int (0 : Int32)), .val .null, .unset] [(.ref a0_)])) rfl (hb hby own_d3_18) (n := 0) (by decide) (by decide) (by decide) (by decide)
  have hZ := hZ9
  have hown := hown9
  have CRl9 := CRc10.trans hC9
  have CHl9 := CRl9.1
  have Sf9_a0_ := hC9.safe ((F4.wr W7).lt) Sfc10_a0_
  obtain ⟨T11, X11, e11, st11⟩ := getF X9 hx hZ hown (host := "") (Or.inl (hw _ (List.mem_of_getElem? (i := 25) rfl))) Via.refl e9 Fc9 (g := (mkF m 20 #[.val (.ref a0_), .val (.ref a1), .val (.int (0 : Int32)), .val (.int (0 : Int32)), .val .null, .unset] [(.ref b9), (.ref a0_)])) rfl rfl (hb hby own_d3_20)
  have F12 := (((F_coder.ext E3).other W7 (Or.inr (slot_ne (Or.inr (hw _ (List.mem_of_getElem? (i := 21) rfl))) (Or.inr (hw _ (List.mem_of_getElem? (i := 20) rfl))) (by decide) (t := .byte) (t' := (.array .byte)) (by decide) (by decide)))).ext E9)
  have F13 := ((F4.wr W7).ext E9)
  obtain ⟨T14, h14, X14, e14, W14, st14⟩ := putFN X11 hx hZ hown (hw _ (List.mem_of_getElem? (i := 25) rfl)) Via.refl e11 F12 F13 (Or.inr ⟨(hw _ (List.mem_of_getElem? (i := 21) rfl)), rfl, hnm⟩) (hw _ (List.mem_of_getElem? (i := 5) rfl)) (ty := .byte) (v' := (.int (nar .byte (0 : Int32)))) (by decide) rfl (fits_nar_byte _) (g := (mkF m 23 #[.val (.ref a0_), .val (.ref a1), .val (.int (0 : Int32)), .val (.int (0 : Int32)), .val .null, .unset] [(.int (0 : Int32)), (.ref a0_)])) rfl rfl (hb hby own_d3_23)
  have N14 := Fr.snoc X14 Nf7 g_
  obtain ⟨Lf14, Nf14, Xf14⟩ := own_fold X14 N14
  have Fw14 := F12.same W14
  have Fz15 : Fld Z h14 a0_ "java/lang/String" "coder" "B" (.int (0 : Int32)) := by have q := Fw14; rw [show nar .byte (0 : Int32) = 0 from by decide] at q; exact q
  have F16 := (F13.wr W14)
  have F17 := ((Fw7.ext E9).other W14 (Or.inr (slot_ne (Or.inr (hw _ (List.mem_of_getElem? (i := 20) rfl))) (Or.inr (hw _ (List.mem_of_getElem? (i := 21) rfl))) (by decide) (t := (.array .byte)) (t' := .byte) (by decide) (by decide))))
  have F18 := (((V3.other W7 (Ne.symm neb)).ext E9).other W14 (Ne.symm neb))
  have K19 := ((((Keep.refl h0 [a0_]).ext E3).wr W7 (Or.inl (List.mem_of_getElem? (i := 0) rfl))).ext E9)
  have K20 : Keep h0 h14 [a0_] := (K19.wr W14 (Or.inl (List.mem_of_getElem? (i := 0) rfl)))
  have k21 : own_To p e below T14 (mkF m 26 #[.val (.ref a0_), .val (.ref a1), .val (.int (0 : Int32)), .val (.int (0 : Int32)), .val .null, .unset] []) s₁ (mkF m 0 #[.val (.ref a0_), .val (.ref a1), .val (.int (0 : Int32)), .val (.int (0 : Int32)), .val .null, .unset] []) := fun t q => k8 t (by
    refine st9 _ ?_
    show Steps p.tables e below (T9.setTop (mkF m 20 #[.val (.ref a0_), .val (.ref a1), .val (.int (0 : Int32)), .val (.int (0 : Int32)), .val .null, .unset] [(.ref b9), (.ref a0_)])) _
    refine st11 _ ?_
    show Steps p.tables e below (T11.setTop (mkF m 23 #[.val (.ref a0_), .val (.ref a1), .val (.int (0 : Int32)), .val (.int (0 : Int32)), .val .null, .unset] [(.int (0 : Int32)), (.ref a0_)])) _
    refine st14 _ ?_
    show Steps p.tables e below (T14.setTop (mkF m 26 #[.val (.ref a0_), .val (.ref a1), .val (.int (0 : Int32)), .val (.int (0 : Int32)), .val .null, .unset] [])) _
    exact q)
  have CRc22 := CRl9.trans (CHr.wr W14 Sf9_a0_ CHl9)
  have Sfc22_a0_ := Safe.wr W14 Sf9_a0_ CHl9 Sf9_a0_
  have CHc22 := CRc22.1
  have hCe := CRc22.trans (CHv.at (vm0 := T9.vm) Xf14 hZ hEL CHc22)
  obtain ⟨fs, hr, hrun, hended, hEnd⟩ := Stand.leaveW (s := s) (vm₁ := T9.vm) Xf14 hS9 (by rw [e14]; exact (Nat.le_trans hk9 (Keep.of_wr W14).1)) (v := none) (fun _ => rfl)
  refine ⟨_, _, k0 _ (k21 _ ?_), hrun, hended, _, _, rfl, ?_, ?_, hEnd.1, hEnd.2.1, hEnd.2.2.1, hEnd.2.2.2.mono (by decide) (by decide)⟩
  · show Steps p.tables e below (T14.setTop (mkF m 26 #[.val (.ref a0_), .val (.ref a1), .val (.int (0 : Int32)), .val (.int (0 : Int32)), .val .null, .unset] [])) _
    exact Xf14.returnOut hx Bd.returns (hb hby own_d3_26) hr
  · show QI0 Z a0_ a1 h0 n0 _ T14.heap _
    rw [e14]
    exact ⟨bb3, kb3, rfl, Nf14, K20, F16, Fz15, F17, F18⟩
  · show CHr Z own_EL s.vm s.heap T14.vm T14.heap
    rw [hh, e14]; exact hCe
theorem own_pd35 : parseMethodDescriptor "([CII)[B" = some ⟨[(.array .char), .int, .int], some (.array .byte)⟩ := by decide +kernel
theorem own_pd29 : parseMethodDescriptor "([BI)B" = some ⟨[(.array .byte), .int], some .byte⟩ := by decide +kernel
theorem own_d3_27 : decode jdk_42_method_149_code 27 = .ok (.getstatic 38, 3) := by decide +kernel
theorem own_d3_30 : decode jdk_42_method_149_code 30 = .ok (.ifCond .eq 28, 3) := by decide +kernel
theorem own_d3_33 : decode jdk_42_method_149_code 33 = .ok (.aload_n 1, 1) := by decide +kernel
theorem own_d3_34 : decode jdk_42_method_149_code 34 = .ok (.iload_n 2, 1) := by decide +kernel
theorem own_d3_35 : decode jdk_42_method_149_code 35 = .ok (.iload_n 3, 1) := by decide +kernel
theorem own_d3_36 : decode jdk_42_method_149_code 36 = .ok (.invokestatic 177, 3) := by decide +kernel
theorem own_d3_39 : decode jdk_42_method_149_code 39 = .ok (.astore 5, 2) := by decide +kernel
theorem own_d3_41 : decode jdk_42_method_149_code 41 = .ok (.aload_n 0, 1) := by decide +kernel
theorem own_d3_42 : decode jdk_42_method_149_code 42 = .ok (.aload 5, 2) := by decide +kernel
theorem own_d3_44 : decode jdk_42_method_149_code 44 = .ok (.iload_n 3, 1) := by decide +kernel
theorem own_d3_45 : decode jdk_42_method_149_code 45 = .ok (.invokestatic 47, 3) := by decide +kernel
theorem own_d3_48 : decode jdk_42_method_149_code 48 = .ok (.putfield 15, 3) := by decide +kernel
theorem own_d3_51 : decode jdk_42_method_149_code 51 = .ok (.aload_n 0, 1) := by decide +kernel
theorem own_d3_52 : decode jdk_42_method_149_code 52 = .ok (.aload 5, 2) := by decide +kernel
theorem own_d3_54 : decode jdk_42_method_149_code 54 = .ok (.putfield 9, 3) := by decide +kernel
theorem own_d3_57 : decode jdk_42_method_149_code 57 = .ok (.return_, 1) := by decide +kernel
theorem own_efI2 (m : MethodId) (x0 : Addr) (x1 : Addr) : entryFrame m #[(.ref x0), (.ref x1), (.int (0 : Int32)), (.int (2 : Int32)), .null] 6 = mkF m 0 #[.val (.ref x0), .val (.ref x1), .val (.int (0 : Int32)), .val (.int (2 : Int32)), .val .null, .unset] [] := by first | (simp [entryFrame, mkF, argsToLocals, Value.category]; done) | rfl
def QI2 (Z : State) (a0_ : Addr) (a1 : Addr) (kc_ : ClassId) (x0 : Int32) (x1 : Int32) (cs : Int32) (h0 : Heap) (n0 : Nat) (v : Option Value) (h : Heap) (L : List Loc) : Prop := ∃ (b : Addr) (kb : ClassId), v = none ∧ Fr n0 L ∧ Keep h0 h [a0_] ∧ Exa Z h a0_ "java/lang/String" ∧ Fld Z h a0_ "java/lang/String" "coder" "B" (.int (0 : Int32)) ∧ Fld Z h a0_ "java/lang/String" "value" "[B" (.ref b) ∧ Arv Z h b kb .byte (2 : Int32) [(.int (own_by x0)), (.int (own_by x1))] (.int (0 : Int32))
set_option maxRecDepth 65536 in
set_option maxHeartbeats 40000000 in
theorem rmI2 (l : Launch) (Z : State) (a0 : Array Value) (hw : ∀ d ∈ tables_1, d.before a0 Z = true) (ws : List Jvm.Cond) (a0_ : Addr) (a1 : Addr) (kc_ : ClassId) (x0 : Int32) (x1 : Int32) (cs : Int32) (h0 : Heap) (n0 : Nat) (Z0 : n0 ≤ h0.size) (F_value : Fld Z h0 a0_ "java/lang/String" "value" "[B" .null) (F_coder : Fld Z h0 a0_ "java/lang/String" "coder" "B" (.int (0 : Int32))) (E_ : Exa Z h0 a0_ "java/lang/String") (g_ : n0 ≤ a0_) (V0 : Arv Z h0 a1 kc_ .char (2 : Int32) [(.int x0), (.int x1)] (.int (0 : Int32))) (hx0 : ¬ (255 : Int32) < x0) (hx1 : ¬ (255 : Int32) < x1) (SC : Sta Z Z.heap "java/lang/String" "COMPACT_STRINGS" "Z" (.int cs)) (hcs : ¬ cs = (0 : Int32)) (O0 : Old Z n0 h0) :
    MetFree l (⟨"java/lang/String", "<init>", "([CIILjava/lang/Void;)V"⟩ : MethodName) (head1 (Jvm.Cond.code (⟨"java/lang/String", "<init>", "([CIILjava/lang/Void;)V"⟩ : MethodName) jdk_42_method_149_code 6 none :: ws) ({ frames := 2, cells := 1, slots := 2, locals := 35 } : Room)) (fun a U => a = #[(.ref a0_), (.ref a1), (.int (0 : Int32)), (.int (2 : Int32)), .null] ∧ Z.Warmed39 U.vm ∧ U.heap = h0) (fun _ _ _ _ _ => True) (fun _ U o U' => ∃ v L, o = .returned v ∧ QI2 Z a0_ a1 kc_ x0 x1 cs h0 n0 v U'.heap L ∧ FrameEnd U o U' L ({ frames := 2, cells := 1, slots := 2, locals := 35 } : Room).cells ({ frames := 2, cells := 1, slots := 2, locals := 35 } : Room).slots) := by
  refine MetFree.of_bodySF (plainFor_of_name own_pn3) hisR ?_
  intro p e s m args below meth c s₁ Bd hml0 hP hK
  obtain ⟨rfl, hZ, hh⟩ := hP
  have hx := Bd.exec
  have hby := Bd.bytes
  have hml : c.maxLocals = 6 := hml0
  have hown : s.vm.findClass "java/lang/String" = some m.cls := findClass_of_methodNamed Bd.named
  have hnm := (name_of_methodNamed Bd.named Bd.method).1
  have X0 : Stand p l e ({ frames := 2, cells := 1, slots := 2, locals := 35 } : Room) s m #[(.ref a0_), (.ref a1), (.int (0 : Int32)), (.int (2 : Int32)), .null] below meth c s₁ [] 0 0 := Stand.of_body Bd
  have e0 : s₁.heap = h0 := by rw [← hh, Bd.state]; rfl
  have N0 := Fr.nil n0
  have k0 : own_To p e below s₁ (mkF m 0 #[.val (.ref a0_), .val (.ref a1), .val (.int (0 : Int32)), .val (.int (2 : Int32)), .val .null, .unset] []) s₁ (entryFrame m #[(.ref a0_), (.ref a1), (.int (0 : Int32)), (.int (2 : Int32)), .null] 6) := fun t k => castTop (own_efI2 m a0_ a1) k
  have ki : own_To p e below s₁ (mkF m 0 #[.val (.ref a0_), .val (.ref a1), .val (.int (0 : Int32)), .val (.int (2 : Int32)), .val .null, .unset] []) s₁ (mkF m 0 #[.val (.ref a0_), .val (.ref a1), .val (.int (0 : Int32)), .val (.int (2 : Int32)), .val .null, .unset] []) := fun t q => q
  obtain ⟨T1, X1, e1, st1⟩ := initO X0 hx hZ hown (hw _ (List.mem_of_getElem? (i := 15) rfl)) (hw _ (List.mem_of_getElem? (i := 16) rfl)) (hw _ (List.mem_of_getElem? (i := 17) rfl)) e0 (g := (mkF m 1 #[.val (.ref a0_), .val (.ref a1), .val (.int (0 : Int32)), .val (.int (2 : Int32)), .val .null, .unset] [(.ref a0_)])) rfl (by rw [hml]; rfl) rfl (hb hby own_d3_1) (by decide) (W := 0) (by show 2 * 0 + _ ≤ _; exact Nat.le_of_eq rfl) (by decide)
  obtain ⟨T2, X2, e2, st2⟩ := getS2 X1 hx hZ hown (host := "") (Or.inl (hw _ (List.mem_of_getElem? (i := 26) rfl))) Via.refl e1 (SC.ext O0.2) (g := (mkF m 27 #[.val (.ref a0_), .val (.ref a1), .val (.int (0 : Int32)), .val (.int (2 : Int32)), .val .null, .unset] [])) rfl (hb hby own_d3_27)
  obtain ⟨_, _, ⟨T3, L3, kk3, n3⟩, -, X3, ⟨Lc3, hQ3, l3, y3, z3⟩, st3⟩ := Jvm.LawKit.callS X2 hx (y := (⟨"java/lang/StringUTF16", "compress", "([CII)[B"⟩ : MethodName)) hown (mvT hZ (hw _ (List.mem_of_getElem? (i := 27) rfl))) (mvT hZ (hw _ (List.mem_of_getElem? (i := 28) rfl))) (mvT hZ (hw _ (List.mem_of_getElem? (i := 29) rfl))) (mvT hZ (hw _ (List.mem_of_getElem? (i := 30) rfl))) (by decide) (backOf (W := 0) (rm5 l Z a0 hw [] a1 kc_ x0 x1 h0 n0 Z0 V0 hx0 hx1) hZ (hw _ (List.mem_of_getElem? (i := 30) rfl)) (hw _ (List.mem_of_getElem? (i := 29) rfl)) (by decide) (by decide)) (g := (mkF m 36 #[.val (.ref a0_), .val (.ref a1), .val (.int (0 : Int32)), .val (.int (2 : Int32)), .val .null, .unset] [(.int (2 : Int32)), (.int (0 : Int32)), (.ref a1)])) rfl (by rw [hml]; rfl) (argsL := [(.ref a1), (.int (0 : Int32)), (.int (2 : Int32))]) (rest := []) (lenOf own_pd35 rfl) rfl (by show 2 * 0 + _ ≤ _; exact Nat.le_of_eq rfl) (hb hby own_d3_36) (fun _ _ => ⟨rfl, e2, (by decide : 0 + 1 ≤ _), (by decide : 0 + 2 ≤ _)⟩)
  dsimp only [Pt.U, Pt.locs, Pt.cells, Pt.slots] at X3 l3 y3 z3 st3 hQ3
  subst l3 y3 z3
  obtain ⟨rb3, kb3, rfl, N3q, K3, z3z, V3⟩ := hQ3
  have ne_a0__rb3 : a0_ ≠ rb3 := Nat.ne_of_lt (Nat.lt_of_lt_of_le E_.lt z3z)
  have ne_a1_rb3 : a1 ≠ rb3 := Nat.ne_of_lt (Nat.lt_of_lt_of_le V0.lt z3z)
  have K4 : Keep h0 h0 [a0_] := (Keep.refl h0 [a0_])
  have sz_rb3 : h0.size ≤ rb3 := Nat.le_trans K4.1 z3z
  have ge_rb3 : n0 ≤ rb3 := Nat.le_trans Z0 sz_rb3
  have N3 := Fr.app N0 N3q
  have k5 : own_To p e below T3 (mkF m 42 #[.val (.ref a0_), .val (.ref a1), .val (.int (0 : Int32)), .val (.int (2 : Int32)), .val .null, .val (.ref rb3)] [(.ref a0_)]) s₁ (mkF m 0 #[.val (.ref a0_), .val (.ref a1), .val (.int (0 : Int32)), .val (.int (2 : Int32)), .val .null, .unset] []) := fun t q => ki t (by
    refine XS.aloadN X0.here hx rfl (hb hby own_d3_0) rfl rfl ?_
    show Steps p.tables e below (s₁.setTop (mkF m 1 #[.val (.ref a0_), .val (.ref a1), .val (.int (0 : Int32)), .val (.int (2 : Int32)), .val .null, .unset] [(.ref a0_)])) _
    refine st1 _ ?_
    show Steps p.tables e below (T1.setTop (mkF m 4 #[.val (.ref a0_), .val (.ref a1), .val (.int (0 : Int32)), .val (.int (2 : Int32)), .val .null, .unset] [])) _
    refine XS.iloadN X1.here hx rfl (hb hby own_d3_4) rfl ?_
    show Steps p.tables e below (T1.setTop (mkF m 5 #[.val (.ref a0_), .val (.ref a1), .val (.int (0 : Int32)), .val (.int (2 : Int32)), .val .null, .unset] [(.int (2 : Int32))])) _
    refine XS.ifYes X1.here hx rfl (pc0 := 5) (pc' := 27) rfl (hb hby own_d3_5) rfl ((if0 _ _).trans (feq (by decide)).2) (by decide) (by decide) ?_
    show Steps p.tables e below (T1.setTop (mkF m 27 #[.val (.ref a0_), .val (.ref a1), .val (.int (0 : Int32)), .val (.int (2 : Int32)), .val .null, .unset] [])) _
    refine st2 _ ?_
    show Steps p.tables e below (T2.setTop (mkF m 30 #[.val (.ref a0_), .val (.ref a1), .val (.int (0 : Int32)), .val (.int (2 : Int32)), .val .null, .unset] [(.int cs)])) _
    refine XS.ifNo X2.here hx rfl (hb hby own_d3_30) rfl ((if0 _ _).trans (feq hcs).1) ?_
    show Steps p.tables e below (T2.setTop (mkF m 33 #[.val (.ref a0_), .val (.ref a1), .val (.int (0 : Int32)), .val (.int (2 : Int32)), .val .null, .unset] [])) _
    refine XS.aloadN X2.here hx rfl (hb hby own_d3_33) rfl rfl ?_
    show Steps p.tables e below (T2.setTop (mkF m 34 #[.val (.ref a0_), .val (.ref a1), .val (.int (0 : Int32)), .val (.int (2 : Int32)), .val .null, .unset] [(.ref a1)])) _
    refine XS.iloadN X2.here hx rfl (hb hby own_d3_34) rfl ?_
    show Steps p.tables e below (T2.setTop (mkF m 35 #[.val (.ref a0_), .val (.ref a1), .val (.int (0 : Int32)), .val (.int (2 : Int32)), .val .null, .unset] [(.int (0 : Int32)), (.ref a1)])) _
    refine XS.iloadN X2.here hx rfl (hb hby own_d3_35) rfl ?_
    show Steps p.tables e below (T2.setTop (mkF m 36 #[.val (.ref a0_), .val (.ref a1), .val (.int (0 : Int32)), .val (.int (2 : Int32)), .val .null, .unset] [(.int (2 : Int32)), (.int (0 : Int32)), (.ref a1)])) _
    refine st3 _ ?_
    show Steps p.tables e below (T3.setTop (mkF m 39 #[.val (.ref a0_), .val (.ref a1), .val (.int (0 : Int32)), .val (.int (2 : Int32)), .val .null, .unset] [(.ref rb3)])) _
    refine XS.astore X3.here hx rfl (hb hby own_d3_39) rfl rfl (l' := #[.val (.ref a0_), .val (.ref a1), .val (.int (0 : Int32)), .val (.int (2 : Int32)), .val .null, .val (.ref rb3)]) rfl ?_
    show Steps p.tables e below (T3.setTop (mkF m 41 #[.val (.ref a0_), .val (.ref a1), .val (.int (0 : Int32)), .val (.int (2 : Int32)), .val .null, .val (.ref rb3)] [])) _
    refine XS.aloadN X3.here hx rfl (hb hby own_d3_41) rfl rfl ?_
    show Steps p.tables e below (T3.setTop (mkF m 42 #[.val (.ref a0_), .val (.ref a1), .val (.int (0 : Int32)), .val (.int (2 : Int32)), .val .null, .val (.ref rb3)] [(.ref a0_)])) _
    exact q)
  have K7 : Keep h0 T3.heap [a0_] := (K4.trans K3 all0)
  obtain ⟨_, _, ⟨T6, L6, kk6, n6⟩, -, X6, ⟨Lc6, hQ6, l6, y6, z6⟩, st6⟩ := Jvm.LawKit.callS X3 hx (y := (⟨"java/lang/StringUTF16", "coderFromArrayLen", "([BI)B"⟩ : MethodName)) hown (mvT hZ (hw _ (List.mem_of_getElem? (i := 34) rfl))) (mvT hZ (hw _ (List.mem_of_getElem? (i := 35) rfl))) (mvT hZ (hw _ (List.mem_of_getElem? (i := 29) rfl))) (mvT hZ (hw _ (List.mem_of_getElem? (i := 36) rfl))) (by decide) (backOf (W := 1) (rm7 l Z a0 hw [] rb3 kb3 [(.int (own_by x0)), (.int (own_by x1))] T3.heap n0 (Nat.le_trans Z0 K7.1) V3) hZ (hw _ (List.mem_of_getElem? (i := 36) rfl)) (hw _ (List.mem_of_getElem? (i := 29) rfl)) (by decide) (by decide)) (g := (mkF m 45 #[.val (.ref a0_), .val (.ref a1), .val (.int (0 : Int32)), .val (.int (2 : Int32)), .val .null, .val (.ref rb3)] [(.int (2 : Int32)), (.ref rb3), (.ref a0_)])) rfl (by rw [hml]; rfl) (argsL := [(.ref rb3), (.int (2 : Int32))]) (rest := [(.ref a0_)]) (lenOf own_pd29 rfl) rfl (by show 2 * 0 + _ ≤ _; exact Nat.le_of_eq rfl) (hb hby own_d3_45) (fun _ _ => ⟨rfl, rfl, (by decide : 1 + 0 ≤ _), (by decide : 2 + 0 ≤ _)⟩)
  dsimp only [Pt.U, Pt.locs, Pt.cells, Pt.slots] at X6 l6 y6 z6 st6 hQ6
  subst l6 y6 z6
  obtain ⟨rfl, N6q, e6⟩ := hQ6
  have N6 := Fr.app N3 N6q
  have F8 := (F_coder.keep K3 nin0)
  have F9 := (E_.keep K3)
  obtain ⟨T10, h10, X10, e10, W10, st10⟩ := putFN X6 hx hZ hown (hw _ (List.mem_of_getElem? (i := 25) rfl)) Via.refl e6 F8 F9 (Or.inr ⟨(hw _ (List.mem_of_getElem? (i := 21) rfl)), rfl, hnm⟩) (hw _ (List.mem_of_getElem? (i := 5) rfl)) (ty := .byte) (v' := (.int (nar .byte (0 : Int32)))) (by decide) rfl (fits_nar_byte _) (g := (mkF m 48 #[.val (.ref a0_), .val (.ref a1), .val (.int (0 : Int32)), .val (.int (2 : Int32)), .val .null, .val (.ref rb3)] [(.int (0 : Int32)), (.ref a0_)])) rfl rfl (hb hby own_d3_48)
  have N10 := Fr.snoc X10 N6 g_
  obtain ⟨Lf10, Nf10, Xf10⟩ := own_fold X10 N10
  have Fw10 := F8.same W10
  have F11 := ((F_value.keep K3 nin0).other W10 (Or.inr (slot_ne (Or.inr (hw _ (List.mem_of_getElem? (i := 20) rfl))) (Or.inr (hw _ (List.mem_of_getElem? (i := 21) rfl))) (by decide) (t := (.array .byte)) (t' := .byte) (by decide) (by decide))))
  have F12 := (F9.wr W10)
  obtain ⟨T13, h13, X13, e13, W13, st13⟩ := putF Xf10 hx hZ hown (host := "") (Or.inl (hw _ (List.mem_of_getElem? (i := 24) rfl))) Via.refl e10 F11 F12 (Or.inr ⟨(hw _ (List.mem_of_getElem? (i := 20) rfl)), rfl, hnm⟩) (hw _ (List.mem_of_getElem? (i := 5) rfl)) (ty := (.array .byte)) (by decide) rfl rfl (g := (mkF m 54 #[.val (.ref a0_), .val (.ref a1), .val (.int (0 : Int32)), .val (.int (2 : Int32)), .val .null, .val (.ref rb3)] [(.ref rb3), (.ref a0_)])) rfl rfl (hb hby own_d3_54)
  have N13 := Fr.snoc X13 Nf10 g_
  obtain ⟨Lf13, Nf13, Xf13⟩ := own_fold X13 N13
  have Fw13 := F11.same W13
  have F14 := (Fw10.other W13 (Or.inr (slot_ne (Or.inr (hw _ (List.mem_of_getElem? (i := 21) rfl))) (Or.inr (hw _ (List.mem_of_getElem? (i := 20) rfl))) (by decide) (t := .byte) (t' := (.array .byte)) (by decide) (by decide))))
  have Fz15 : Fld Z h13 a0_ "java/lang/String" "coder" "B" (.int (0 : Int32)) := by have q := F14; rw [show nar .byte (0 : Int32) = 0 from by decide] at q; exact q
  have F16 := (F12.wr W13)
  have F17 := ((V3.other W10 (Ne.symm ne_a0__rb3)).other W13 (Ne.symm ne_a0__rb3))
  have K18 : Keep h0 h13 [a0_] := ((K7.wr W10 (Or.inl (List.mem_of_getElem? (i := 0) rfl))).wr W13 (Or.inl (List.mem_of_getElem? (i := 0) rfl)))
  have k19 : own_To p e below T13 (mkF m 57 #[.val (.ref a0_), .val (.ref a1), .val (.int (0 : Int32)), .val (.int (2 : Int32)), .val .null, .val (.ref rb3)] []) s₁ (mkF m 0 #[.val (.ref a0_), .val (.ref a1), .val (.int (0 : Int32)), .val (.int (2 : Int32)), .val .null, .unset] []) := fun t q => k5 t (by
    refine XS.aload X3.here hx rfl (hb hby own_d3_42) rfl rfl ?_
    show Steps p.tables e below (T3.setTop (mkF m 44 #[.val (.ref a0_), .val (.ref a1), .val (.int (0 : Int32)), .val (.int (2 : Int32)), .val .null, .val (.ref rb3)] [(.ref rb3), (.ref a0_)])) _
    refine XS.iloadN X3.here hx rfl (hb hby own_d3_44) rfl ?_
    show Steps p.tables e below (T3.setTop (mkF m 45 #[.val (.ref a0_), .val (.ref a1), .val (.int (0 : Int32)), .val (.int (2 : Int32)), .val .null, .val (.ref rb3)] [(.int (2 : Int32)), (.ref rb3), (.ref a0_)])) _
    refine st6 _ ?_
    show Steps p.tables e below (T6.setTop (mkF m 48 #[.val (.ref a0_), .val (.ref a1), .val (.int (0 : Int32)), .val (.int (2 : Int32)), .val .null, .val (.ref rb3)] [(.int (0 : Int32)), (.ref a0_)])) _
    refine st10 _ ?_
    show Steps p.tables e below (T10.setTop (mkF m 51 #[.val (.ref a0_), .val (.ref a1), .val (.int (0 : Int32)), .val (.int (2 : Int32)), .val .null, .val (.ref rb3)] [])) _
    refine XS.aloadN Xf10.here hx rfl (hb hby own_d3_51) rfl rfl ?_
    show Steps p.tables e below (T10.setTop (mkF m 52 #[.val (.ref a0_), .val (.ref a1), .val (.int (0 : Int32)), .val (.int (2 : Int32)), .val .null, .val (.ref rb3)] [(.ref a0_)])) _
    refine XS.aload Xf10.here hx rfl (hb hby own_d3_52) rfl rfl ?_
    show Steps p.tables e below (T10.setTop (mkF m 54 #[.val (.ref a0_), .val (.ref a1), .val (.int (0 : Int32)), .val (.int (2 : Int32)), .val .null, .val (.ref rb3)] [(.ref rb3), (.ref a0_)])) _
    refine st13 _ ?_
    show Steps p.tables e below (T13.setTop (mkF m 57 #[.val (.ref a0_), .val (.ref a1), .val (.int (0 : Int32)), .val (.int (2 : Int32)), .val .null, .val (.ref rb3)] [])) _
    exact q)
  obtain ⟨fs, hr, hrun, hended, hW, hsame⟩ := Xf13.leave (v := none) (fun _ => rfl)
  refine ⟨_, _, k0 _ (k19 _ ?_), hrun, hended, _, _, rfl, ?_, ⟨_, rfl⟩, hW, hsame.mono (by decide) (by decide)⟩
  · show Steps p.tables e below (T13.setTop (mkF m 57 #[.val (.ref a0_), .val (.ref a1), .val (.int (0 : Int32)), .val (.int (2 : Int32)), .val .null, .val (.ref rb3)] [])) _
    exact Xf13.returnOut hx Bd.returns (hb hby own_d3_57) hr
  · show QI2 Z a0_ a1 kc_ x0 x1 cs h0 n0 _ T13.heap _
    rw [e13]
    exact ⟨rb3, kb3, rfl, Nf13, K18, F16, Fz15, Fw13, F17⟩
theorem own_pd36 : parseMethodDescriptor "([CIILjava/lang/Void;)V" = some ⟨[(.array .char), .int, .int, (.object "java/lang/Void")], none⟩ := by decide +kernel
theorem own_d2_0 : decode jdk_42_method_3_code 0 = .ok (.aload_n 0, 1) := by decide +kernel
theorem own_d2_1 : decode jdk_42_method_3_code 1 = .ok (.aload_n 1, 1) := by decide +kernel
theorem own_d2_2 : decode jdk_42_method_3_code 2 = .ok (.iconst 0, 1) := by decide +kernel
theorem own_d2_3 : decode jdk_42_method_3_code 3 = .ok (.aload_n 1, 1) := by decide +kernel
theorem own_d2_4 : decode jdk_42_method_3_code 4 = .ok (.arraylength, 1) := by decide +kernel
theorem own_d2_5 : decode jdk_42_method_3_code 5 = .ok (.aconst_null, 1) := by decide +kernel
theorem own_d2_6 : decode jdk_42_method_3_code 6 = .ok (.invokespecial 27, 3) := by decide +kernel
theorem own_d2_9 : decode jdk_42_method_3_code 9 = .ok (.return_, 1) := by decide +kernel
theorem own_pn2 : plainName "java/lang/String" = true := by first | (simp [plainName, overriddenIn]; done) | decide +kernel
theorem own_efJ0 (m : MethodId) (x0 : Addr) (x1 : Addr) : entryFrame m #[(.ref x0), (.ref x1)] 2 = mkF m 0 #[.val (.ref x0), .val (.ref x1)] [] := by first | (simp [entryFrame, mkF, argsToLocals, Value.category]; done) | rfl
def QJ0 (Z : State) (a0_ : Addr) (a1 : Addr) (kc_ : ClassId) (h0 : Heap) (n0 : Nat) (v : Option Value) (h : Heap) (L : List Loc) : Prop := ∃ (b : Addr) (kb : ClassId), v = none ∧ Fr n0 L ∧ Keep h0 h [a0_] ∧ Exa Z h a0_ "java/lang/String" ∧ Fld Z h a0_ "java/lang/String" "coder" "B" (.int (0 : Int32)) ∧ Fld Z h a0_ "java/lang/String" "value" "[B" (.ref b) ∧ Arv Z h b kb .byte (0 : Int32) [] (.int (0 : Int32))
set_option maxRecDepth 65536 in
set_option maxHeartbeats 40000000 in
theorem rmJ0 (l : Launch) (Z : State) (a0 : Array Value) (hw : ∀ d ∈ tables_1, d.before a0 Z = true) (ws : List Jvm.Cond) (a0_ : Addr) (a1 : Addr) (kc_ : ClassId) (h0 : Heap) (n0 : Nat) (Z0 : n0 ≤ h0.size) (F_value : Fld Z h0 a0_ "java/lang/String" "value" "[B" .null) (F_coder : Fld Z h0 a0_ "java/lang/String" "coder" "B" (.int (0 : Int32))) (E_ : Exa Z h0 a0_ "java/lang/String") (g_ : n0 ≤ a0_) (V0 : Arv Z h0 a1 kc_ .char (0 : Int32) [] (.int (0 : Int32))) (hEL : EW Z a0 own_EL) :
    MetFree l (⟨"java/lang/String", "<init>", "([C)V"⟩ : MethodName) (head1 (Jvm.Cond.code (⟨"java/lang/String", "<init>", "([C)V"⟩ : MethodName) jdk_42_method_3_code 2 none :: ws) ({ frames := 2, cells := 4, slots := 8, locals := 29 } : Room)) (fun a U => a = #[(.ref a0_), (.ref a1)] ∧ Z.Warmed39 U.vm ∧ U.heap = h0 ∧ CHv Z own_EL U.vm h0) (fun _ _ _ _ _ => True) (fun _ U o U' => ∃ v L, o = .returned v ∧ QJ0 Z a0_ a1 kc_ h0 n0 v U'.heap L ∧ CHr Z own_EL U.vm U.heap U'.vm U'.heap ∧ ReturnedEndW U o U' L ({ frames := 2, cells := 4, slots := 8, locals := 29 } : Room).cells ({ frames := 2, cells := 4, slots := 8, locals := 29 } : Room).slots) := by
  refine MetFree.of_bodySF (plainFor_of_name own_pn2) hisR ?_
  intro p e s m args below meth c s₁ Bd hml0 hP hK
  obtain ⟨rfl, hZ, hh, hCH⟩ := hP
  have hx := Bd.exec
  have hby := Bd.bytes
  have hml : c.maxLocals = 2 := hml0
  have hown : s.vm.findClass "java/lang/String" = some m.cls := findClass_of_methodNamed Bd.named
  have hnm := (name_of_methodNamed Bd.named Bd.method).1
  have X0 : Stand p l e ({ frames := 2, cells := 4, slots := 8, locals := 29 } : Room) s m #[(.ref a0_), (.ref a1)] below meth c s₁ [] 0 0 := Stand.of_body Bd
  have e0 : s₁.heap = h0 := by rw [← hh, Bd.state]; rfl
  have N0 := Fr.nil n0
  have k0 : own_To p e below s₁ (mkF m 0 #[.val (.ref a0_), .val (.ref a1)] []) s₁ (entryFrame m #[(.ref a0_), (.ref a1)] 2) := fun t k => castTop (own_efJ0 m a0_ a1) k
  have ki : own_To p e below s₁ (mkF m 0 #[.val (.ref a0_), .val (.ref a1)] []) s₁ (mkF m 0 #[.val (.ref a0_), .val (.ref a1)] []) := fun t q => q
  have hstr : ∀ a ∈ Bundle.stringAtoms, a.before a0 Z = true := fun d hd => hw d ((by decide +kernel : ∀ d ∈ Bundle.stringAtoms, d ∈ tables_1) d hd)
  have X0 := own_base X0
  have CR0 := CHr.refl hCH
  have Sf0_a0_ : Safe Z own_EL s.vm h0 a0_ := own_safe hZ.alike E_ F_value
  obtain ⟨clr1, Arr1, qr1, Sr1, Mr1, Hhr1, Gr1⟩ := id V0
  have k2 : own_To p e below s₁ (mkF m 6 #[.val (.ref a0_), .val (.ref a1)] [.null, (.int (0 : Int32)), (.int (0 : Int32)), (.ref a1), (.ref a0_)]) s₁ (mkF m 0 #[.val (.ref a0_), .val (.ref a1)] []) := fun t q => ki t (by
    refine XS.aloadN X0.here hx rfl (hb hby own_d2_0) rfl rfl ?_
    show Steps p.tables e below (s₁.setTop (mkF m 1 #[.val (.ref a0_), .val (.ref a1)] [(.ref a0_)])) _
    refine XS.aloadN X0.here hx rfl (hb hby own_d2_1) rfl rfl ?_
    show Steps p.tables e below (s₁.setTop (mkF m 2 #[.val (.ref a0_), .val (.ref a1)] [(.ref a1), (.ref a0_)])) _
    refine XS.iconst X0.here hx rfl (hb hby own_d2_2) ?_
    show Steps p.tables e below (s₁.setTop (mkF m 3 #[.val (.ref a0_), .val (.ref a1)] [(.int (0 : Int32)), (.ref a1), (.ref a0_)])) _
    refine XS.aloadN X0.here hx rfl (hb hby own_d2_3) rfl rfl ?_
    show Steps p.tables e below (s₁.setTop (mkF m 4 #[.val (.ref a0_), .val (.ref a1)] [(.ref a1), (.int (0 : Int32)), (.ref a1), (.ref a0_)])) _
    refine X0.arraylength hx (by rw [e0]; exact Arr1.1) (State.isArrayOf_alike hZ.alike Arr1.2.1) (g := (mkF m 4 #[.val (.ref a0_), .val (.ref a1)] [(.ref a1), (.int (0 : Int32)), (.ref a1), (.ref a0_)])) rfl rfl (hb hby own_d2_4) _ ?_
    rw [len_of Sr1 Mr1]
    show Steps p.tables e below (s₁.setTop (mkF m 5 #[.val (.ref a0_), .val (.ref a1)] [(.int (0 : Int32)), (.int (0 : Int32)), (.ref a1), (.ref a0_)])) _
    refine XS.aconstNull X0.here hx rfl (hb hby own_d2_5) ?_
    show Steps p.tables e below (s₁.setTop (mkF m 6 #[.val (.ref a0_), .val (.ref a1)] [.null, (.int (0 : Int32)), (.int (0 : Int32)), (.ref a1), (.ref a0_)])) _
    exact q)
  obtain ⟨_, _, ⟨T3, L3, kk3, n3⟩, -, X3, hSs3, hgr3, ⟨Lc3, hQ3, l3, y3, z3, hC3⟩, st3⟩ := X0.specialBackS hx (y := (⟨"java/lang/String", "<init>", "([CIILjava/lang/Void;)V"⟩ : MethodName)) rfl hown (mvT hZ (hw _ (List.mem_of_getElem? (i := 11) rfl))) (mvT hZ (hw _ (List.mem_of_getElem? (i := 12) rfl))) (mvT hZ (hw _ (List.mem_of_getElem? (i := 14) rfl))) (by decide) (backOfSH (s := s) (vm0 := s.vm) (W := 0) (rmI0 l Z a0 hw [] a0_ a1 h0 n0 Z0 F_value F_coder E_ g_ hEL) hZ (hw _ (List.mem_of_getElem? (i := 14) rfl)) (hw _ (List.mem_of_getElem? (i := 6) rfl)) (by decide) (by decide) hEL hCH) (g := (mkF m 6 #[.val (.ref a0_), .val (.ref a1)] [.null, (.int (0 : Int32)), (.int (0 : Int32)), (.ref a1), (.ref a0_)])) rfl (by rw [hml]; rfl) (Steps.refl _) (a := a0_) (argsL := [(.ref a1), (.int (0 : Int32)), (.int (0 : Int32)), .null]) (rest := []) (lenOf own_pd36 rfl) rfl (by show 2 * 0 + _ ≤ _; exact Nat.le_of_eq rfl) (hb hby own_d2_6) (fun _ _ => ⟨rfl, e0, (by decide : 0 + 4 ≤ _), (by decide : 0 + 8 ≤ _)⟩)
  dsimp only [Pt.U, Pt.locs, Pt.cells, Pt.slots] at X3 l3 y3 z3 st3 hQ3 hSs3 hgr3 hC3
  subst l3 y3 z3
  have X3 := own_again X3
  have hSn3 := foldS (State.WarmedH.since (State.WarmedH.refl s) 0) (by rw [e0]; exact (Nat.zero_le _)) hSs3 hgr3
  have hZn3 : Z.Warmed39 (s.setVm T3.vm).vm := State.Warmed39.trans (t := s.setVm s.vm) hZ hSs3.1
  have hon3 : (s.setVm T3.vm).vm.findClass "java/lang/String" = some m.cls := by rw [show (s.setVm T3.vm).vm = T3.vm from rfl, hSs3.1.alike.findClass]; exact hown
  have hZ := hZn3
  have hown := hon3
  have CRl3 := CR0.trans hC3
  have CHl3 := CRl3.1
  have Sf3_a0_ := hC3.safe (E_.lt) Sf0_a0_
  obtain ⟨rb3, kb3, rfl, N3q, K3, E3, Fc3, Fv3, V3⟩ := hQ3
  have N3 := Fr.app N0 N3q
  have K4 : Keep h0 T3.heap [a0_] := ((Keep.refl h0 [a0_]).trans K3 (allS (P := fun x => x ∈ ([a0_] : List Addr) ∨ h0.size ≤ x) (Or.inl (List.mem_of_getElem? (i := 0) rfl)) all0))
  have k5 : own_To p e below T3 (mkF m 9 #[.val (.ref a0_), .val (.ref a1)] []) s₁ (mkF m 0 #[.val (.ref a0_), .val (.ref a1)] []) := fun t q => k2 t (by
    refine st3.trans ?_
    show Steps p.tables e below (T3.setTop (mkF m 9 #[.val (.ref a0_), .val (.ref a1)] [])) _
    exact q)
  have hCe := CRl3.trans (CHv.at (vm0 := T3.vm) X3 hZ hEL CHl3)
  obtain ⟨fs, hr, hrun, hended, hEnd⟩ := Stand.leaveW (s := s) (vm₁ := T3.vm) X3 hSn3 (by exact (Nat.le_refl _)) (v := none) (fun _ => rfl)
  refine ⟨_, _, k0 _ (k5 _ ?_), hrun, hended, _, _, rfl, ?_, ?_, hEnd.1, hEnd.2.1, hEnd.2.2.1, hEnd.2.2.2.mono (by decide) (by decide)⟩
  · show Steps p.tables e below (T3.setTop (mkF m 9 #[.val (.ref a0_), .val (.ref a1)] [])) _
    exact X3.returnOut hx Bd.returns (hb hby own_d2_9) hr
  · show QJ0 Z a0_ a1 kc_ h0 n0 _ T3.heap _
    exact ⟨rb3, kb3, rfl, N3, K4, E3, Fc3, Fv3, V3⟩
  · show CHr Z own_EL s.vm s.heap T3.vm T3.heap
    rw [hh]; exact hCe
theorem own_efJ2 (m : MethodId) (x0 : Addr) (x1 : Addr) : entryFrame m #[(.ref x0), (.ref x1)] 2 = mkF m 0 #[.val (.ref x0), .val (.ref x1)] [] := by first | (simp [entryFrame, mkF, argsToLocals, Value.category]; done) | rfl
def QJ2 (Z : State) (a0_ : Addr) (a1 : Addr) (kc_ : ClassId) (x0 : Int32) (x1 : Int32) (cs : Int32) (h0 : Heap) (n0 : Nat) (v : Option Value) (h : Heap) (L : List Loc) : Prop := ∃ (b : Addr) (kb : ClassId), v = none ∧ Fr n0 L ∧ Keep h0 h [a0_] ∧ Exa Z h a0_ "java/lang/String" ∧ Fld Z h a0_ "java/lang/String" "coder" "B" (.int (0 : Int32)) ∧ Fld Z h a0_ "java/lang/String" "value" "[B" (.ref b) ∧ Arv Z h b kb .byte (2 : Int32) [(.int (own_by x0)), (.int (own_by x1))] (.int (0 : Int32))
set_option maxRecDepth 65536 in
set_option maxHeartbeats 40000000 in
theorem rmJ2 (l : Launch) (Z : State) (a0 : Array Value) (hw : ∀ d ∈ tables_1, d.before a0 Z = true) (ws : List Jvm.Cond) (a0_ : Addr) (a1 : Addr) (kc_ : ClassId) (x0 : Int32) (x1 : Int32) (cs : Int32) (h0 : Heap) (n0 : Nat) (Z0 : n0 ≤ h0.size) (F_value : Fld Z h0 a0_ "java/lang/String" "value" "[B" .null) (F_coder : Fld Z h0 a0_ "java/lang/String" "coder" "B" (.int (0 : Int32))) (E_ : Exa Z h0 a0_ "java/lang/String") (g_ : n0 ≤ a0_) (V0 : Arv Z h0 a1 kc_ .char (2 : Int32) [(.int x0), (.int x1)] (.int (0 : Int32))) (hx0 : ¬ (255 : Int32) < x0) (hx1 : ¬ (255 : Int32) < x1) (SC : Sta Z Z.heap "java/lang/String" "COMPACT_STRINGS" "Z" (.int cs)) (hcs : ¬ cs = (0 : Int32)) (O0 : Old Z n0 h0) :
    MetFree l (⟨"java/lang/String", "<init>", "([C)V"⟩ : MethodName) (head1 (Jvm.Cond.code (⟨"java/lang/String", "<init>", "([C)V"⟩ : MethodName) jdk_42_method_3_code 2 none :: ws) ({ frames := 3, cells := 1, slots := 2, locals := 52 } : Room)) (fun a U => a = #[(.ref a0_), (.ref a1)] ∧ Z.Warmed39 U.vm ∧ U.heap = h0) (fun _ _ _ _ _ => True) (fun _ U o U' => ∃ v L, o = .returned v ∧ QJ2 Z a0_ a1 kc_ x0 x1 cs h0 n0 v U'.heap L ∧ FrameEnd U o U' L ({ frames := 3, cells := 1, slots := 2, locals := 52 } : Room).cells ({ frames := 3, cells := 1, slots := 2, locals := 52 } : Room).slots) := by
  refine MetFree.of_bodySF (plainFor_of_name own_pn2) hisR ?_
  intro p e s m args below meth c s₁ Bd hml0 hP hK
  obtain ⟨rfl, hZ, hh⟩ := hP
  have hx := Bd.exec
  have hby := Bd.bytes
  have hml : c.maxLocals = 2 := hml0
  have hown : s.vm.findClass "java/lang/String" = some m.cls := findClass_of_methodNamed Bd.named
  have hnm := (name_of_methodNamed Bd.named Bd.method).1
  have X0 : Stand p l e ({ frames := 3, cells := 1, slots := 2, locals := 52 } : Room) s m #[(.ref a0_), (.ref a1)] below meth c s₁ [] 0 0 := Stand.of_body Bd
  have e0 : s₁.heap = h0 := by rw [← hh, Bd.state]; rfl
  have N0 := Fr.nil n0
  have k0 : own_To p e below s₁ (mkF m 0 #[.val (.ref a0_), .val (.ref a1)] []) s₁ (entryFrame m #[(.ref a0_), (.ref a1)] 2) := fun t k => castTop (own_efJ2 m a0_ a1) k
  have ki : own_To p e below s₁ (mkF m 0 #[.val (.ref a0_), .val (.ref a1)] []) s₁ (mkF m 0 #[.val (.ref a0_), .val (.ref a1)] []) := fun t q => q
  obtain ⟨clr1, Arr1, qr1, Sr1, Mr1, Hhr1, Gr1⟩ := id V0
  obtain ⟨_, _, ⟨T2, L2, kk2, n2⟩, -, X2, ⟨Lc2, hQ2, l2, y2, z2⟩, st2⟩ := X0.specialBack hx (y := (⟨"java/lang/String", "<init>", "([CIILjava/lang/Void;)V"⟩ : MethodName)) rfl hown (mvT hZ (hw _ (List.mem_of_getElem? (i := 11) rfl))) (mvT hZ (hw _ (List.mem_of_getElem? (i := 12) rfl))) (mvT hZ (hw _ (List.mem_of_getElem? (i := 14) rfl))) (by decide) (backOf (W := 0) (rmI2 l Z a0 hw [] a0_ a1 kc_ x0 x1 cs h0 n0 Z0 F_value F_coder E_ g_ V0 hx0 hx1 SC hcs O0) hZ (hw _ (List.mem_of_getElem? (i := 14) rfl)) (hw _ (List.mem_of_getElem? (i := 6) rfl)) (by decide) (by decide)) (g := (mkF m 6 #[.val (.ref a0_), .val (.ref a1)] [.null, (.int (2 : Int32)), (.int (0 : Int32)), (.ref a1), (.ref a0_)])) rfl (by rw [hml]; rfl) (Steps.refl _) (a := a0_) (argsL := [(.ref a1), (.int (0 : Int32)), (.int (2 : Int32)), .null]) (rest := []) (lenOf own_pd36 rfl) rfl (by show 2 * 0 + _ ≤ _; exact Nat.le_of_eq rfl) (hb hby own_d2_6) (fun _ _ => ⟨rfl, e0, (by decide : 0 + 1 ≤ _), (by decide : 0 + 2 ≤ _)⟩)
  dsimp only [Pt.U, Pt.locs, Pt.cells, Pt.slots] at X2 l2 y2 z2 st2 hQ2
  subst l2 y2 z2
  obtain ⟨rb2, kb2, rfl, N2q, K2, E2, Fc2, Fv2, V2⟩ := hQ2
  have N2 := Fr.app N0 N2q
  have K3 : Keep h0 T2.heap [a0_] := ((Keep.refl h0 [a0_]).trans K2 (allS (P := fun x => x ∈ ([a0_] : List Addr) ∨ h0.size ≤ x) (Or.inl (List.mem_of_getElem? (i := 0) rfl)) all0))
  have k4 : own_To p e below T2 (mkF m 9 #[.val (.ref a0_), .val (.ref a1)] []) s₁ (mkF m 0 #[.val (.ref a0_), .val (.ref a1)] []) := fun t q => ki t (by
    refine XS.aloadN X0.here hx rfl (hb hby own_d2_0) rfl rfl ?_
    show Steps p.tables e below (s₁.setTop (mkF m 1 #[.val (.ref a0_), .val (.ref a1)] [(.ref a0_)])) _
    refine XS.aloadN X0.here hx rfl (hb hby own_d2_1) rfl rfl ?_
    show Steps p.tables e below (s₁.setTop (mkF m 2 #[.val (.ref a0_), .val (.ref a1)] [(.ref a1), (.ref a0_)])) _
    refine XS.iconst X0.here hx rfl (hb hby own_d2_2) ?_
    show Steps p.tables e below (s₁.setTop (mkF m 3 #[.val (.ref a0_), .val (.ref a1)] [(.int (0 : Int32)), (.ref a1), (.ref a0_)])) _
    refine XS.aloadN X0.here hx rfl (hb hby own_d2_3) rfl rfl ?_
    show Steps p.tables e below (s₁.setTop (mkF m 4 #[.val (.ref a0_), .val (.ref a1)] [(.ref a1), (.int (0 : Int32)), (.ref a1), (.ref a0_)])) _
    refine X0.arraylength hx (by rw [e0]; exact Arr1.1) (State.isArrayOf_alike hZ.alike Arr1.2.1) (g := (mkF m 4 #[.val (.ref a0_), .val (.ref a1)] [(.ref a1), (.int (0 : Int32)), (.ref a1), (.ref a0_)])) rfl rfl (hb hby own_d2_4) _ ?_
    rw [len_of Sr1 Mr1]
    show Steps p.tables e below (s₁.setTop (mkF m 5 #[.val (.ref a0_), .val (.ref a1)] [(.int (2 : Int32)), (.int (0 : Int32)), (.ref a1), (.ref a0_)])) _
    refine XS.aconstNull X0.here hx rfl (hb hby own_d2_5) ?_
    show Steps p.tables e below (s₁.setTop (mkF m 6 #[.val (.ref a0_), .val (.ref a1)] [.null, (.int (2 : Int32)), (.int (0 : Int32)), (.ref a1), (.ref a0_)])) _
    refine st2.trans ?_
    show Steps p.tables e below (T2.setTop (mkF m 9 #[.val (.ref a0_), .val (.ref a1)] [])) _
    exact q)
  obtain ⟨fs, hr, hrun, hended, hW, hsame⟩ := X2.leave (v := none) (fun _ => rfl)
  refine ⟨_, _, k0 _ (k4 _ ?_), hrun, hended, _, _, rfl, ?_, ⟨_, rfl⟩, hW, hsame.mono (by decide) (by decide)⟩
  · show Steps p.tables e below (T2.setTop (mkF m 9 #[.val (.ref a0_), .val (.ref a1)] [])) _
    exact X2.returnOut hx Bd.returns (hb hby own_d2_9) hr
  · show QJ2 Z a0_ a1 kc_ x0 x1 cs h0 n0 _ T2.heap _
    exact ⟨rb2, kb2, rfl, N2, K3, E2, Fc2, Fv2, V2⟩
theorem own_d42_0 : decode jdk_43_method_3_code 0 = .ok (.iload_n 0, 1) := by decide +kernel
theorem own_d42_1 : decode jdk_43_method_3_code 1 = .ok (.sipush 255, 3) := by decide +kernel
theorem own_d42_4 : decode jdk_43_method_3_code 4 = .ok (.if_icmp .gt 7, 3) := by decide +kernel
theorem own_d42_7 : decode jdk_43_method_3_code 7 = .ok (.iconst 1, 1) := by decide +kernel
theorem own_d42_8 : decode jdk_43_method_3_code 8 = .ok (.goto 4, 3) := by decide +kernel
theorem own_d42_12 : decode jdk_43_method_3_code 12 = .ok (.ireturn, 1) := by decide +kernel
theorem own_pn42 : plainName "java/lang/StringLatin1" = true := by first | (simp [plainName, overriddenIn]; done) | decide +kernel
theorem own_ef42 (m : MethodId) (x0 : Int32) : entryFrame m #[(.int x0)] 1 = mkF m 0 #[.val (.int x0)] [] := by first | (simp [entryFrame, mkF, argsToLocals, Value.category]; done) | rfl
def Q42 (Z : State) (p0 : Int32) (h0 : Heap) (n0 : Nat) (v : Option Value) (h : Heap) (L : List Loc) : Prop := v = some (.int (1 : Int32)) ∧ Fr n0 L ∧ h = h0
set_option maxRecDepth 65536 in
set_option maxHeartbeats 40000000 in
theorem rm42 (l : Launch) (Z : State) (a0 : Array Value) (hw : ∀ d ∈ tables_1, d.before a0 Z = true) (ws : List Jvm.Cond) (p0 : Int32) (h0 : Heap) (n0 : Nat) (Z0 : n0 ≤ h0.size) (hp : ¬ (255 : Int32) < p0) :
    MetFree l (⟨"java/lang/StringLatin1", "canEncode", "(C)Z"⟩ : MethodName) (head1 (Jvm.Cond.code (⟨"java/lang/StringLatin1", "canEncode", "(C)Z"⟩ : MethodName) jdk_43_method_3_code 1 (some .boolean) :: ws) ({ frames := 0, cells := 0, slots := 0, locals := 0 } : Room)) (fun a U => a = #[(.int p0)] ∧ Z.Warmed39 U.vm ∧ U.heap = h0) (fun _ _ _ _ _ => True) (fun _ U o U' => ∃ v L, o = .returned v ∧ Q42 Z p0 h0 n0 v U'.heap L ∧ FrameEnd U o U' L ({ frames := 0, cells := 0, slots := 0, locals := 0 } : Room).cells ({ frames := 0, cells := 0, slots := 0, locals := 0 } : Room).slots) := by
  refine MetFree.of_bodySF (plainFor_of_name own_pn42) hisR ?_
  intro p e s m args below meth c s₁ Bd hml0 hP hK
  obtain ⟨rfl, hZ, hh⟩ := hP
  have hx := Bd.exec
  have hby := Bd.bytes
  have hml : c.maxLocals = 1 := hml0
  have hown : s.vm.findClass "java/lang/StringLatin1" = some m.cls := findClass_of_methodNamed Bd.named
  have hnm := (name_of_methodNamed Bd.named Bd.method).1
  have X0 : Stand p l e ({ frames := 0, cells := 0, slots := 0, locals := 0 } : Room) s m #[(.int p0)] below meth c s₁ [] 0 0 := Stand.of_body Bd
  have e0 : s₁.heap = h0 := by rw [← hh, Bd.state]; rfl
  have N0 := Fr.nil n0
  have k0 : own_To p e below s₁ (mkF m 0 #[.val (.int p0)] []) s₁ (entryFrame m #[(.int p0)] 1) := fun t k => castTop (own_ef42 m p0) k
  have ki : own_To p e below s₁ (mkF m 0 #[.val (.int p0)] []) s₁ (mkF m 0 #[.val (.int p0)] []) := fun t q => q
  have k1 : own_To p e below s₁ (mkF m 12 #[.val (.int p0)] [(.int (1 : Int32))]) s₁ (mkF m 0 #[.val (.int p0)] []) := fun t q => ki t (by
    refine XS.iloadN X0.here hx rfl (hb hby own_d42_0) rfl ?_
    show Steps p.tables e below (s₁.setTop (mkF m 1 #[.val (.int p0)] [(.int p0)])) _
    refine XS.sipush X0.here hx rfl (hb hby own_d42_1) ?_
    show Steps p.tables e below (s₁.setTop (mkF m 4 #[.val (.int p0)] [(.int (255 : Int32)), (.int p0)])) _
    refine XS.icmpNo X0.here hx rfl (hb hby own_d42_4) rfl (flt hp).2.2.1 ?_
    show Steps p.tables e below (s₁.setTop (mkF m 7 #[.val (.int p0)] [])) _
    refine XS.iconst X0.here hx rfl (hb hby own_d42_7) ?_
    show Steps p.tables e below (s₁.setTop (mkF m 8 #[.val (.int p0)] [(.int (1 : Int32))])) _
    refine XS.goto X0.here hx rfl (pc0 := 8) (pc' := 12) rfl (hb hby own_d42_8) (by decide) (by decide) ?_
    show Steps p.tables e below (s₁.setTop (mkF m 12 #[.val (.int p0)] [(.int (1 : Int32))])) _
    exact q)
  obtain ⟨fs, hr, hrun, hended, hW, hsame⟩ := X0.leave (v := some (.int (1 : Int32))) (fun h => by rw [Bd.returns] at h; cases h)
  refine ⟨_, _, k0 _ (k1 _ ?_), hrun, hended, _, _, rfl, ?_, ⟨_, rfl⟩, hW, hsame.mono (by decide) (by decide)⟩
  · show Steps p.tables e below (s₁.setTop (mkF m 12 #[.val (.int p0)] [(.int (1 : Int32))])) _
    exact retN X0 hx (t := .boolean) Bd.returns (by simp) (hb hby own_d42_12) hr
  · show Q42 Z p0 h0 n0 _ s₁.heap _
    rw [e0]
    exact ⟨rfl, N0, rfl⟩
theorem own_d43_0 : decode jdk_43_method_46_code 0 = .ok (.iconst 1, 1) := by decide +kernel
theorem own_d43_1 : decode jdk_43_method_46_code 1 = .ok (.newarray .byte, 2) := by decide +kernel
theorem own_d43_3 : decode jdk_43_method_46_code 3 = .ok (.dup, 1) := by decide +kernel
theorem own_d43_4 : decode jdk_43_method_46_code 4 = .ok (.iconst 0, 1) := by decide +kernel
theorem own_d43_5 : decode jdk_43_method_46_code 5 = .ok (.iload_n 0, 1) := by decide +kernel
theorem own_d43_6 : decode jdk_43_method_46_code 6 = .ok (.i2b, 1) := by decide +kernel
theorem own_d43_7 : decode jdk_43_method_46_code 7 = .ok (.bastore, 1) := by decide +kernel
theorem own_d43_8 : decode jdk_43_method_46_code 8 = .ok (.areturn, 1) := by decide +kernel
theorem own_pn43 : plainName "java/lang/StringLatin1" = true := by first | (simp [plainName, overriddenIn]; done) | decide +kernel
theorem own_ef43 (m : MethodId) (x0 : Int32) : entryFrame m #[(.int x0)] 1 = mkF m 0 #[.val (.int x0)] [] := by first | (simp [entryFrame, mkF, argsToLocals, Value.category]; done) | rfl
def Q43 (Z : State) (p0 : Int32) (h0 : Heap) (n0 : Nat) (v : Option Value) (h : Heap) (L : List Loc) : Prop := ∃ (b : Addr) (kb : ClassId), v = some (.ref b) ∧ Fr n0 L ∧ Keep h0 h [] ∧ h0.size ≤ b ∧ Arv Z h b kb .byte (1 : Int32) [.int (own_by p0)] (.int (0 : Int32))
set_option maxRecDepth 65536 in
set_option maxHeartbeats 40000000 in
theorem rm43 (l : Launch) (Z : State) (a0 : Array Value) (hw : ∀ d ∈ tables_1, d.before a0 Z = true) (ws : List Jvm.Cond) (p0 : Int32) (h0 : Heap) (n0 : Nat) (Z0 : n0 ≤ h0.size) :
    MetFree l (⟨"java/lang/StringLatin1", "toBytes", "(C)[B"⟩ : MethodName) (head1 (Jvm.Cond.code (⟨"java/lang/StringLatin1", "toBytes", "(C)[B"⟩ : MethodName) jdk_43_method_46_code 1 (some (.array .byte)) :: ws) ({ frames := 0, cells := 1, slots := 1, locals := 0 } : Room)) (fun a U => a = #[(.int p0)] ∧ Z.Warmed39 U.vm ∧ U.heap = h0) (fun _ _ _ _ _ => True) (fun _ U o U' => ∃ v L, o = .returned v ∧ Q43 Z p0 h0 n0 v U'.heap L ∧ FrameEnd U o U' L ({ frames := 0, cells := 1, slots := 1, locals := 0 } : Room).cells ({ frames := 0, cells := 1, slots := 1, locals := 0 } : Room).slots) := by
  refine MetFree.of_bodySF (plainFor_of_name own_pn43) hisR ?_
  intro p e s m args below meth c s₁ Bd hml0 hP hK
  obtain ⟨rfl, hZ, hh⟩ := hP
  have hx := Bd.exec
  have hby := Bd.bytes
  have hml : c.maxLocals = 1 := hml0
  have hown : s.vm.findClass "java/lang/StringLatin1" = some m.cls := findClass_of_methodNamed Bd.named
  have hnm := (name_of_methodNamed Bd.named Bd.method).1
  have X0 : Stand p l e ({ frames := 0, cells := 1, slots := 1, locals := 0 } : Room) s m #[(.int p0)] below meth c s₁ [] 0 0 := Stand.of_body Bd
  have e0 : s₁.heap = h0 := by rw [← hh, Bd.state]; rfl
  have N0 := Fr.nil n0
  have k0 : own_To p e below s₁ (mkF m 0 #[.val (.int p0)] []) s₁ (entryFrame m #[(.int p0)] 1) := fun t k => castTop (own_ef43 m p0) k
  have ki : own_To p e below s₁ (mkF m 0 #[.val (.int p0)] []) s₁ (mkF m 0 #[.val (.int p0)] []) := fun t q => q
  obtain ⟨T1, h1, kk1, X1, e1, E1, A1, st1⟩ := newP X0 hx hZ (hw _ (List.mem_of_getElem? (i := 19) rfl)) e0 (g := (mkF m 1 #[.val (.int p0)] [(.int (1 : Int32))])) rfl (hb hby own_d43_1) rfl (by decide) (cap := 1) (by decide) (by decide) (by decide) (by decide)
  obtain ⟨b1, g1⟩ : ∃ z, z = h0.size := ⟨_, rfl⟩
  rw [← g1] at A1 st1
  have ge_b1 : n0 ≤ b1 := Nat.le_trans Z0 (Nat.le_of_eq g1.symm)
  have K2 : Keep h0 h0 [] := (Keep.refl h0 [])
  have sz_b1 : h0.size ≤ b1 := Nat.le_trans K2.1 (Nat.le_of_eq g1.symm)
  have V1 : Arv Z h1 b1 kk1 .byte (1 : Int32) [(.int (0 : Int32))] (.int (0 : Int32)) := (Arv.new A1 (by decide)).pad (pad_rep [] (.int (0 : Int32)) 1)
  obtain ⟨clr3, Arr3, qr3, Sr3, Mr3, Hhr3, Gr3⟩ := id V1
  have hinr3 : ¬ ((0 : Int32) < 0 ∨ clr3.slots.size ≤ ((0 : Int32)).toNatClampNeg) := inb_of Sr3 ⟨by decide, by decide⟩
  obtain ⟨T4, h4, X4, e4, W4, st4⟩ := stB X1 hx hZ e1 Arr3 (j := (0 : Int32)) hinr3 (g := (mkF m 7 #[.val (.int p0)] [(.int (p0.toInt8.toInt32)), (.int (0 : Int32)), (.ref b1), (.ref b1)])) rfl rfl (hb hby own_d43_7)
  have N4 := Fr.snoc X4 N0 ge_b1
  obtain ⟨Lf4, Nf4, Xf4⟩ := own_fold X4 N4
  have V4 : Arv Z h4 b1 kk1 .byte (1 : Int32) [(.int (nar .byte (p0.toInt8.toInt32)))] (.int (0 : Int32)) := Arv.set Arr3 qr3 Sr3 Mr3 Hhr3 Gr3 (fits_nar_byte _) W4 0 rfl (Nat.le_of_ble_eq_true rfl)
  have K5 : Keep h0 h4 [] := ((K2.ext E1).wr W4 (Or.inr sz_b1))
  have k6 : own_To p e below T4 (mkF m 8 #[.val (.int p0)] [(.ref b1)]) s₁ (mkF m 0 #[.val (.int p0)] []) := fun t q => ki t (by
    refine XS.iconst X0.here hx rfl (hb hby own_d43_0) ?_
    show Steps p.tables e below (s₁.setTop (mkF m 1 #[.val (.int p0)] [(.int (1 : Int32))])) _
    refine st1 _ ?_
    show Steps p.tables e below (T1.setTop (mkF m 3 #[.val (.int p0)] [(.ref b1)])) _
    refine XS.dup X1.here hx rfl (hb hby own_d43_3) rfl rfl ?_
    show Steps p.tables e below (T1.setTop (mkF m 4 #[.val (.int p0)] [(.ref b1), (.ref b1)])) _
    refine XS.iconst X1.here hx rfl (hb hby own_d43_4) ?_
    show Steps p.tables e below (T1.setTop (mkF m 5 #[.val (.int p0)] [(.int (0 : Int32)), (.ref b1), (.ref b1)])) _
    refine XS.iloadN X1.here hx rfl (hb hby own_d43_5) rfl ?_
    show Steps p.tables e below (T1.setTop (mkF m 6 #[.val (.int p0)] [(.int p0), (.int (0 : Int32)), (.ref b1), (.ref b1)])) _
    refine XS.i2b X1.here hx rfl (hb hby own_d43_6) rfl ?_
    show Steps p.tables e below (T1.setTop (mkF m 7 #[.val (.int p0)] [(.int (p0.toInt8.toInt32)), (.int (0 : Int32)), (.ref b1), (.ref b1)])) _
    refine st4 _ ?_
    show Steps p.tables e below (T4.setTop (mkF m 8 #[.val (.int p0)] [(.ref b1)])) _
    exact q)
  obtain ⟨fs, hr, hrun, hended, hW, hsame⟩ := Xf4.leave (v := some (.ref b1)) (fun h => by rw [Bd.returns] at h; cases h)
  refine ⟨_, _, k0 _ (k6 _ ?_), hrun, hended, _, _, rfl, ?_, ⟨_, rfl⟩, hW, hsame.mono (by decide) (by decide)⟩
  · show Steps p.tables e below (T4.setTop (mkF m 8 #[.val (.int p0)] [(.ref b1)])) _
    exact retOut Xf4 hx Bd.returns rfl (Or.inr (Or.inr (Or.inr (Or.inr ⟨rfl, rfl, rfl⟩)))) (hb hby own_d43_8) hr
  · show Q43 Z p0 h0 n0 _ T4.heap _
    rw [e4]
    exact ⟨b1, kk1, rfl, Nf4, K5, sz_b1, V4⟩
theorem own_d44_0 : decode jdk_42_method_151_code 0 = .ok (.aload_n 0, 1) := by decide +kernel
theorem own_d44_1 : decode jdk_42_method_151_code 1 = .ok (.invokespecial 1, 3) := by decide +kernel
theorem own_d44_4 : decode jdk_42_method_151_code 4 = .ok (.aload_n 0, 1) := by decide +kernel
theorem own_d44_5 : decode jdk_42_method_151_code 5 = .ok (.aload_n 1, 1) := by decide +kernel
theorem own_d44_6 : decode jdk_42_method_151_code 6 = .ok (.putfield 9, 3) := by decide +kernel
theorem own_d44_9 : decode jdk_42_method_151_code 9 = .ok (.aload_n 0, 1) := by decide +kernel
theorem own_d44_10 : decode jdk_42_method_151_code 10 = .ok (.iload_n 2, 1) := by decide +kernel
theorem own_d44_11 : decode jdk_42_method_151_code 11 = .ok (.putfield 15, 3) := by decide +kernel
theorem own_d44_14 : decode jdk_42_method_151_code 14 = .ok (.return_, 1) := by decide +kernel
theorem own_pn44 : plainName "java/lang/String" = true := by first | (simp [plainName, overriddenIn]; done) | decide +kernel
theorem own_ef44 (m : MethodId) (x0 : Addr) (x1 : Addr) : entryFrame m #[(.ref x0), (.ref x1), (.int (0 : Int32))] 3 = mkF m 0 #[.val (.ref x0), .val (.ref x1), .val (.int (0 : Int32))] [] := by first | (simp [entryFrame, mkF, argsToLocals, Value.category]; done) | rfl
def Q44 (Z : State) (a0_ : Addr) (a1 : Addr) (h0 : Heap) (n0 : Nat) (v : Option Value) (h : Heap) (L : List Loc) : Prop := v = none ∧ Fr n0 L ∧ Keep h0 h [a0_] ∧ Exa Z h a0_ "java/lang/String" ∧ Fld Z h a0_ "java/lang/String" "coder" "B" (.int (0 : Int32)) ∧ Fld Z h a0_ "java/lang/String" "value" "[B" (.ref a1)
set_option maxRecDepth 65536 in
set_option maxHeartbeats 40000000 in
theorem rm44 (l : Launch) (Z : State) (a0 : Array Value) (hw : ∀ d ∈ tables_1, d.before a0 Z = true) (ws : List Jvm.Cond) (a0_ : Addr) (a1 : Addr) (h0 : Heap) (n0 : Nat) (Z0 : n0 ≤ h0.size) (F_value : Fld Z h0 a0_ "java/lang/String" "value" "[B" .null) (F_coder : Fld Z h0 a0_ "java/lang/String" "coder" "B" (.int (0 : Int32))) (E_ : Exa Z h0 a0_ "java/lang/String") (g_ : n0 ≤ a0_) :
    MetFree l (⟨"java/lang/String", "<init>", "([BB)V"⟩ : MethodName) (head1 (Jvm.Cond.code (⟨"java/lang/String", "<init>", "([BB)V"⟩ : MethodName) jdk_42_method_151_code 3 none :: ws) ({ frames := 1, cells := 0, slots := 0, locals := 12 } : Room)) (fun a U => a = #[(.ref a0_), (.ref a1), (.int (0 : Int32))] ∧ Z.Warmed39 U.vm ∧ U.heap = h0) (fun _ _ _ _ _ => True) (fun _ U o U' => ∃ v L, o = .returned v ∧ Q44 Z a0_ a1 h0 n0 v U'.heap L ∧ FrameEnd U o U' L ({ frames := 1, cells := 0, slots := 0, locals := 12 } : Room).cells ({ frames := 1, cells := 0, slots := 0, locals := 12 } : Room).slots) := by
  refine MetFree.of_bodySF (plainFor_of_name own_pn44) hisR ?_
  intro p e s m args below meth c s₁ Bd hml0 hP hK
  obtain ⟨rfl, hZ, hh⟩ := hP
  have hx := Bd.exec
  have hby := Bd.bytes
  have hml : c.maxLocals = 3 := hml0
  have hown : s.vm.findClass "java/lang/String" = some m.cls := findClass_of_methodNamed Bd.named
  have hnm := (name_of_methodNamed Bd.named Bd.method).1
  have X0 : Stand p l e ({ frames := 1, cells := 0, slots := 0, locals := 12 } : Room) s m #[(.ref a0_), (.ref a1), (.int (0 : Int32))] below meth c s₁ [] 0 0 := Stand.of_body Bd
  have e0 : s₁.heap = h0 := by rw [← hh, Bd.state]; rfl
  have N0 := Fr.nil n0
  have k0 : own_To p e below s₁ (mkF m 0 #[.val (.ref a0_), .val (.ref a1), .val (.int (0 : Int32))] []) s₁ (entryFrame m #[(.ref a0_), (.ref a1), (.int (0 : Int32))] 3) := fun t k => castTop (own_ef44 m a0_ a1) k
  have ki : own_To p e below s₁ (mkF m 0 #[.val (.ref a0_), .val (.ref a1), .val (.int (0 : Int32))] []) s₁ (mkF m 0 #[.val (.ref a0_), .val (.ref a1), .val (.int (0 : Int32))] []) := fun t q => q
  obtain ⟨T1, X1, e1, st1⟩ := initO X0 hx hZ hown (hw _ (List.mem_of_getElem? (i := 15) rfl)) (hw _ (List.mem_of_getElem? (i := 16) rfl)) (hw _ (List.mem_of_getElem? (i := 17) rfl)) e0 (g := (mkF m 1 #[.val (.ref a0_), .val (.ref a1), .val (.int (0 : Int32))] [(.ref a0_)])) rfl (by rw [hml]; rfl) rfl (hb hby own_d44_1) (by decide) (W := 0) (by show 2 * 0 + _ ≤ _; exact Nat.le_of_eq rfl) (by decide)
  obtain ⟨T2, h2, X2, e2, W2, st2⟩ := putF X1 hx hZ hown (host := "") (Or.inl (hw _ (List.mem_of_getElem? (i := 24) rfl))) Via.refl e1 F_value E_ (Or.inr ⟨(hw _ (List.mem_of_getElem? (i := 20) rfl)), rfl, hnm⟩) (hw _ (List.mem_of_getElem? (i := 5) rfl)) (ty := (.array .byte)) (by decide) rfl rfl (g := (mkF m 6 #[.val (.ref a0_), .val (.ref a1), .val (.int (0 : Int32))] [(.ref a1), (.ref a0_)])) rfl rfl (hb hby own_d44_6)
  have N2 := Fr.snoc X2 N0 g_
  obtain ⟨Lf2, Nf2, Xf2⟩ := own_fold X2 N2
  have Fw2 := F_value.same W2
  have F3 := (F_coder.other W2 (Or.inr (slot_ne (Or.inr (hw _ (List.mem_of_getElem? (i := 21) rfl))) (Or.inr (hw _ (List.mem_of_getElem? (i := 20) rfl))) (by decide) (t := .byte) (t' := (.array .byte)) (by decide) (by decide))))
  have F4 := (E_.wr W2)
  obtain ⟨T5, h5, X5, e5, W5, st5⟩ := putFN Xf2 hx hZ hown (hw _ (List.mem_of_getElem? (i := 25) rfl)) Via.refl e2 F3 F4 (Or.inr ⟨(hw _ (List.mem_of_getElem? (i := 21) rfl)), rfl, hnm⟩) (hw _ (List.mem_of_getElem? (i := 5) rfl)) (ty := .byte) (v' := (.int (nar .byte (0 : Int32)))) (by decide) rfl (fits_nar_byte _) (g := (mkF m 11 #[.val (.ref a0_), .val (.ref a1), .val (.int (0 : Int32))] [(.int (0 : Int32)), (.ref a0_)])) rfl rfl (hb hby own_d44_11)
  have N5 := Fr.snoc X5 Nf2 g_
  obtain ⟨Lf5, Nf5, Xf5⟩ := own_fold X5 N5
  have Fw5 := F3.same W5
  have Fz6 : Fld Z h5 a0_ "java/lang/String" "coder" "B" (.int (0 : Int32)) := by have q := Fw5; rw [show nar .byte (0 : Int32) = 0 from by decide] at q; exact q
  have F7 := (F4.wr W5)
  have F8 := (Fw2.other W5 (Or.inr (slot_ne (Or.inr (hw _ (List.mem_of_getElem? (i := 20) rfl))) (Or.inr (hw _ (List.mem_of_getElem? (i := 21) rfl))) (by decide) (t := (.array .byte)) (t' := .byte) (by decide) (by decide))))
  have K9 : Keep h0 h5 [a0_] := (((Keep.refl h0 [a0_]).wr W2 (Or.inl (List.mem_of_getElem? (i := 0) rfl))).wr W5 (Or.inl (List.mem_of_getElem? (i := 0) rfl)))
  have k10 : own_To p e below T5 (mkF m 14 #[.val (.ref a0_), .val (.ref a1), .val (.int (0 : Int32))] []) s₁ (mkF m 0 #[.val (.ref a0_), .val (.ref a1), .val (.int (0 : Int32))] []) := fun t q => ki t (by
    refine XS.aloadN X0.here hx rfl (hb hby own_d44_0) rfl rfl ?_
    show Steps p.tables e below (s₁.setTop (mkF m 1 #[.val (.ref a0_), .val (.ref a1), .val (.int (0 : Int32))] [(.ref a0_)])) _
    refine st1 _ ?_
    show Steps p.tables e below (T1.setTop (mkF m 4 #[.val (.ref a0_), .val (.ref a1), .val (.int (0 : Int32))] [])) _
    refine XS.aloadN X1.here hx rfl (hb hby own_d44_4) rfl rfl ?_
    show Steps p.tables e below (T1.setTop (mkF m 5 #[.val (.ref a0_), .val (.ref a1), .val (.int (0 : Int32))] [(.ref a0_)])) _
    refine XS.aloadN X1.here hx rfl (hb hby own_d44_5) rfl rfl ?_
    show Steps p.tables e below (T1.setTop (mkF m 6 #[.val (.ref a0_), .val (.ref a1), .val (.int (0 : Int32))] [(.ref a1), (.ref a0_)])) _
    refine st2 _ ?_
    show Steps p.tables e below (T2.setTop (mkF m 9 #[.val (.ref a0_), .val (.ref a1), .val (.int (0 : Int32))] [])) _
    refine XS.aloadN Xf2.here hx rfl (hb hby own_d44_9) rfl rfl ?_
    show Steps p.tables e below (T2.setTop (mkF m 10 #[.val (.ref a0_), .val (.ref a1), .val (.int (0 : Int32))] [(.ref a0_)])) _
    refine XS.iloadN Xf2.here hx rfl (hb hby own_d44_10) rfl ?_
    show Steps p.tables e below (T2.setTop (mkF m 11 #[.val (.ref a0_), .val (.ref a1), .val (.int (0 : Int32))] [(.int (0 : Int32)), (.ref a0_)])) _
    refine st5 _ ?_
    show Steps p.tables e below (T5.setTop (mkF m 14 #[.val (.ref a0_), .val (.ref a1), .val (.int (0 : Int32))] [])) _
    exact q)
  obtain ⟨fs, hr, hrun, hended, hW, hsame⟩ := Xf5.leave (v := none) (fun _ => rfl)
  refine ⟨_, _, k0 _ (k10 _ ?_), hrun, hended, _, _, rfl, ?_, ⟨_, rfl⟩, hW, hsame.mono (by decide) (by decide)⟩
  · show Steps p.tables e below (T5.setTop (mkF m 14 #[.val (.ref a0_), .val (.ref a1), .val (.int (0 : Int32))] [])) _
    exact Xf5.returnOut hx Bd.returns (hb hby own_d44_14) hr
  · show Q44 Z a0_ a1 h0 n0 _ T5.heap _
    rw [e5]
    exact ⟨rfl, Nf5, K9, F7, Fz6, F8⟩
theorem own_pd8 : parseMethodDescriptor "(C)Z" = some ⟨[.char], some .boolean⟩ := by decide +kernel
theorem own_pd9 : parseMethodDescriptor "(C)[B" = some ⟨[.char], some (.array .byte)⟩ := by decide +kernel
theorem own_pd28 : parseMethodDescriptor "([BB)V" = some ⟨[(.array .byte), .byte], none⟩ := by decide +kernel
theorem own_d41_0 : decode jdk_42_method_139_code 0 = .ok (.getstatic 38, 3) := by decide +kernel
theorem own_d41_3 : decode jdk_42_method_139_code 3 = .ok (.ifCond .eq 23, 3) := by decide +kernel
theorem own_d41_6 : decode jdk_42_method_139_code 6 = .ok (.iload_n 0, 1) := by decide +kernel
theorem own_d41_7 : decode jdk_42_method_139_code 7 = .ok (.invokestatic 1015, 3) := by decide +kernel
theorem own_d41_10 : decode jdk_42_method_139_code 10 = .ok (.ifCond .eq 16, 3) := by decide +kernel
theorem own_d41_13 : decode jdk_42_method_139_code 13 = .ok (.new 10, 3) := by decide +kernel
theorem own_d41_16 : decode jdk_42_method_139_code 16 = .ok (.dup, 1) := by decide +kernel
theorem own_d41_17 : decode jdk_42_method_139_code 17 = .ok (.iload_n 0, 1) := by decide +kernel
theorem own_d41_18 : decode jdk_42_method_139_code 18 = .ok (.invokestatic 1018, 3) := by decide +kernel
theorem own_d41_21 : decode jdk_42_method_139_code 21 = .ok (.iconst 0, 1) := by decide +kernel
theorem own_d41_22 : decode jdk_42_method_139_code 22 = .ok (.invokespecial 209, 3) := by decide +kernel
theorem own_d41_25 : decode jdk_42_method_139_code 25 = .ok (.areturn, 1) := by decide +kernel
theorem own_pn41 : plainName "java/lang/String" = true := by first | (simp [plainName, overriddenIn]; done) | decide +kernel
theorem own_ef41 (m : MethodId) (x0 : Int32) : entryFrame m #[(.int x0)] 1 = mkF m 0 #[.val (.int x0)] [] := by first | (simp [entryFrame, mkF, argsToLocals, Value.category]; done) | rfl
def Q41 (Z : State) (p0 : Int32) (cs : Int32) (h0 : Heap) (n0 : Nat) (v : Option Value) (h : Heap) (L : List Loc) : Prop := ∃ (r b : Addr) (kb : ClassId), v = some (.ref r) ∧ Fr n0 L ∧ Keep h0 h [] ∧ Exa Z h r "java/lang/String" ∧ Fld Z h r "java/lang/String" "coder" "B" (.int (0 : Int32)) ∧ Fld Z h r "java/lang/String" "value" "[B" (.ref b) ∧ Arv Z h b kb .byte (1 : Int32) [.int (own_by p0)] (.int (0 : Int32))
set_option maxRecDepth 65536 in
set_option maxHeartbeats 40000000 in
theorem rm41 (l : Launch) (Z : State) (a0 : Array Value) (hw : ∀ d ∈ tables_1, d.before a0 Z = true) (ws : List Jvm.Cond) (p0 : Int32) (cs : Int32) (h0 : Heap) (n0 : Nat) (Z0 : n0 ≤ h0.size) (SC : Sta Z Z.heap "java/lang/String" "COMPACT_STRINGS" "Z" (.int cs)) (hcs : ¬ cs = (0 : Int32)) (O0 : Old Z n0 h0) (hp : ¬ (255 : Int32) < p0) :
    MetFree l (⟨"java/lang/String", "valueOf", "(C)Ljava/lang/String;"⟩ : MethodName) (head1 (Jvm.Cond.code (⟨"java/lang/String", "valueOf", "(C)Ljava/lang/String;"⟩ : MethodName) jdk_42_method_139_code 1 (some (.object "java/lang/String")) :: ws) ({ frames := 2, cells := 2, slots := 5, locals := 27 } : Room)) (fun a U => a = #[(.int p0)] ∧ Z.Warmed39 U.vm ∧ U.heap = h0) (fun _ _ _ _ _ => True) (fun _ U o U' => ∃ v L, o = .returned v ∧ Q41 Z p0 cs h0 n0 v U'.heap L ∧ FrameEnd U o U' L ({ frames := 2, cells := 2, slots := 5, locals := 27 } : Room).cells ({ frames := 2, cells := 2, slots := 5, locals := 27 } : Room).slots) := by
  refine MetFree.of_bodySF (plainFor_of_name own_pn41) hisR ?_
  intro p e s m args below meth c s₁ Bd hml0 hP hK
  obtain ⟨rfl, hZ, hh⟩ := hP
  have hx := Bd.exec
  have hby := Bd.bytes
  have hml : c.maxLocals = 1 := hml0
  have hown : s.vm.findClass "java/lang/String" = some m.cls := findClass_of_methodNamed Bd.named
  have hnm := (name_of_methodNamed Bd.named Bd.method).1
  have X0 : Stand p l e ({ frames := 2, cells := 2, slots := 5, locals := 27 } : Room) s m #[(.int p0)] below meth c s₁ [] 0 0 := Stand.of_body Bd
  have e0 : s₁.heap = h0 := by rw [← hh, Bd.state]; rfl
  have N0 := Fr.nil n0
  have k0 : own_To p e below s₁ (mkF m 0 #[.val (.int p0)] []) s₁ (entryFrame m #[(.int p0)] 1) := fun t k => castTop (own_ef41 m p0) k
  have ki : own_To p e below s₁ (mkF m 0 #[.val (.int p0)] []) s₁ (mkF m 0 #[.val (.int p0)] []) := fun t q => q
  obtain ⟨T1, X1, e1, st1⟩ := getS2 X0 hx hZ hown (host := "") (Or.inl (hw _ (List.mem_of_getElem? (i := 26) rfl))) Via.refl e0 (SC.ext O0.2) (g := (mkF m 0 #[.val (.int p0)] [])) rfl (hb hby own_d41_0)
  obtain ⟨_, _, ⟨T2, L2, kk2, n2⟩, -, X2, ⟨Lc2, hQ2, l2, y2, z2⟩, st2⟩ := Jvm.LawKit.callS X1 hx (y := (⟨"java/lang/StringLatin1", "canEncode", "(C)Z"⟩ : MethodName)) hown (mvT hZ (hw _ (List.mem_of_getElem? (i := 208) rfl))) (mvT hZ (hw _ (List.mem_of_getElem? (i := 209) rfl))) (mvT hZ (hw _ (List.mem_of_getElem? (i := 193) rfl))) (mvT hZ (hw _ (List.mem_of_getElem? (i := 210) rfl))) (by decide) (backOf (W := 0) (rm42 l Z a0 hw [] p0 h0 n0 Z0 hp) hZ (hw _ (List.mem_of_getElem? (i := 210) rfl)) (hw _ (List.mem_of_getElem? (i := 193) rfl)) (by decide) (by decide)) (g := (mkF m 7 #[.val (.int p0)] [(.int p0)])) rfl (by rw [hml]; rfl) (argsL := [(.int p0)]) (rest := []) (lenOf own_pd8 rfl) rfl (by show 2 * 0 + _ ≤ _; exact Nat.le_of_eq rfl) (hb hby own_d41_7) (fun _ _ => ⟨rfl, e1, (by decide : 0 + 0 ≤ _), (by decide : 0 + 0 ≤ _)⟩)
  dsimp only [Pt.U, Pt.locs, Pt.cells, Pt.slots] at X2 l2 y2 z2 st2 hQ2
  subst l2 y2 z2
  obtain ⟨rfl, N2q, e2⟩ := hQ2
  have N2 := Fr.app N0 N2q
  obtain ⟨T3, h3, X3, e3, E3, A3, D3, -, st3⟩ := newO X2 hx hZ hown (hw _ (List.mem_of_getElem? (i := 211) rfl)) (hw _ (List.mem_of_getElem? (i := 5) rfl)) (hw _ (List.mem_of_getElem? (i := 6) rfl)) e2 (g := (mkF m 13 #[.val (.int p0)] [])) rfl (hb hby own_d41_13) (by decide) (by decide)
  obtain ⟨b3, g3⟩ : ∃ z, z = h0.size := ⟨_, rfl⟩
  rw [← g3] at A3 D3 st3
  have ge_b3 : n0 ≤ b3 := Nat.le_trans Z0 (Nat.le_of_eq g3.symm)
  have K4 : Keep h0 h0 [] := (Keep.refl h0 [])
  have sz_b3 : h0.size ≤ b3 := Nat.le_trans K4.1 (Nat.le_of_eq g3.symm)
  have F3_20 : Fld Z h3 b3 "java/lang/String" "value" "[B" .null := D3 (Or.inr (hw _ (List.mem_of_getElem? (i := 20) rfl))) (ty := (.array .byte)) (by decide)
  have F3_21 : Fld Z h3 b3 "java/lang/String" "coder" "B" (.int (0 : Int32)) := D3 (Or.inr (hw _ (List.mem_of_getElem? (i := 21) rfl))) (ty := .byte) (by decide)
  have K6 : Keep h0 h3 [] := (K4.ext E3)
  obtain ⟨_, _, ⟨T5, L5, kk5, n5⟩, -, X5, ⟨Lc5, hQ5, l5, y5, z5⟩, st5⟩ := Jvm.LawKit.callS X3 hx (y := (⟨"java/lang/StringLatin1", "toBytes", "(C)[B"⟩ : MethodName)) hown (mvT hZ (hw _ (List.mem_of_getElem? (i := 212) rfl))) (mvT hZ (hw _ (List.mem_of_getElem? (i := 213) rfl))) (mvT hZ (hw _ (List.mem_of_getElem? (i := 193) rfl))) (mvT hZ (hw _ (List.mem_of_getElem? (i := 214) rfl))) (by decide) (backOf (W := 2) (rm43 l Z a0 hw [] p0 h3 n0 (Nat.le_trans Z0 K6.1)) hZ (hw _ (List.mem_of_getElem? (i := 214) rfl)) (hw _ (List.mem_of_getElem? (i := 193) rfl)) (by decide) (by decide)) (g := (mkF m 18 #[.val (.int p0)] [(.int p0), (.ref b3), (.ref b3)])) rfl (by rw [hml]; rfl) (argsL := [(.int p0)]) (rest := [(.ref b3), (.ref b3)]) (lenOf own_pd9 rfl) rfl (by show 2 * 0 + _ ≤ _; exact Nat.le_of_eq rfl) (hb hby own_d41_18) (fun _ _ => ⟨rfl, e3, (by decide : 1 + 1 ≤ _), (by decide : 4 + 1 ≤ _)⟩)
  dsimp only [Pt.U, Pt.locs, Pt.cells, Pt.slots] at X5 l5 y5 z5 st5 hQ5
  subst l5 y5 z5
  obtain ⟨rb5, kb5, rfl, N5q, K5, z5z, V5⟩ := hQ5
  have ne_b3_rb5 : b3 ≠ rb5 := Nat.ne_of_lt (Nat.lt_of_lt_of_le A3.lt z5z)
  have sz_rb5 : h0.size ≤ rb5 := Nat.le_trans K6.1 z5z
  have ge_rb5 : n0 ≤ rb5 := Nat.le_trans Z0 sz_rb5
  have N5 := Fr.app N2 N5q
  have K8 : Keep h0 T5.heap [] := (K6.trans K5 all0)
  have F9 := (F3_20.keep K5 nin0)
  have F10 := (F3_21.keep K5 nin0)
  have F11 := (A3.keep K5)
  obtain ⟨_, _, ⟨T7, L7, kk7, n7⟩, -, X7, ⟨Lc7, hQ7, l7, y7, z7⟩, st7⟩ := X5.specialBack hx (y := (⟨"java/lang/String", "<init>", "([BB)V"⟩ : MethodName)) rfl hown (mvT hZ (hw _ (List.mem_of_getElem? (i := 215) rfl))) (mvT hZ (hw _ (List.mem_of_getElem? (i := 216) rfl))) (mvT hZ (hw _ (List.mem_of_getElem? (i := 217) rfl))) (by decide) (backOf (W := 1) (rm44 l Z a0 hw [] b3 rb5 T5.heap n0 (Nat.le_trans Z0 K8.1) F9 F10 F11 ge_b3) hZ (hw _ (List.mem_of_getElem? (i := 217) rfl)) (hw _ (List.mem_of_getElem? (i := 6) rfl)) (by decide) (by decide)) (g := (mkF m 22 #[.val (.int p0)] [(.int (0 : Int32)), (.ref rb5), (.ref b3), (.ref b3)])) rfl (by rw [hml]; rfl) (Steps.refl _) (a := b3) (argsL := [(.ref rb5), (.int (0 : Int32))]) (rest := [(.ref b3)]) (lenOf own_pd28 rfl) rfl (by show 2 * 0 + _ ≤ _; exact Nat.le_of_eq rfl) (hb hby own_d41_22) (fun _ _ => ⟨rfl, rfl, (by decide : 2 + 0 ≤ _), (by decide : 5 + 0 ≤ _)⟩)
  dsimp only [Pt.U, Pt.locs, Pt.cells, Pt.slots] at X7 l7 y7 z7 st7 hQ7
  subst l7 y7 z7
  obtain ⟨rfl, N7q, K7, E7, Fc7, Fv7⟩ := hQ7
  have N7 := Fr.app N5 N7q
  have F12 := (V5.keep K7 (ninS (Ne.symm ne_b3_rb5) nin0))
  have K13 : Keep h0 T7.heap [] := (K8.trans K7 (allS (P := fun x => x ∈ ([] : List Addr) ∨ h0.size ≤ x) (Or.inr sz_b3) all0))
  have k14 : own_To p e below T7 (mkF m 25 #[.val (.int p0)] [(.ref b3)]) s₁ (mkF m 0 #[.val (.int p0)] []) := fun t q => ki t (by
    refine st1 _ ?_
    show Steps p.tables e below (T1.setTop (mkF m 3 #[.val (.int p0)] [(.int cs)])) _
    refine XS.ifNo X1.here hx rfl (hb hby own_d41_3) rfl ((if0 _ _).trans (feq hcs).1) ?_
    show Steps p.tables e below (T1.setTop (mkF m 6 #[.val (.int p0)] [])) _
    refine XS.iloadN X1.here hx rfl (hb hby own_d41_6) rfl ?_
    show Steps p.tables e below (T1.setTop (mkF m 7 #[.val (.int p0)] [(.int p0)])) _
    refine st2 _ ?_
    show Steps p.tables e below (T2.setTop (mkF m 10 #[.val (.int p0)] [(.int (1 : Int32))])) _
    refine XS.ifNo X2.here hx rfl (hb hby own_d41_10) rfl ((if0 _ _).trans (feq (by decide)).1) ?_
    show Steps p.tables e below (T2.setTop (mkF m 13 #[.val (.int p0)] [])) _
    refine st3 _ ?_
    show Steps p.tables e below (T3.setTop (mkF m 16 #[.val (.int p0)] [(.ref b3)])) _
    refine XS.dup X3.here hx rfl (hb hby own_d41_16) rfl rfl ?_
    show Steps p.tables e below (T3.setTop (mkF m 17 #[.val (.int p0)] [(.ref b3), (.ref b3)])) _
    refine XS.iloadN X3.here hx rfl (hb hby own_d41_17) rfl ?_
    show Steps p.tables e below (T3.setTop (mkF m 18 #[.val (.int p0)] [(.int p0), (.ref b3), (.ref b3)])) _
    refine st5 _ ?_
    show Steps p.tables e below (T5.setTop (mkF m 21 #[.val (.int p0)] [(.ref rb5), (.ref b3), (.ref b3)])) _
    refine XS.iconst X5.here hx rfl (hb hby own_d41_21) ?_
    show Steps p.tables e below (T5.setTop (mkF m 22 #[.val (.int p0)] [(.int (0 : Int32)), (.ref rb5), (.ref b3), (.ref b3)])) _
    refine st7.trans ?_
    show Steps p.tables e below (T7.setTop (mkF m 25 #[.val (.int p0)] [(.ref b3)])) _
    exact q)
  obtain ⟨fs, hr, hrun, hended, hW, hsame⟩ := X7.leave (v := some (.ref b3)) (fun h => by rw [Bd.returns] at h; cases h)
  refine ⟨_, _, k0 _ (k14 _ ?_), hrun, hended, _, _, rfl, ?_, ⟨_, rfl⟩, hW, hsame.mono (by decide) (by decide)⟩
  · show Steps p.tables e below (T7.setTop (mkF m 25 #[.val (.int p0)] [(.ref b3)])) _
    exact retOut X7 hx Bd.returns rfl (Or.inr (Or.inr (Or.inr (Or.inr ⟨rfl, rfl, rfl⟩)))) (hb hby own_d41_25) hr
  · show Q41 Z p0 cs h0 n0 _ T7.heap _
    exact ⟨b3, rb5, kb5, rfl, N7, K13, E7, Fc7, Fv7, F12⟩
theorem own_256 : ∀ n : Fin 256, ¬ (255 : Int32) < nar .char (Int32.ofNat n.1) := by decide +kernel
theorem own_ofn (x : Int32) (h0 : 0 ≤ x.toInt) (h1 : x.toInt < 256) : ∃ n : Fin 256, x = Int32.ofNat n.1 := by
  refine ⟨⟨x.toInt.toNat, by omega⟩, ?_⟩
  apply Int32.toInt_inj.mp
  have q : ((x.toInt.toNat : Nat) : Int) = x.toInt := by omega
  rw [Int32.toInt_ofNat_of_lt (show x.toInt.toNat < 2 ^ 31 by omega)]; exact q.symm
theorem own_hp (x : Int32) (h0 : 0 ≤ x.toInt ∧ x.toInt < 256) : ¬ (255 : Int32) < nar .char x := by
  obtain ⟨n, rfl⟩ := own_ofn x h0.1 h0.2
  exact own_256 n
theorem own_hq (x : Int32) (h0 : 0 ≤ x.toInt ∧ x.toInt < 256) : ¬ (255 : Int32) < x := by
  rw [Int32.lt_iff_toInt_lt, show (255 : Int32).toInt = 255 from rfl]; omega
theorem own_r8 (x : Int32) : 0 ≤ ((x &&& (255 : Int32)).toUInt32.toUInt16.toUInt32.toInt32).toInt ∧ ((x &&& (255 : Int32)).toUInt32.toUInt16.toUInt32.toInt32).toInt < 256 := by
  rw [i2c_mask]
  have h := c_mask x 255 8 (by decide) (by decide)
  omega
theorem own_pd34 : parseMethodDescriptor "([C)V" = some ⟨[(.array .char)], none⟩ := by decide +kernel
theorem own_pd7 : parseMethodDescriptor "(C)Ljava/lang/String;" = some ⟨[.char], some (.object "java/lang/String")⟩ := by decide +kernel
theorem own_d1_0 : decode method_3_code 0 = .ok (.iload_n 0, 1) := by decide +kernel
theorem own_d1_1 : decode method_3_code 1 = .ok (.iconst 3, 1) := by decide +kernel
theorem own_d1_2 : decode method_3_code 2 = .ok (.iand, 1) := by decide +kernel
theorem own_d1_3 : decode method_3_code 3 = .ok (.iconst 3, 1) := by decide +kernel
theorem own_d1_4 : decode method_3_code 4 = .ok (.irem, 1) := by decide +kernel
theorem own_d1_5 : decode method_3_code 5 = .ok (.istore_n 1, 1) := by decide +kernel
theorem own_d1_6 : decode method_3_code 6 = .ok (.iload_n 0, 1) := by decide +kernel
theorem own_d1_7 : decode method_3_code 7 = .ok (.bipush 8, 2) := by decide +kernel
theorem own_d1_9 : decode method_3_code 9 = .ok (.iushr, 1) := by decide +kernel
theorem own_d1_10 : decode method_3_code 10 = .ok (.sipush 255, 3) := by decide +kernel
theorem own_d1_13 : decode method_3_code 13 = .ok (.iand, 1) := by decide +kernel
theorem own_d1_14 : decode method_3_code 14 = .ok (.i2c, 1) := by decide +kernel
theorem own_d1_15 : decode method_3_code 15 = .ok (.istore_n 2, 1) := by decide +kernel
theorem own_d1_16 : decode method_3_code 16 = .ok (.iload_n 0, 1) := by decide +kernel
theorem own_d1_17 : decode method_3_code 17 = .ok (.bipush 16, 2) := by decide +kernel
theorem own_d1_19 : decode method_3_code 19 = .ok (.iushr, 1) := by decide +kernel
theorem own_d1_20 : decode method_3_code 20 = .ok (.sipush 255, 3) := by decide +kernel
theorem own_d1_23 : decode method_3_code 23 = .ok (.iand, 1) := by decide +kernel
theorem own_d1_24 : decode method_3_code 24 = .ok (.i2c, 1) := by decide +kernel
theorem own_d1_25 : decode method_3_code 25 = .ok (.istore_n 3, 1) := by decide +kernel
theorem own_d1_26 : decode method_3_code 26 = .ok (.iload_n 1, 1) := by decide +kernel
theorem own_d1_27 : decode method_3_code 27 = .ok (.ifCond .ne 14, 3) := by decide +kernel
theorem own_d1_30 : decode method_3_code 30 = .ok (.new 20, 3) := by decide +kernel
theorem own_d1_33 : decode method_3_code 33 = .ok (.dup, 1) := by decide +kernel
theorem own_d1_34 : decode method_3_code 34 = .ok (.iconst 0, 1) := by decide +kernel
theorem own_d1_35 : decode method_3_code 35 = .ok (.newarray .char, 2) := by decide +kernel
theorem own_d1_37 : decode method_3_code 37 = .ok (.invokespecial 35, 3) := by decide +kernel
theorem own_d1_40 : decode method_3_code 40 = .ok (.areturn, 1) := by decide +kernel
theorem own_d1_41 : decode method_3_code 41 = .ok (.iload_n 1, 1) := by decide +kernel
theorem own_d1_42 : decode method_3_code 42 = .ok (.iconst 1, 1) := by decide +kernel
theorem own_d1_43 : decode method_3_code 43 = .ok (.if_icmp .ne 8, 3) := by decide +kernel
theorem own_d1_46 : decode method_3_code 46 = .ok (.iload_n 2, 1) := by decide +kernel
theorem own_d1_47 : decode method_3_code 47 = .ok (.invokestatic 38, 3) := by decide +kernel
theorem own_d1_50 : decode method_3_code 50 = .ok (.areturn, 1) := by decide +kernel
theorem own_d1_51 : decode method_3_code 51 = .ok (.new 20, 3) := by decide +kernel
theorem own_d1_54 : decode method_3_code 54 = .ok (.dup, 1) := by decide +kernel
theorem own_d1_55 : decode method_3_code 55 = .ok (.iconst 2, 1) := by decide +kernel
theorem own_d1_56 : decode method_3_code 56 = .ok (.newarray .char, 2) := by decide +kernel
theorem own_d1_58 : decode method_3_code 58 = .ok (.dup, 1) := by decide +kernel
theorem own_d1_59 : decode method_3_code 59 = .ok (.iconst 0, 1) := by decide +kernel
theorem own_d1_60 : decode method_3_code 60 = .ok (.iload_n 2, 1) := by decide +kernel
theorem own_d1_61 : decode method_3_code 61 = .ok (.castore, 1) := by decide +kernel
theorem own_d1_62 : decode method_3_code 62 = .ok (.dup, 1) := by decide +kernel
theorem own_d1_63 : decode method_3_code 63 = .ok (.iconst 1, 1) := by decide +kernel
theorem own_d1_64 : decode method_3_code 64 = .ok (.iload_n 3, 1) := by decide +kernel
theorem own_d1_65 : decode method_3_code 65 = .ok (.castore, 1) := by decide +kernel
theorem own_d1_66 : decode method_3_code 66 = .ok (.invokespecial 35, 3) := by decide +kernel
theorem own_d1_69 : decode method_3_code 69 = .ok (.areturn, 1) := by decide +kernel
theorem own_pn1 : plainName "com/example/issuer/issuer/identity/CallerRoleArnPinLaw" = true := by first | (simp [plainName, overriddenIn]; done) | decide +kernel
theorem own_ef1 (m : MethodId) (x0 : Int32) : entryFrame m #[(.int x0)] 4 = mkF m 0 #[.val (.int x0), .unset, .unset, .unset] [] := by first | (simp [entryFrame, mkF, argsToLocals, Value.category]; done) | rfl
def Q1 (Z : State) (p0 : Int32) (cs : Int32) (h0 : Heap) (n0 : Nat) (v : Option Value) (h : Heap) (L : List Loc) : Prop := ∃ (r b : Addr) (kb : ClassId) (z : Int32) (vs : List Value), v = some (.ref r) ∧ Fr n0 L ∧ Keep h0 h [] ∧ Exa Z h r "java/lang/String" ∧ Fld Z h r "java/lang/String" "coder" "B" (.int (0 : Int32)) ∧ Fld Z h r "java/lang/String" "value" "[B" (.ref b) ∧ Arv Z h b kb .byte z vs (.int (0 : Int32)) ∧ vs.length = z.toNatClampNeg ∧ 0 ≤ z.toInt ∧ z.toInt ≤ 2
set_option maxRecDepth 65536 in
set_option maxHeartbeats 40000000 in
theorem rm1 (l : Launch) (Z : State) (a0 : Array Value) (hw : ∀ d ∈ tables_1, d.before a0 Z = true) (ws : List Jvm.Cond) (p0 : Int32) (cs : Int32) (h0 : Heap) (n0 : Nat) (Z0 : n0 ≤ h0.size) (SC : Sta Z Z.heap "java/lang/String" "COMPACT_STRINGS" "Z" (.int cs)) (hcs : ¬ cs = (0 : Int32)) (O0 : Old Z n0 h0) (hEL : EW Z a0 own_EL) :
    MetFree l (⟨"com/example/issuer/issuer/identity/CallerRoleArnPinLaw", "mk", "(I)Ljava/lang/String;"⟩ : MethodName) (head1 (Jvm.Cond.code (⟨"com/example/issuer/issuer/identity/CallerRoleArnPinLaw", "mk", "(I)Ljava/lang/String;"⟩ : MethodName) method_3_code 4 (some (.object "java/lang/String")) :: ws) ({ frames := 4, cells := 6, slots := 12, locals := 66 } : Room)) (fun a U => a = #[(.int p0)] ∧ Z.Warmed39 U.vm ∧ U.heap = h0 ∧ CHv Z own_EL U.vm h0) (fun _ _ _ _ _ => True) (fun _ U o U' => ∃ v L, o = .returned v ∧ Q1 Z p0 cs h0 n0 v U'.heap L ∧ CHr Z own_EL U.vm U.heap U'.vm U'.heap ∧ ReturnedEndW U o U' L ({ frames := 4, cells := 6, slots := 12, locals := 66 } : Room).cells ({ frames := 4, cells := 6, slots := 12, locals := 66 } : Room).slots) := by
  refine MetFree.of_bodySF (plainFor_of_name own_pn1) hisR ?_
  intro p e s m args below meth c s₁ Bd hml0 hP hK
  obtain ⟨rfl, hZ, hh, hCH⟩ := hP
  have hx := Bd.exec
  have hby := Bd.bytes
  have hml : c.maxLocals = 4 := hml0
  have hown : s.vm.findClass "com/example/issuer/issuer/identity/CallerRoleArnPinLaw" = some m.cls := findClass_of_methodNamed Bd.named
  have hnm := (name_of_methodNamed Bd.named Bd.method).1
  have X0 : Stand p l e ({ frames := 4, cells := 6, slots := 12, locals := 66 } : Room) s m #[(.int p0)] below meth c s₁ [] 0 0 := Stand.of_body Bd
  have e0 : s₁.heap = h0 := by rw [← hh, Bd.state]; rfl
  have N0 := Fr.nil n0
  have k0 : own_To p e below s₁ (mkF m 0 #[.val (.int p0), .unset, .unset, .unset] []) s₁ (entryFrame m #[(.int p0)] 4) := fun t k => castTop (own_ef1 m p0) k
  have ki : own_To p e below s₁ (mkF m 0 #[.val (.int p0), .unset, .unset, .unset] []) s₁ (mkF m 0 #[.val (.int p0), .unset, .unset, .unset] []) := fun t q => q
  have hstr : ∀ a ∈ Bundle.stringAtoms, a.before a0 Z = true := fun d hd => hw d ((by decide +kernel : ∀ d ∈ Bundle.stringAtoms, d ∈ tables_1) d hd)
  have X0 := own_base X0
  have CR0 := CHr.refl hCH
  have k1 : own_To p e below s₁ (mkF m 6 #[.val (.int p0), .val (.int ((p0 &&& (3 : Int32)) % (3 : Int32))), .unset, .unset] []) s₁ (mkF m 0 #[.val (.int p0), .unset, .unset, .unset] []) := fun t q => ki t (by
    refine XS.iloadN X0.here hx rfl (hb hby own_d1_0) rfl ?_
    show Steps p.tables e below (s₁.setTop (mkF m 1 #[.val (.int p0), .unset, .unset, .unset] [(.int p0)])) _
    refine XS.iconst X0.here hx rfl (hb hby own_d1_1) ?_
    show Steps p.tables e below (s₁.setTop (mkF m 2 #[.val (.int p0), .unset, .unset, .unset] [(.int (3 : Int32)), (.int p0)])) _
    refine XS.iand X0.here hx rfl (hb hby own_d1_2) rfl ?_
    show Steps p.tables e below (s₁.setTop (mkF m 3 #[.val (.int p0), .unset, .unset, .unset] [(.int (p0 &&& (3 : Int32)))])) _
    refine XS.iconst X0.here hx rfl (hb hby own_d1_3) ?_
    show Steps p.tables e below (s₁.setTop (mkF m 4 #[.val (.int p0), .unset, .unset, .unset] [(.int (3 : Int32)), (.int (p0 &&& (3 : Int32)))])) _
    refine iremM X0 hx rfl (hb hby own_d1_4) rfl (by decide) ?_
    show Steps p.tables e below (s₁.setTop (mkF m 5 #[.val (.int p0), .unset, .unset, .unset] [(.int ((p0 &&& (3 : Int32)) % (3 : Int32)))])) _
    refine XS.istoreN X0.here hx rfl (hb hby own_d1_5) rfl (l' := #[.val (.int p0), .val (.int ((p0 &&& (3 : Int32)) % (3 : Int32))), .unset, .unset]) rfl ?_
    show Steps p.tables e below (s₁.setTop (mkF m 6 #[.val (.int p0), .val (.int ((p0 &&& (3 : Int32)) % (3 : Int32))), .unset, .unset] [])) _
    exact q)
  obtain ⟨ln_, q_ln_⟩ : ∃ z, ((p0 &&& (3 : Int32)) % (3 : Int32)) = z := ⟨_, rfl⟩
  have k2 : own_To p e below s₁ (mkF m 6 #[.val (.int p0), .val (.int ln_), .unset, .unset] []) s₁ (mkF m 0 #[.val (.int p0), .unset, .unset, .unset] []) := by rw [q_ln_] at k1; exact k1
  have k3 : own_To p e below s₁ (mkF m 16 #[.val (.int p0), .val (.int ln_), .val (.int ((((p0.toUInt32 >>> ((8 : Int32) &&& 31).toUInt32).toInt32) &&& (255 : Int32)).toUInt32.toUInt16.toUInt32.toInt32)), .unset] []) s₁ (mkF m 0 #[.val (.int p0), .unset, .unset, .unset] []) := fun t q => k2 t (by
    refine XS.iloadN X0.here hx rfl (hb hby own_d1_6) rfl ?_
    show Steps p.tables e below (s₁.setTop (mkF m 7 #[.val (.int p0), .val (.int ln_), .unset, .unset] [(.int p0)])) _
    refine XS.bipush X0.here hx rfl (hb hby own_d1_7) ?_
    show Steps p.tables e below (s₁.setTop (mkF m 9 #[.val (.int p0), .val (.int ln_), .unset, .unset] [(.int (8 : Int32)), (.int p0)])) _
    refine XS.iushr X0.here hx rfl (hb hby own_d1_9) rfl ?_
    show Steps p.tables e below (s₁.setTop (mkF m 10 #[.val (.int p0), .val (.int ln_), .unset, .unset] [(.int ((p0.toUInt32 >>> ((8 : Int32) &&& 31).toUInt32).toInt32))])) _
    refine XS.sipush X0.here hx rfl (hb hby own_d1_10) ?_
    show Steps p.tables e below (s₁.setTop (mkF m 13 #[.val (.int p0), .val (.int ln_), .unset, .unset] [(.int (255 : Int32)), (.int ((p0.toUInt32 >>> ((8 : Int32) &&& 31).toUInt32).toInt32))])) _
    refine XS.iand X0.here hx rfl (hb hby own_d1_13) rfl ?_
    show Steps p.tables e below (s₁.setTop (mkF m 14 #[.val (.int p0), .val (.int ln_), .unset, .unset] [(.int (((p0.toUInt32 >>> ((8 : Int32) &&& 31).toUInt32).toInt32) &&& (255 : Int32)))])) _
    refine XS.i2c X0.here hx rfl (hb hby own_d1_14) rfl ?_
    show Steps p.tables e below (s₁.setTop (mkF m 15 #[.val (.int p0), .val (.int ln_), .unset, .unset] [(.int ((((p0.toUInt32 >>> ((8 : Int32) &&& 31).toUInt32).toInt32) &&& (255 : Int32)).toUInt32.toUInt16.toUInt32.toInt32))])) _
    refine XS.istoreN X0.here hx rfl (hb hby own_d1_15) rfl (l' := #[.val (.int p0), .val (.int ln_), .val (.int ((((p0.toUInt32 >>> ((8 : Int32) &&& 31).toUInt32).toInt32) &&& (255 : Int32)).toUInt32.toUInt16.toUInt32.toInt32)), .unset]) rfl ?_
    show Steps p.tables e below (s₁.setTop (mkF m 16 #[.val (.int p0), .val (.int ln_), .val (.int ((((p0.toUInt32 >>> ((8 : Int32) &&& 31).toUInt32).toInt32) &&& (255 : Int32)).toUInt32.toUInt16.toUInt32.toInt32)), .unset] [])) _
    exact q)
  obtain ⟨c0_, q_c0_⟩ : ∃ z, ((((p0.toUInt32 >>> ((8 : Int32) &&& 31).toUInt32).toInt32) &&& (255 : Int32)).toUInt32.toUInt16.toUInt32.toInt32) = z := ⟨_, rfl⟩
  have r_c0_ : 0 ≤ c0_.toInt ∧ c0_.toInt < 256 := by rw [← q_c0_]; exact own_r8 _
  have k4 : own_To p e below s₁ (mkF m 16 #[.val (.int p0), .val (.int ln_), .val (.int c0_), .unset] []) s₁ (mkF m 0 #[.val (.int p0), .unset, .unset, .unset] []) := by rw [q_c0_] at k3; exact k3
  have k5 : own_To p e below s₁ (mkF m 26 #[.val (.int p0), .val (.int ln_), .val (.int c0_), .val (.int ((((p0.toUInt32 >>> ((16 : Int32) &&& 31).toUInt32).toInt32) &&& (255 : Int32)).toUInt32.toUInt16.toUInt32.toInt32))] []) s₁ (mkF m 0 #[.val (.int p0), .unset, .unset, .unset] []) := fun t q => k4 t (by
    refine XS.iloadN X0.here hx rfl (hb hby own_d1_16) rfl ?_
    show Steps p.tables e below (s₁.setTop (mkF m 17 #[.val (.int p0), .val (.int ln_), .val (.int c0_), .unset] [(.int p0)])) _
    refine XS.bipush X0.here hx rfl (hb hby own_d1_17) ?_
    show Steps p.tables e below (s₁.setTop (mkF m 19 #[.val (.int p0), .val (.int ln_), .val (.int c0_), .unset] [(.int (16 : Int32)), (.int p0)])) _
    refine XS.iushr X0.here hx rfl (hb hby own_d1_19) rfl ?_
    show Steps p.tables e below (s₁.setTop (mkF m 20 #[.val (.int p0), .val (.int ln_), .val (.int c0_), .unset] [(.int ((p0.toUInt32 >>> ((16 : Int32) &&& 31).toUInt32).toInt32))])) _
    refine XS.sipush X0.here hx rfl (hb hby own_d1_20) ?_
    show Steps p.tables e below (s₁.setTop (mkF m 23 #[.val (.int p0), .val (.int ln_), .val (.int c0_), .unset] [(.int (255 : Int32)), (.int ((p0.toUInt32 >>> ((16 : Int32) &&& 31).toUInt32).toInt32))])) _
    refine XS.iand X0.here hx rfl (hb hby own_d1_23) rfl ?_
    show Steps p.tables e below (s₁.setTop (mkF m 24 #[.val (.int p0), .val (.int ln_), .val (.int c0_), .unset] [(.int (((p0.toUInt32 >>> ((16 : Int32) &&& 31).toUInt32).toInt32) &&& (255 : Int32)))])) _
    refine XS.i2c X0.here hx rfl (hb hby own_d1_24) rfl ?_
    show Steps p.tables e below (s₁.setTop (mkF m 25 #[.val (.int p0), .val (.int ln_), .val (.int c0_), .unset] [(.int ((((p0.toUInt32 >>> ((16 : Int32) &&& 31).toUInt32).toInt32) &&& (255 : Int32)).toUInt32.toUInt16.toUInt32.toInt32))])) _
    refine XS.istoreN X0.here hx rfl (hb hby own_d1_25) rfl (l' := #[.val (.int p0), .val (.int ln_), .val (.int c0_), .val (.int ((((p0.toUInt32 >>> ((16 : Int32) &&& 31).toUInt32).toInt32) &&& (255 : Int32)).toUInt32.toUInt16.toUInt32.toInt32))]) rfl ?_
    show Steps p.tables e below (s₁.setTop (mkF m 26 #[.val (.int p0), .val (.int ln_), .val (.int c0_), .val (.int ((((p0.toUInt32 >>> ((16 : Int32) &&& 31).toUInt32).toInt32) &&& (255 : Int32)).toUInt32.toUInt16.toUInt32.toInt32))] [])) _
    exact q)
  obtain ⟨c1_, q_c1_⟩ : ∃ z, ((((p0.toUInt32 >>> ((16 : Int32) &&& 31).toUInt32).toInt32) &&& (255 : Int32)).toUInt32.toUInt16.toUInt32.toInt32) = z := ⟨_, rfl⟩
  have r_c1_ : 0 ≤ c1_.toInt ∧ c1_.toInt < 256 := by rw [← q_c1_]; exact own_r8 _
  have k6 : own_To p e below s₁ (mkF m 26 #[.val (.int p0), .val (.int ln_), .val (.int c0_), .val (.int c1_)] []) s₁ (mkF m 0 #[.val (.int p0), .unset, .unset, .unset] []) := by rw [q_c1_] at k5; exact k5
  have k7 : own_To p e below s₁ (mkF m 27 #[.val (.int p0), .val (.int ln_), .val (.int c0_), .val (.int c1_)] [(.int ln_)]) s₁ (mkF m 0 #[.val (.int p0), .unset, .unset, .unset] []) := fun t q => k6 t (by
    refine XS.iloadN X0.here hx rfl (hb hby own_d1_26) rfl ?_
    show Steps p.tables e below (s₁.setTop (mkF m 27 #[.val (.int p0), .val (.int ln_), .val (.int c0_), .val (.int c1_)] [(.int ln_)])) _
    exact q)
  by_cases hc8 : ln_ = (0 : Int32)
  ·
    obtain ⟨T9, h9, X9, e9, E9, A9, D9, -, st9⟩ := newO X0 hx hZ hown (hw _ (List.mem_of_getElem? (i := 4) rfl)) (hw _ (List.mem_of_getElem? (i := 5) rfl)) (hw _ (List.mem_of_getElem? (i := 6) rfl)) e0 (g := (mkF m 30 #[.val (.int p0), .val (.int ln_), .val (.int c0_), .val (.int c1_)] [])) rfl (hb hby own_d1_30) (by decide) (by decide)
    obtain ⟨b9, g9⟩ : ∃ z, z = h0.size := ⟨_, rfl⟩
    rw [← g9] at A9 D9 st9
    have Sf9_b9 : Safe Z own_EL s.vm h0 b9 := Safe.new (Nat.le_of_eq g9.symm)
    have ge_b9 : n0 ≤ b9 := Nat.le_trans Z0 (Nat.le_of_eq g9.symm)
    have K10 : Keep h0 h0 [] := (Keep.refl h0 [])
    have sz_b9 : h0.size ≤ b9 := Nat.le_trans K10.1 (Nat.le_of_eq g9.symm)
    have F9_20 : Fld Z h9 b9 "java/lang/String" "value" "[B" .null := D9 (Or.inr (hw _ (List.mem_of_getElem? (i := 20) rfl))) (ty := (.array .byte)) (by decide)
    have F9_21 : Fld Z h9 b9 "java/lang/String" "coder" "B" (.int (0 : Int32)) := D9 (Or.inr (hw _ (List.mem_of_getElem? (i := 21) rfl))) (ty := .byte) (by decide)
    obtain ⟨T11, h11, kk11, X11, e11, E11, A11, st11⟩ := newP X9 hx hZ (hw _ (List.mem_of_getElem? (i := 7) rfl)) e9 (g := (mkF m 35 #[.val (.int p0), .val (.int ln_), .val (.int c0_), .val (.int c1_)] [(.int (0 : Int32)), (.ref b9), (.ref b9)])) rfl (hb hby own_d1_35) rfl (by decide) (cap := 0) (by decide) (by decide) (by decide) (by decide)
    obtain ⟨b11, g11⟩ : ∃ z, z = h9.size := ⟨_, rfl⟩
    rw [← g11] at A11 st11
    have CRc12 := CR0.trans (CHr.ext E9 hCH)
    have Sfc12_b9 := Safe.ext E9 hCH Sf9_b9
    have CHc12 := CRc12.1
    have Sf11_b11 : Safe Z own_EL s.vm h9 b11 := Safe.new (Nat.le_of_eq g11.symm)
    have K13 : Keep h0 h9 [] := (K10.ext E9)
    have ge_b11 : n0 ≤ b11 := Nat.le_trans (Nat.le_trans Z0 K13.1) (Nat.le_of_eq g11.symm)
    have sz_b11 : h0.size ≤ b11 := Nat.le_trans K13.1 (Nat.le_of_eq g11.symm)
    have ne_b9_b11 : b9 ≠ b11 := Nat.ne_of_lt (Nat.lt_of_lt_of_le A9.lt (Nat.le_of_eq g11.symm))
    have V11 : Arv Z h11 b11 kk11 .char (0 : Int32) [] (.int (0 : Int32)) := (Arv.new A11 (by decide)).pad (pad_rep [] (.int (0 : Int32)) 0)
    have k14 : own_To p e below T11 (mkF m 37 #[.val (.int p0), .val (.int ln_), .val (.int c0_), .val (.int c1_)] [(.ref b11), (.ref b9), (.ref b9)]) s₁ (mkF m 0 #[.val (.int p0), .unset, .unset, .unset] []) := fun t q => k7 t (by
      refine XS.ifNo X0.here hx rfl (hb hby own_d1_27) rfl ((if0 _ _).trans (teq hc8).2) ?_
      show Steps p.tables e below (s₁.setTop (mkF m 30 #[.val (.int p0), .val (.int ln_), .val (.int c0_), .val (.int c1_)] [])) _
      refine st9 _ ?_
      show Steps p.tables e below (T9.setTop (mkF m 33 #[.val (.int p0), .val (.int ln_), .val (.int c0_), .val (.int c1_)] [(.ref b9)])) _
      refine XS.dup X9.here hx rfl (hb hby own_d1_33) rfl rfl ?_
      show Steps p.tables e below (T9.setTop (mkF m 34 #[.val (.int p0), .val (.int ln_), .val (.int c0_), .val (.int c1_)] [(.ref b9), (.ref b9)])) _
      refine XS.iconst X9.here hx rfl (hb hby own_d1_34) ?_
      show Steps p.tables e below (T9.setTop (mkF m 35 #[.val (.int p0), .val (.int ln_), .val (.int c0_), .val (.int c1_)] [(.int (0 : Int32)), (.ref b9), (.ref b9)])) _
      refine st11 _ ?_
      show Steps p.tables e below (T11.setTop (mkF m 37 #[.val (.int p0), .val (.int ln_), .val (.int c0_), .val (.int c1_)] [(.ref b11), (.ref b9), (.ref b9)])) _
      exact q)
    have CRc16 := CRc12.trans (CHr.ext E11 CHc12)
    have Sfc16_b9 := Safe.ext E11 CHc12 Sfc12_b9
    have Sfc16_b11 := Safe.ext E11 CHc12 Sf11_b11
    have CHc16 := CRc16.1
    have K17 : Keep h0 h11 [] := (K13.ext E11)
    have F18 := (F9_20.ext E11)
    have F19 := (F9_21.ext E11)
    have F20 := (A9.ext E11)
    obtain ⟨_, _, ⟨T15, L15, kk15, n15⟩, -, X15, hSs15, hgr15, ⟨Lc15, hQ15, l15, y15, z15, hC15⟩, st15⟩ := X11.specialBackS hx (y := (⟨"java/lang/String", "<init>", "([C)V"⟩ : MethodName)) rfl hown (mvT hZ (hw _ (List.mem_of_getElem? (i := 8) rfl))) (mvT hZ (hw _ (List.mem_of_getElem? (i := 9) rfl))) (mvT hZ (hw _ (List.mem_of_getElem? (i := 10) rfl))) (by decide) (backOfSH (s := s) (vm0 := s.vm) (W := 1) (rmJ0 l Z a0 hw [] b9 b11 kk11 h11 n0 (Nat.le_trans Z0 K17.1) F18 F19 F20 ge_b9 V11 hEL) hZ (hw _ (List.mem_of_getElem? (i := 10) rfl)) (hw _ (List.mem_of_getElem? (i := 6) rfl)) (by decide) (by decide) hEL CHc16) (g := (mkF m 37 #[.val (.int p0), .val (.int ln_), .val (.int c0_), .val (.int c1_)] [(.ref b11), (.ref b9), (.ref b9)])) rfl (by rw [hml]; rfl) (Steps.refl _) (a := b9) (argsL := [(.ref b11)]) (rest := [(.ref b9)]) (lenOf own_pd34 rfl) rfl (by show 2 * 0 + _ ≤ _; exact Nat.le_of_eq rfl) (hb hby own_d1_37) (fun _ _ => ⟨rfl, e11, (by decide : 2 + 4 ≤ _), (by decide : 4 + 8 ≤ _)⟩)
    dsimp only [Pt.U, Pt.locs, Pt.cells, Pt.slots] at X15 l15 y15 z15 st15 hQ15 hSs15 hgr15 hC15
    subst l15 y15 z15
    have X15 := own_again X15
    have hSn15 := foldS (State.WarmedH.since (State.WarmedH.refl s) 0) (by rw [e11]; exact (Nat.le_trans (Nat.le_trans (Nat.zero_le _) E9.1) E11.1)) hSs15 hgr15
    have hZn15 : Z.Warmed39 (s.setVm T15.vm).vm := State.Warmed39.trans (t := s.setVm s.vm) hZ hSs15.1
    have hon15 : (s.setVm T15.vm).vm.findClass "com/example/issuer/issuer/identity/CallerRoleArnPinLaw" = some m.cls := by rw [show (s.setVm T15.vm).vm = T15.vm from rfl, hSs15.1.alike.findClass]; exact hown
    have hZ := hZn15
    have hown := hon15
    have CRl15 := CRc16.trans hC15
    have CHl15 := CRl15.1
    have Sf15_b9 := hC15.safe (F20.lt) Sfc16_b9
    have Sf15_b11 := hC15.safe (V11.lt) Sfc16_b11
    obtain ⟨rb15, kb15, rfl, N15q, K15, E15, Fc15, Fv15, V15⟩ := hQ15
    have N15 := Fr.app N0 N15q
    have K21 : Keep h0 T15.heap [] := (K17.trans K15 (allS (P := fun x => x ∈ ([] : List Addr) ∨ h0.size ≤ x) (Or.inr sz_b9) all0))
    have k22 : own_To p e below T15 (mkF m 40 #[.val (.int p0), .val (.int ln_), .val (.int c0_), .val (.int c1_)] [(.ref b9)]) s₁ (mkF m 0 #[.val (.int p0), .unset, .unset, .unset] []) := fun t q => k14 t (by
      refine st15.trans ?_
      show Steps p.tables e below (T15.setTop (mkF m 40 #[.val (.int p0), .val (.int ln_), .val (.int c0_), .val (.int c1_)] [(.ref b9)])) _
      exact q)
    have hCe := CRl15.trans (CHv.at (vm0 := T15.vm) X15 hZ hEL CHl15)
    obtain ⟨fs, hr, hrun, hended, hEnd⟩ := Stand.leaveW (s := s) (vm₁ := T15.vm) X15 hSn15 (by exact (Nat.le_refl _)) (v := some (.ref b9)) (fun h => by rw [Bd.returns] at h; cases h)
    refine ⟨_, _, k0 _ (k22 _ ?_), hrun, hended, _, _, rfl, ?_, ?_, hEnd.1, hEnd.2.1, hEnd.2.2.1, hEnd.2.2.2.mono (by decide) (by decide)⟩
    · show Steps p.tables e below (T15.setTop (mkF m 40 #[.val (.int p0), .val (.int ln_), .val (.int c0_), .val (.int c1_)] [(.ref b9)])) _
      exact retOut X15 hx Bd.returns rfl (Or.inr (Or.inr (Or.inr (Or.inr ⟨rfl, rfl, rfl⟩)))) (hb hby own_d1_40) hr
    · show Q1 Z p0 cs h0 n0 _ T15.heap _
      exact ⟨b9, rb15, kb15, (0 : Int32), ([] : List Value), rfl, N15, K21, E15, Fc15, Fv15, V15, rfl, by decide, by decide⟩
    · show CHr Z own_EL s.vm s.heap T15.vm T15.heap
      rw [hh]; exact hCe
  ·
    have k23 : own_To p e below s₁ (mkF m 43 #[.val (.int p0), .val (.int ln_), .val (.int c0_), .val (.int c1_)] [(.int (1 : Int32)), (.int ln_)]) s₁ (mkF m 0 #[.val (.int p0), .unset, .unset, .unset] []) := fun t q => k7 t (by
      refine XS.ifYes X0.here hx rfl (pc0 := 27) (pc' := 41) rfl (hb hby own_d1_27) rfl ((if0 _ _).trans (feq hc8).2) (by decide) (by decide) ?_
      show Steps p.tables e below (s₁.setTop (mkF m 41 #[.val (.int p0), .val (.int ln_), .val (.int c0_), .val (.int c1_)] [])) _
      refine XS.iloadN X0.here hx rfl (hb hby own_d1_41) rfl ?_
      show Steps p.tables e below (s₁.setTop (mkF m 42 #[.val (.int p0), .val (.int ln_), .val (.int c0_), .val (.int c1_)] [(.int ln_)])) _
      refine XS.iconst X0.here hx rfl (hb hby own_d1_42) ?_
      show Steps p.tables e below (s₁.setTop (mkF m 43 #[.val (.int p0), .val (.int ln_), .val (.int c0_), .val (.int c1_)] [(.int (1 : Int32)), (.int ln_)])) _
      exact q)
    by_cases hc24 : ln_ = (1 : Int32)
    ·
      obtain ⟨_, _, ⟨T25, L25, kk25, n25⟩, -, X25, ⟨Lc25, hQ25, l25, y25, z25⟩, st25⟩ := Jvm.LawKit.callS X0 hx (y := (⟨"java/lang/String", "valueOf", "(C)Ljava/lang/String;"⟩ : MethodName)) hown (mvT hZ (hw _ (List.mem_of_getElem? (i := 205) rfl))) (mvT hZ (hw _ (List.mem_of_getElem? (i := 206) rfl))) (mvT hZ (hw _ (List.mem_of_getElem? (i := 6) rfl))) (mvT hZ (hw _ (List.mem_of_getElem? (i := 207) rfl))) (by decide) (backOf (W := 0) (rm41 l Z a0 hw [] c0_ cs h0 n0 Z0 SC hcs O0 (own_hq _ r_c0_)) hZ (hw _ (List.mem_of_getElem? (i := 207) rfl)) (hw _ (List.mem_of_getElem? (i := 6) rfl)) (by decide) (by decide)) (g := (mkF m 47 #[.val (.int p0), .val (.int ln_), .val (.int c0_), .val (.int c1_)] [(.int c0_)])) rfl (by rw [hml]; rfl) (argsL := [(.int c0_)]) (rest := []) (lenOf own_pd7 rfl) rfl (by show 2 * 0 + _ ≤ _; exact Nat.le_of_eq rfl) (hb hby own_d1_47) (fun _ _ => ⟨rfl, e0, (by decide : 0 + 2 ≤ _), (by decide : 0 + 5 ≤ _)⟩)
      dsimp only [Pt.U, Pt.locs, Pt.cells, Pt.slots] at X25 l25 y25 z25 st25 hQ25
      subst l25 y25 z25
      obtain ⟨r25, rb25, kb25, rfl, N25q, K25, E25, Fc25, Fv25, V25⟩ := hQ25
      have N25 := Fr.app N0 N25q
      have K26 : Keep h0 T25.heap [] := ((Keep.refl h0 []).trans K25 all0)
      have k27 : own_To p e below T25 (mkF m 50 #[.val (.int p0), .val (.int ln_), .val (.int c0_), .val (.int c1_)] [(.ref r25)]) s₁ (mkF m 0 #[.val (.int p0), .unset, .unset, .unset] []) := fun t q => k23 t (by
        refine XS.icmpNo X0.here hx rfl (hb hby own_d1_43) rfl (teq hc24).2 ?_
        show Steps p.tables e below (s₁.setTop (mkF m 46 #[.val (.int p0), .val (.int ln_), .val (.int c0_), .val (.int c1_)] [])) _
        refine XS.iloadN X0.here hx rfl (hb hby own_d1_46) rfl ?_
        show Steps p.tables e below (s₁.setTop (mkF m 47 #[.val (.int p0), .val (.int ln_), .val (.int c0_), .val (.int c1_)] [(.int c0_)])) _
        refine st25 _ ?_
        show Steps p.tables e below (T25.setTop (mkF m 50 #[.val (.int p0), .val (.int ln_), .val (.int c0_), .val (.int c1_)] [(.ref r25)])) _
        exact q)
      have CRc28 := CR0.trans (CHr.keep K25 sf0 hCH)
      have CHc28 := CRc28.1
      have hCe := CRc28.trans (CHv.at (vm0 := s.vm) X25 hZ hEL CHc28)
      obtain ⟨fs, hr, hrun, hended, hEnd⟩ := Stand.leaveW (s := s) (vm₁ := s.vm) X25 (State.WarmedH.since (State.WarmedH.refl s) 0) (by exact (Nat.le_trans (Nat.zero_le _) K25.1)) (v := some (.ref r25)) (fun h => by rw [Bd.returns] at h; cases h)
      refine ⟨_, _, k0 _ (k27 _ ?_), hrun, hended, _, _, rfl, ?_, ?_, hEnd.1, hEnd.2.1, hEnd.2.2.1, hEnd.2.2.2.mono (by decide) (by decide)⟩
      · show Steps p.tables e below (T25.setTop (mkF m 50 #[.val (.int p0), .val (.int ln_), .val (.int c0_), .val (.int c1_)] [(.ref r25)])) _
        exact retOut X25 hx Bd.returns rfl (Or.inr (Or.inr (Or.inr (Or.inr ⟨rfl, rfl, rfl⟩)))) (hb hby own_d1_50) hr
      · show Q1 Z p0 cs h0 n0 _ T25.heap _
        exact ⟨r25, rb25, kb25, (1 : Int32), [(.int (own_by c0_))], rfl, N25, K26, E25, Fc25, Fv25, V25, rfl, by decide, by decide⟩
      · show CHr Z own_EL s.vm s.heap T25.vm T25.heap
        rw [hh]; exact hCe
    ·
      obtain ⟨T29, h29, X29, e29, E29, A29, D29, -, st29⟩ := newO X0 hx hZ hown (hw _ (List.mem_of_getElem? (i := 4) rfl)) (hw _ (List.mem_of_getElem? (i := 5) rfl)) (hw _ (List.mem_of_getElem? (i := 6) rfl)) e0 (g := (mkF m 51 #[.val (.int p0), .val (.int ln_), .val (.int c0_), .val (.int c1_)] [])) rfl (hb hby own_d1_51) (by decide) (by decide)
      obtain ⟨b29, g29⟩ : ∃ z, z = h0.size := ⟨_, rfl⟩
      rw [← g29] at A29 D29 st29
      have Sf29_b29 : Safe Z own_EL s.vm h0 b29 := Safe.new (Nat.le_of_eq g29.symm)
      have ge_b29 : n0 ≤ b29 := Nat.le_trans Z0 (Nat.le_of_eq g29.symm)
      have K30 : Keep h0 h0 [] := (Keep.refl h0 [])
      have sz_b29 : h0.size ≤ b29 := Nat.le_trans K30.1 (Nat.le_of_eq g29.symm)
      have F29_20 : Fld Z h29 b29 "java/lang/String" "value" "[B" .null := D29 (Or.inr (hw _ (List.mem_of_getElem? (i := 20) rfl))) (ty := (.array .byte)) (by decide)
      have F29_21 : Fld Z h29 b29 "java/lang/String" "coder" "B" (.int (0 : Int32)) := D29 (Or.inr (hw _ (List.mem_of_getElem? (i := 21) rfl))) (ty := .byte) (by decide)
      obtain ⟨T31, h31, kk31, X31, e31, E31, A31, st31⟩ := newP X29 hx hZ (hw _ (List.mem_of_getElem? (i := 7) rfl)) e29 (g := (mkF m 56 #[.val (.int p0), .val (.int ln_), .val (.int c0_), .val (.int c1_)] [(.int (2 : Int32)), (.ref b29), (.ref b29)])) rfl (hb hby own_d1_56) rfl (by decide) (cap := 2) (by decide) (by decide) (by decide) (by decide)
      obtain ⟨b31, g31⟩ : ∃ z, z = h29.size := ⟨_, rfl⟩
      rw [← g31] at A31 st31
      have CRc32 := CR0.trans (CHr.ext E29 hCH)
      have Sfc32_b29 := Safe.ext E29 hCH Sf29_b29
      have CHc32 := CRc32.1
      have Sf31_b31 : Safe Z own_EL s.vm h29 b31 := Safe.new (Nat.le_of_eq g31.symm)
      have K33 : Keep h0 h29 [] := (K30.ext E29)
      have ge_b31 : n0 ≤ b31 := Nat.le_trans (Nat.le_trans Z0 K33.1) (Nat.le_of_eq g31.symm)
      have sz_b31 : h0.size ≤ b31 := Nat.le_trans K33.1 (Nat.le_of_eq g31.symm)
      have ne_b29_b31 : b29 ≠ b31 := Nat.ne_of_lt (Nat.lt_of_lt_of_le A29.lt (Nat.le_of_eq g31.symm))
      have V31 : Arv Z h31 b31 kk31 .char (2 : Int32) [(.int (0 : Int32)), (.int (0 : Int32))] (.int (0 : Int32)) := (Arv.new A31 (by decide)).pad (pad_rep [] (.int (0 : Int32)) 2)
      obtain ⟨clr34, Arr34, qr34, Sr34, Mr34, Hhr34, Gr34⟩ := id V31
      have hinr34 : ¬ ((0 : Int32) < 0 ∨ clr34.slots.size ≤ ((0 : Int32)).toNatClampNeg) := inb_of Sr34 ⟨by decide, by decide⟩
      obtain ⟨T35, h35, X35, e35, W35, st35⟩ := stC X31 hx hZ e31 Arr34 (j := (0 : Int32)) hinr34 (g := (mkF m 61 #[.val (.int p0), .val (.int ln_), .val (.int c0_), .val (.int c1_)] [(.int c0_), (.int (0 : Int32)), (.ref b31), (.ref b31), (.ref b29), (.ref b29)])) rfl rfl (hb hby own_d1_61)
      have N35 := Fr.snoc X35 N0 ge_b31
      obtain ⟨Lf35, Nf35, Xf35⟩ := own_fold X35 N35
      have V35 : Arv Z h35 b31 kk31 .char (2 : Int32) [(.int (nar .char c0_)), (.int (0 : Int32))] (.int (0 : Int32)) := Arv.set Arr34 qr34 Sr34 Mr34 Hhr34 Gr34 (fits_nar_char _) W35 0 rfl (Nat.le_of_ble_eq_true rfl)
      have k36 : own_To p e below T35 (mkF m 65 #[.val (.int p0), .val (.int ln_), .val (.int c0_), .val (.int c1_)] [(.int c1_), (.int (1 : Int32)), (.ref b31), (.ref b31), (.ref b29), (.ref b29)]) s₁ (mkF m 0 #[.val (.int p0), .unset, .unset, .unset] []) := fun t q => k23 t (by
        refine XS.icmpYes X0.here hx rfl (pc0 := 43) (pc' := 51) rfl (hb hby own_d1_43) rfl (feq hc24).2 (by decide) (by decide) ?_
        show Steps p.tables e below (s₁.setTop (mkF m 51 #[.val (.int p0), .val (.int ln_), .val (.int c0_), .val (.int c1_)] [])) _
        refine st29 _ ?_
        show Steps p.tables e below (T29.setTop (mkF m 54 #[.val (.int p0), .val (.int ln_), .val (.int c0_), .val (.int c1_)] [(.ref b29)])) _
        refine XS.dup X29.here hx rfl (hb hby own_d1_54) rfl rfl ?_
        show Steps p.tables e below (T29.setTop (mkF m 55 #[.val (.int p0), .val (.int ln_), .val (.int c0_), .val (.int c1_)] [(.ref b29), (.ref b29)])) _
        refine XS.iconst X29.here hx rfl (hb hby own_d1_55) ?_
        show Steps p.tables e below (T29.setTop (mkF m 56 #[.val (.int p0), .val (.int ln_), .val (.int c0_), .val (.int c1_)] [(.int (2 : Int32)), (.ref b29), (.ref b29)])) _
        refine st31 _ ?_
        show Steps p.tables e below (T31.setTop (mkF m 58 #[.val (.int p0), .val (.int ln_), .val (.int c0_), .val (.int c1_)] [(.ref b31), (.ref b29), (.ref b29)])) _
        refine XS.dup X31.here hx rfl (hb hby own_d1_58) rfl rfl ?_
        show Steps p.tables e below (T31.setTop (mkF m 59 #[.val (.int p0), .val (.int ln_), .val (.int c0_), .val (.int c1_)] [(.ref b31), (.ref b31), (.ref b29), (.ref b29)])) _
        refine XS.iconst X31.here hx rfl (hb hby own_d1_59) ?_
        show Steps p.tables e below (T31.setTop (mkF m 60 #[.val (.int p0), .val (.int ln_), .val (.int c0_), .val (.int c1_)] [(.int (0 : Int32)), (.ref b31), (.ref b31), (.ref b29), (.ref b29)])) _
        refine XS.iloadN X31.here hx rfl (hb hby own_d1_60) rfl ?_
        show Steps p.tables e below (T31.setTop (mkF m 61 #[.val (.int p0), .val (.int ln_), .val (.int c0_), .val (.int c1_)] [(.int c0_), (.int (0 : Int32)), (.ref b31), (.ref b31), (.ref b29), (.ref b29)])) _
        refine st35 _ ?_
        show Steps p.tables e below (T35.setTop (mkF m 62 #[.val (.int p0), .val (.int ln_), .val (.int c0_), .val (.int c1_)] [(.ref b31), (.ref b29), (.ref b29)])) _
        refine XS.dup Xf35.here hx rfl (hb hby own_d1_62) rfl rfl ?_
        show Steps p.tables e below (T35.setTop (mkF m 63 #[.val (.int p0), .val (.int ln_), .val (.int c0_), .val (.int c1_)] [(.ref b31), (.ref b31), (.ref b29), (.ref b29)])) _
        refine XS.iconst Xf35.here hx rfl (hb hby own_d1_63) ?_
        show Steps p.tables e below (T35.setTop (mkF m 64 #[.val (.int p0), .val (.int ln_), .val (.int c0_), .val (.int c1_)] [(.int (1 : Int32)), (.ref b31), (.ref b31), (.ref b29), (.ref b29)])) _
        refine XS.iloadN Xf35.here hx rfl (hb hby own_d1_64) rfl ?_
        show Steps p.tables e below (T35.setTop (mkF m 65 #[.val (.int p0), .val (.int ln_), .val (.int c0_), .val (.int c1_)] [(.int c1_), (.int (1 : Int32)), (.ref b31), (.ref b31), (.ref b29), (.ref b29)])) _
        exact q)
      obtain ⟨clr37, Arr37, qr37, Sr37, Mr37, Hhr37, Gr37⟩ := id V35
      have hinr37 : ¬ ((1 : Int32) < 0 ∨ clr37.slots.size ≤ ((1 : Int32)).toNatClampNeg) := inb_of Sr37 ⟨by decide, by decide⟩
      obtain ⟨T38, h38, X38, e38, W38, st38⟩ := stC Xf35 hx hZ e35 Arr37 (j := (1 : Int32)) hinr37 (g := (mkF m 65 #[.val (.int p0), .val (.int ln_), .val (.int c0_), .val (.int c1_)] [(.int c1_), (.int (1 : Int32)), (.ref b31), (.ref b31), (.ref b29), (.ref b29)])) rfl rfl (hb hby own_d1_65)
      have N38 := Fr.snoc X38 Nf35 ge_b31
      obtain ⟨Lf38, Nf38, Xf38⟩ := own_fold X38 N38
      have V38 : Arv Z h38 b31 kk31 .char (2 : Int32) [(.int (nar .char c0_)), (.int (nar .char c1_))] (.int (0 : Int32)) := Arv.set Arr37 qr37 Sr37 Mr37 Hhr37 Gr37 (fits_nar_char _) W38 1 rfl (Nat.le_of_ble_eq_true rfl)
      have K40 : Keep h0 h38 [] := (((K33.ext E31).wr W35 (Or.inr sz_b31)).wr W38 (Or.inr sz_b31))
      have F41 := (((F29_20.ext E31).other W35 (Or.inl ne_b29_b31)).other W38 (Or.inl ne_b29_b31))
      have F42 := (((F29_21.ext E31).other W35 (Or.inl ne_b29_b31)).other W38 (Or.inl ne_b29_b31))
      have F43 := (((A29.ext E31).wr W35).wr W38)
      have O44 := ((O0.ext E29).ext E31)
      have O45 : Old Z n0 h38 := ((O44.wr W35 ge_b31).wr W38 ge_b31)
      obtain ⟨_, _, ⟨T39, L39, kk39, n39⟩, -, X39, ⟨Lc39, hQ39, l39, y39, z39⟩, st39⟩ := Xf38.specialBack hx (y := (⟨"java/lang/String", "<init>", "([C)V"⟩ : MethodName)) rfl hown (mvT hZ (hw _ (List.mem_of_getElem? (i := 8) rfl))) (mvT hZ (hw _ (List.mem_of_getElem? (i := 9) rfl))) (mvT hZ (hw _ (List.mem_of_getElem? (i := 10) rfl))) (by decide) (backOf (W := 1) (rmJ2 l Z a0 hw [] b29 b31 kk31 (nar .char c0_) (nar .char c1_) cs h38 n0 (Nat.le_trans Z0 K40.1) F41 F42 F43 ge_b29 V38 (own_hp _ r_c0_) (own_hp _ r_c1_) SC hcs O45) hZ (hw _ (List.mem_of_getElem? (i := 10) rfl)) (hw _ (List.mem_of_getElem? (i := 6) rfl)) (by decide) (by decide)) (g := (mkF m 66 #[.val (.int p0), .val (.int ln_), .val (.int c0_), .val (.int c1_)] [(.ref b31), (.ref b29), (.ref b29)])) rfl (by rw [hml]; rfl) (Steps.refl _) (a := b29) (argsL := [(.ref b31)]) (rest := [(.ref b29)]) (lenOf own_pd34 rfl) rfl (by show 2 * 0 + _ ≤ _; exact Nat.le_of_eq rfl) (hb hby own_d1_66) (fun _ _ => ⟨rfl, e38, (by decide : 2 + 1 ≤ _), (by decide : 6 + 2 ≤ _)⟩)
      dsimp only [Pt.U, Pt.locs, Pt.cells, Pt.slots] at X39 l39 y39 z39 st39 hQ39
      subst l39 y39 z39
      obtain ⟨rb39, kb39, rfl, N39q, K39, E39, Fc39, Fv39, V39⟩ := hQ39
      have N39 := Fr.app Nf38 N39q
      have K46 : Keep h0 T39.heap [] := (K40.trans K39 (allS (P := fun x => x ∈ ([] : List Addr) ∨ h0.size ≤ x) (Or.inr sz_b29) all0))
      have k47 : own_To p e below T39 (mkF m 69 #[.val (.int p0), .val (.int ln_), .val (.int c0_), .val (.int c1_)] [(.ref b29)]) s₁ (mkF m 0 #[.val (.int p0), .unset, .unset, .unset] []) := fun t q => k36 t (by
        refine st38 _ ?_
        show Steps p.tables e below (T38.setTop (mkF m 66 #[.val (.int p0), .val (.int ln_), .val (.int c0_), .val (.int c1_)] [(.ref b31), (.ref b29), (.ref b29)])) _
        refine st39.trans ?_
        show Steps p.tables e below (T39.setTop (mkF m 69 #[.val (.int p0), .val (.int ln_), .val (.int c0_), .val (.int c1_)] [(.ref b29)])) _
        exact q)
      have CRc48 := CRc32.trans (CHr.ext E31 CHc32)
      have Sfc48_b29 := Safe.ext E31 CHc32 Sfc32_b29
      have Sfc48_b31 := Safe.ext E31 CHc32 Sf31_b31
      have CHc48 := CRc48.1
      have CRc49 := CRc48.trans (CHr.wr W35 Sfc48_b31 CHc48)
      have Sfc49_b29 := Safe.wr W35 Sfc48_b31 CHc48 Sfc48_b29
      have Sfc49_b31 := Safe.wr W35 Sfc48_b31 CHc48 Sfc48_b31
      have CHc49 := CRc49.1
      have CRc50 := CRc49.trans (CHr.wr W38 Sfc49_b31 CHc49)
      have Sfc50_b29 := Safe.wr W38 Sfc49_b31 CHc49 Sfc49_b29
      have Sfc50_b31 := Safe.wr W38 Sfc49_b31 CHc49 Sfc49_b31
      have CHc50 := CRc50.1
      have CRc51 := CRc50.trans (CHr.keep K39 (sfS Sfc50_b29 sf0) CHc50)
      have Sfc51_b29 := Safe.keep K39 (sfS Sfc50_b29 sf0) CHc50 Sfc50_b29
      have Sfc51_b31 := Safe.keep K39 (sfS Sfc50_b29 sf0) CHc50 Sfc50_b31
      have CHc51 := CRc51.1
      have hCe := CRc51.trans (CHv.at (vm0 := s.vm) X39 hZ hEL CHc51)
      obtain ⟨fs, hr, hrun, hended, hEnd⟩ := Stand.leaveW (s := s) (vm₁ := s.vm) X39 (State.WarmedH.since (State.WarmedH.refl s) 0) (by exact (Nat.le_trans (Nat.le_trans (Nat.le_trans (Nat.le_trans (Nat.le_trans (Nat.zero_le _) E29.1) E31.1) (Keep.of_wr W35).1) (Keep.of_wr W38).1) K39.1)) (v := some (.ref b29)) (fun h => by rw [Bd.returns] at h; cases h)
      refine ⟨_, _, k0 _ (k47 _ ?_), hrun, hended, _, _, rfl, ?_, ?_, hEnd.1, hEnd.2.1, hEnd.2.2.1, hEnd.2.2.2.mono (by decide) (by decide)⟩
      · show Steps p.tables e below (T39.setTop (mkF m 69 #[.val (.int p0), .val (.int ln_), .val (.int c0_), .val (.int c1_)] [(.ref b29)])) _
        exact retOut X39 hx Bd.returns rfl (Or.inr (Or.inr (Or.inr (Or.inr ⟨rfl, rfl, rfl⟩)))) (hb hby own_d1_69) hr
      · show Q1 Z p0 cs h0 n0 _ T39.heap _
        exact ⟨b29, rb39, kb39, (2 : Int32), [(.int (own_by (nar .char c0_))), (.int (own_by (nar .char c1_)))], rfl, N39, K46, E39, Fc39, Fv39, V39, rfl, by decide, by decide⟩
      · show CHr Z own_EL s.vm s.heap T39.vm T39.heap
        rw [hh]; exact hCe
theorem own_crp {c z : Int32} (h0 : 0 ≤ c.toInt) (h1 : c.toInt < z.toInt) (h2 : c.toInt ≤ 34) : (¬ c < (0 : Int32)) ∧ c.toNatClampNeg ≤ z.toNatClampNeg ∧ c.toNatClampNeg ≤ 34 ∧ own_min z c = c ∧ ¬ c = z := by
  have a := own_tn h0
  have b := own_tn (z := z) (by omega)
  refine ⟨own_nn h0, by omega, by omega, ?_, fun q => by rw [q] at h1; omega⟩
  unfold own_min
  rw [if_pos (by rw [Int32.lt_iff_toInt_lt]; exact h1)]
theorem own_sum {a b c : Int32} (h : a.toInt + b.toInt = c.toInt) : a + b = c := by
  apply Int32.toInt_inj.mp
  have r := rng32 c
  rw [own_add a b (by omega)]; exact h
theorem own_pd4 : parseMethodDescriptor "()V" = some ⟨[], none⟩ := by decide +kernel
theorem own_pd22 : parseMethodDescriptor "(Ljava/lang/String;)Ljava/lang/StringBuilder;" = some ⟨[(.object "java/lang/String")], some (.object "java/lang/StringBuilder")⟩ := by decide +kernel
theorem own_pd3 : parseMethodDescriptor "()Ljava/lang/String;" = some ⟨[], some (.object "java/lang/String")⟩ := by decide +kernel
theorem own_d30_0 : decode prog_27_method_21_code 0 = .ok (.new 63, 3) := by decide +kernel
theorem own_d30_3 : decode prog_27_method_21_code 3 = .ok (.dup, 1) := by decide +kernel
theorem own_d30_4 : decode prog_27_method_21_code 4 = .ok (.invokespecial 65, 3) := by decide +kernel
theorem own_d30_7 : decode prog_27_method_21_code 7 = .ok (.ldc 108, 2) := by decide +kernel
theorem own_d30_9 : decode prog_27_method_21_code 9 = .ok (.invokevirtual 68, 3) := by decide +kernel
theorem own_d30_12 : decode prog_27_method_21_code 12 = .ok (.aload_n 0, 1) := by decide +kernel
theorem own_d30_13 : decode prog_27_method_21_code 13 = .ok (.invokevirtual 68, 3) := by decide +kernel
theorem own_d30_16 : decode prog_27_method_21_code 16 = .ok (.ldc 83, 2) := by decide +kernel
theorem own_d30_18 : decode prog_27_method_21_code 18 = .ok (.invokevirtual 68, 3) := by decide +kernel
theorem own_d30_21 : decode prog_27_method_21_code 21 = .ok (.aload_n 1, 1) := by decide +kernel
theorem own_d30_22 : decode prog_27_method_21_code 22 = .ok (.invokevirtual 68, 3) := by decide +kernel
theorem own_d30_25 : decode prog_27_method_21_code 25 = .ok (.ldc 110, 2) := by decide +kernel
theorem own_d30_27 : decode prog_27_method_21_code 27 = .ok (.invokevirtual 68, 3) := by decide +kernel
theorem own_d30_30 : decode prog_27_method_21_code 30 = .ok (.aload_n 2, 1) := by decide +kernel
theorem own_d30_31 : decode prog_27_method_21_code 31 = .ok (.invokevirtual 68, 3) := by decide +kernel
theorem own_d30_34 : decode prog_27_method_21_code 34 = .ok (.ldc 83, 2) := by decide +kernel
theorem own_d30_36 : decode prog_27_method_21_code 36 = .ok (.invokevirtual 68, 3) := by decide +kernel
theorem own_d30_39 : decode prog_27_method_21_code 39 = .ok (.aload_n 3, 1) := by decide +kernel
theorem own_d30_40 : decode prog_27_method_21_code 40 = .ok (.invokevirtual 68, 3) := by decide +kernel
theorem own_d30_43 : decode prog_27_method_21_code 43 = .ok (.invokevirtual 72, 3) := by decide +kernel
theorem own_d30_46 : decode prog_27_method_21_code 46 = .ok (.areturn, 1) := by decide +kernel
theorem own_pn30 : plainName "com/example/issuer/issuer/identity/Caller" = true := by first | (simp [plainName, overriddenIn]; done) | decide +kernel
theorem own_ef30 (m : MethodId) (x0 : Addr) (x1 : Addr) (x2 : Addr) (x3 : Addr) : entryFrame m #[(.ref x0), (.ref x1), (.ref x2), (.ref x3)] 4 = mkF m 0 #[.val (.ref x0), .val (.ref x1), .val (.ref x2), .val (.ref x3)] [] := by first | (simp [entryFrame, mkF, argsToLocals, Value.category]; done) | rfl
def Q30 (Z : State) (a0_ : Addr) (a1_ : Addr) (a2_ : Addr) (a3_ : Addr) (b0_ : Addr) (k0_ : ClassId) (z0 : Int32) (v0 : List Value) (b1_ : Addr) (k1_ : ClassId) (z1 : Int32) (v1 : List Value) (b2_ : Addr) (k2_ : ClassId) (z2 : Int32) (v2 : List Value) (b3_ : Addr) (k3_ : ClassId) (z3 : Int32) (v3 : List Value) (cs : Int32) (h0 : Heap) (n0 : Nat) (v : Option Value) (h : Heap) (L : List Loc) : Prop := ∃ (r b : Addr) (kb : ClassId) (z : Int32) (vs : List Value), v = some (.ref r) ∧ Fr n0 L ∧ Keep h0 h [] ∧ Exa Z h r "java/lang/String" ∧ Fld Z h r "java/lang/String" "coder" "B" (.int (0 : Int32)) ∧ Fld Z h r "java/lang/String" "value" "[B" (.ref b) ∧ Arv Z h b kb .byte z vs (.int (0 : Int32)) ∧ vs.length = z.toNatClampNeg ∧ z.toInt = 8 + z0.toInt + z1.toInt + z2.toInt + z3.toInt ∧ vs = ((((((((([] : List Value) ++ [(.int (97 : Int32)), (.int (114 : Int32)), (.int (110 : Int32)), (.int (58 : Int32))]) ++ v0) ++ [(.int (58 : Int32))]) ++ v1) ++ [(.int (58 : Int32)), (.int (58 : Int32))]) ++ v2) ++ [(.int (58 : Int32))]) ++ v3)
set_option maxRecDepth 65536 in
set_option maxHeartbeats 40000000 in
theorem rm30 (l : Launch) (Z : State) (a0 : Array Value) (hw : ∀ d ∈ tables_1, d.before a0 Z = true) (ws : List Jvm.Cond) (a0_ : Addr) (a1_ : Addr) (a2_ : Addr) (a3_ : Addr) (b0_ : Addr) (k0_ : ClassId) (z0 : Int32) (v0 : List Value) (b1_ : Addr) (k1_ : ClassId) (z1 : Int32) (v1 : List Value) (b2_ : Addr) (k2_ : ClassId) (z2 : Int32) (v2 : List Value) (b3_ : Addr) (k3_ : ClassId) (z3 : Int32) (v3 : List Value) (cs : Int32) (h0 : Heap) (n0 : Nat) (Z0 : n0 ≤ h0.size) (Es0 : Exa Z h0 a0_ "java/lang/String") (Fcs0 : Fld Z h0 a0_ "java/lang/String" "coder" "B" (.int (0 : Int32))) (Fvs0 : Fld Z h0 a0_ "java/lang/String" "value" "[B" (.ref b0_)) (Vs0 : Arv Z h0 b0_ k0_ .byte z0 v0 (.int (0 : Int32))) (hl0 : v0.length = z0.toNatClampNeg) (Es1 : Exa Z h0 a1_ "java/lang/String") (Fcs1 : Fld Z h0 a1_ "java/lang/String" "coder" "B" (.int (0 : Int32))) (Fvs1 : Fld Z h0 a1_ "java/lang/String" "value" "[B" (.ref b1_)) (Vs1 : Arv Z h0 b1_ k1_ .byte z1 v1 (.int (0 : Int32))) (hl1 : v1.length = z1.toNatClampNeg) (Es2 : Exa Z h0 a2_ "java/lang/String") (Fcs2 : Fld Z h0 a2_ "java/lang/String" "coder" "B" (.int (0 : Int32))) (Fvs2 : Fld Z h0 a2_ "java/lang/String" "value" "[B" (.ref b2_)) (Vs2 : Arv Z h0 b2_ k2_ .byte z2 v2 (.int (0 : Int32))) (hl2 : v2.length = z2.toNatClampNeg) (Es3 : Exa Z h0 a3_ "java/lang/String") (Fcs3 : Fld Z h0 a3_ "java/lang/String" "coder" "B" (.int (0 : Int32))) (Fvs3 : Fld Z h0 a3_ "java/lang/String" "value" "[B" (.ref b3_)) (Vs3 : Arv Z h0 b3_ k3_ .byte z3 v3 (.int (0 : Int32))) (hl3 : v3.length = z3.toNatClampNeg) (SC : Sta Z Z.heap "java/lang/String" "COMPACT_STRINGS" "Z" (.int cs)) (hcs : ¬ cs = (0 : Int32)) (O0 : Old Z n0 h0) (hz0 : 0 ≤ z0.toInt ∧ z0.toInt ≤ 2) (hz1 : z1.toInt = 3) (hz2 : 0 ≤ z2.toInt ∧ z2.toInt ≤ 2) (hz3 : 5 ≤ z3.toInt ∧ z3.toInt ≤ 7) (hEL : EW Z a0 own_EL) :
    MetFree l (⟨"com/example/issuer/issuer/identity/Caller", "arn", "(Ljava/lang/String;Ljava/lang/String;Ljava/lang/String;Ljava/lang/String;)Ljava/lang/String;"⟩ : MethodName) (head1 (Jvm.Cond.code (⟨"com/example/issuer/issuer/identity/Caller", "arn", "(Ljava/lang/String;Ljava/lang/String;Ljava/lang/String;Ljava/lang/String;)Ljava/lang/String;"⟩ : MethodName) prog_27_method_21_code 4 (some (.object "java/lang/String")) :: ws) ({ frames := 6, cells := 13, slots := 140, locals := 91 } : Room)) (fun a U => a = #[(.ref a0_), (.ref a1_), (.ref a2_), (.ref a3_)] ∧ Z.Warmed39 U.vm ∧ U.heap = h0 ∧ CHv Z own_EL U.vm h0) (fun _ _ _ _ _ => True) (fun _ U o U' => ∃ v L, o = .returned v ∧ Q30 Z a0_ a1_ a2_ a3_ b0_ k0_ z0 v0 b1_ k1_ z1 v1 b2_ k2_ z2 v2 b3_ k3_ z3 v3 cs h0 n0 v U'.heap L ∧ CHr Z own_EL U.vm U.heap U'.vm U'.heap ∧ ReturnedEndW U o U' L ({ frames := 6, cells := 13, slots := 140, locals := 91 } : Room).cells ({ frames := 6, cells := 13, slots := 140, locals := 91 } : Room).slots) := by
  refine MetFree.of_bodySF (plainFor_of_name own_pn30) hisR ?_
  intro p e s m args below meth c s₁ Bd hml0 hP hK
  obtain ⟨rfl, hZ, hh, hCH⟩ := hP
  have hx := Bd.exec
  have hby := Bd.bytes
  have hml : c.maxLocals = 4 := hml0
  have hown : s.vm.findClass "com/example/issuer/issuer/identity/Caller" = some m.cls := findClass_of_methodNamed Bd.named
  have hnm := (name_of_methodNamed Bd.named Bd.method).1
  have X0 : Stand p l e ({ frames := 6, cells := 13, slots := 140, locals := 91 } : Room) s m #[(.ref a0_), (.ref a1_), (.ref a2_), (.ref a3_)] below meth c s₁ [] 0 0 := Stand.of_body Bd
  have e0 : s₁.heap = h0 := by rw [← hh, Bd.state]; rfl
  have N0 := Fr.nil n0
  have k0 : own_To p e below s₁ (mkF m 0 #[.val (.ref a0_), .val (.ref a1_), .val (.ref a2_), .val (.ref a3_)] []) s₁ (entryFrame m #[(.ref a0_), (.ref a1_), (.ref a2_), (.ref a3_)] 4) := fun t k => castTop (own_ef30 m a0_ a1_ a2_ a3_) k
  have ki : own_To p e below s₁ (mkF m 0 #[.val (.ref a0_), .val (.ref a1_), .val (.ref a2_), .val (.ref a3_)] []) s₁ (mkF m 0 #[.val (.ref a0_), .val (.ref a1_), .val (.ref a2_), .val (.ref a3_)] []) := fun t q => q
  have hstr : ∀ a ∈ Bundle.stringAtoms, a.before a0 Z = true := fun d hd => hw d ((by decide +kernel : ∀ d ∈ Bundle.stringAtoms, d ∈ tables_1) d hd)
  have X0 := own_base X0
  have CR0 := CHr.refl hCH
  obtain ⟨T1, h1, X1, e1, E1, A1, D1, -, st1⟩ := newO X0 hx hZ hown (hw _ (List.mem_of_getElem? (i := 42) rfl)) (hw _ (List.mem_of_getElem? (i := 43) rfl)) (hw _ (List.mem_of_getElem? (i := 44) rfl)) e0 (g := (mkF m 0 #[.val (.ref a0_), .val (.ref a1_), .val (.ref a2_), .val (.ref a3_)] [])) rfl (hb hby own_d30_0) (by decide) (by decide)
  obtain ⟨b1, g1⟩ : ∃ z, z = h0.size := ⟨_, rfl⟩
  rw [← g1] at A1 D1 st1
  have Sf1_b1 : Safe Z own_EL s.vm h0 b1 := Safe.new (Nat.le_of_eq g1.symm)
  have ge_b1 : n0 ≤ b1 := Nat.le_trans Z0 (Nat.le_of_eq g1.symm)
  have K2 : Keep h0 h0 [] := (Keep.refl h0 [])
  have sz_b1 : h0.size ≤ b1 := Nat.le_trans K2.1 (Nat.le_of_eq g1.symm)
  have ne_a0__b1 : a0_ ≠ b1 := Nat.ne_of_lt (Nat.lt_of_lt_of_le Es0.lt (Nat.le_of_eq g1.symm))
  have ne_b0__b1 : b0_ ≠ b1 := Nat.ne_of_lt (Nat.lt_of_lt_of_le Vs0.lt (Nat.le_of_eq g1.symm))
  have ne_a1__b1 : a1_ ≠ b1 := Nat.ne_of_lt (Nat.lt_of_lt_of_le Es1.lt (Nat.le_of_eq g1.symm))
  have ne_b1__b1 : b1_ ≠ b1 := Nat.ne_of_lt (Nat.lt_of_lt_of_le Vs1.lt (Nat.le_of_eq g1.symm))
  have ne_a2__b1 : a2_ ≠ b1 := Nat.ne_of_lt (Nat.lt_of_lt_of_le Es2.lt (Nat.le_of_eq g1.symm))
  have ne_b2__b1 : b2_ ≠ b1 := Nat.ne_of_lt (Nat.lt_of_lt_of_le Vs2.lt (Nat.le_of_eq g1.symm))
  have ne_a3__b1 : a3_ ≠ b1 := Nat.ne_of_lt (Nat.lt_of_lt_of_le Es3.lt (Nat.le_of_eq g1.symm))
  have ne_b3__b1 : b3_ ≠ b1 := Nat.ne_of_lt (Nat.lt_of_lt_of_le Vs3.lt (Nat.le_of_eq g1.symm))
  have F1_57 : Fld Z h1 b1 "java/lang/AbstractStringBuilder" "value" "[B" .null := D1 (Or.inl (hw _ (List.mem_of_getElem? (i := 57) rfl))) (ty := (.array .byte)) (by decide)
  have F1_59 : Fld Z h1 b1 "java/lang/AbstractStringBuilder" "coder" "B" (.int (0 : Int32)) := D1 (Or.inl (hw _ (List.mem_of_getElem? (i := 59) rfl))) (ty := .byte) (by decide)
  have F1_82 : Fld Z h1 b1 "java/lang/AbstractStringBuilder" "count" "I" (.int (0 : Int32)) := D1 (Or.inl (hw _ (List.mem_of_getElem? (i := 82) rfl))) (ty := .int) (by decide)
  have K4 : Keep h0 h1 [] := (K2.ext E1)
  have O5 : Old Z n0 h1 := (O0.ext E1)
  obtain ⟨_, _, ⟨T3, L3, kk3, n3⟩, -, X3, ⟨Lc3, hQ3, l3, y3, z3⟩, st3⟩ := X1.specialBack hx (y := (⟨"java/lang/StringBuilder", "<init>", "()V"⟩ : MethodName)) rfl hown (mvT hZ (hw _ (List.mem_of_getElem? (i := 45) rfl))) (mvT hZ (hw _ (List.mem_of_getElem? (i := 46) rfl))) (mvT hZ (hw _ (List.mem_of_getElem? (i := 47) rfl))) (by decide) (backOf (W := 1) (rm9 l Z a0 hw [] b1 cs h1 n0 (Nat.le_trans Z0 K4.1) F1_57 F1_59 F1_82 A1 ge_b1 SC hcs O5) hZ (hw _ (List.mem_of_getElem? (i := 47) rfl)) (hw _ (List.mem_of_getElem? (i := 44) rfl)) (by decide) (by decide)) (g := (mkF m 4 #[.val (.ref a0_), .val (.ref a1_), .val (.ref a2_), .val (.ref a3_)] [(.ref b1), (.ref b1)])) rfl (by rw [hml]; rfl) (Steps.refl _) (a := b1) (argsL := []) (rest := [(.ref b1)]) (lenOf own_pd4 rfl) rfl (by show 2 * 0 + _ ≤ _; exact Nat.le_of_eq rfl) (hb hby own_d30_4) (fun _ _ => ⟨rfl, e1, (by decide : 1 + 1 ≤ _), (by decide : 4 + 16 ≤ _)⟩)
  dsimp only [Pt.U, Pt.locs, Pt.cells, Pt.slots] at X3 l3 y3 z3 st3 hQ3
  subst l3 y3 z3
  obtain ⟨rb3, kb3, rfl, N3q, K3, z3z, P3⟩ := hQ3
  have F6 := (Es0.ext E1)
  have ne_a0__rb3 : a0_ ≠ rb3 := Nat.ne_of_lt (Nat.lt_of_lt_of_le F6.lt z3z)
  have F7 := (Vs0.ext E1)
  have ne_b0__rb3 : b0_ ≠ rb3 := Nat.ne_of_lt (Nat.lt_of_lt_of_le F7.lt z3z)
  have F8 := (Es1.ext E1)
  have ne_a1__rb3 : a1_ ≠ rb3 := Nat.ne_of_lt (Nat.lt_of_lt_of_le F8.lt z3z)
  have F9 := (Vs1.ext E1)
  have ne_b1__rb3 : b1_ ≠ rb3 := Nat.ne_of_lt (Nat.lt_of_lt_of_le F9.lt z3z)
  have F10 := (Es2.ext E1)
  have ne_a2__rb3 : a2_ ≠ rb3 := Nat.ne_of_lt (Nat.lt_of_lt_of_le F10.lt z3z)
  have F11 := (Vs2.ext E1)
  have ne_b2__rb3 : b2_ ≠ rb3 := Nat.ne_of_lt (Nat.lt_of_lt_of_le F11.lt z3z)
  have F12 := (Es3.ext E1)
  have ne_a3__rb3 : a3_ ≠ rb3 := Nat.ne_of_lt (Nat.lt_of_lt_of_le F12.lt z3z)
  have F13 := (Vs3.ext E1)
  have ne_b3__rb3 : b3_ ≠ rb3 := Nat.ne_of_lt (Nat.lt_of_lt_of_le F13.lt z3z)
  have ne_b1_rb3 : b1 ≠ rb3 := Nat.ne_of_lt (Nat.lt_of_lt_of_le A1.lt z3z)
  have sz_rb3 : h0.size ≤ rb3 := Nat.le_trans K4.1 z3z
  have ge_rb3 : n0 ≤ rb3 := Nat.le_trans Z0 sz_rb3
  have CRc14 := CR0.trans (CHr.ext E1 hCH)
  have Sfc14_b1 := Safe.ext E1 hCH Sf1_b1
  have CHc14 := CRc14.1
  have Sf3_rb3 : Safe Z own_EL s.vm h1 rb3 := Safe.new z3z
  have N3 := Fr.app N0 N3q
  have k15 : own_To p e below T3 (mkF m 7 #[.val (.ref a0_), .val (.ref a1_), .val (.ref a2_), .val (.ref a3_)] [(.ref b1)]) s₁ (mkF m 0 #[.val (.ref a0_), .val (.ref a1_), .val (.ref a2_), .val (.ref a3_)] []) := fun t q => ki t (by
    refine st1 _ ?_
    show Steps p.tables e below (T1.setTop (mkF m 3 #[.val (.ref a0_), .val (.ref a1_), .val (.ref a2_), .val (.ref a3_)] [(.ref b1)])) _
    refine XS.dup X1.here hx rfl (hb hby own_d30_3) rfl rfl ?_
    show Steps p.tables e below (T1.setTop (mkF m 4 #[.val (.ref a0_), .val (.ref a1_), .val (.ref a2_), .val (.ref a3_)] [(.ref b1), (.ref b1)])) _
    refine st3.trans ?_
    show Steps p.tables e below (T3.setTop (mkF m 7 #[.val (.ref a0_), .val (.ref a1_), .val (.ref a2_), .val (.ref a3_)] [(.ref b1)])) _
    exact q)
  have CRc17 := CRc14.trans (CHr.keep K3 (sfS Sfc14_b1 sf0) CHc14)
  have Sfc17_b1 := Safe.keep K3 (sfS Sfc14_b1 sf0) CHc14 Sfc14_b1
  have Sfc17_rb3 := Safe.keep K3 (sfS Sfc14_b1 sf0) CHc14 Sf3_rb3
  have CHc17 := CRc17.1
  obtain ⟨b16, T16, h16, kk16, bb16, kb16, X16, e16, E16, hS16, hk16, hZ16, hown16, Ex16, Fc16, Fv16, V16, -, -, hC16, -, -, st16⟩ := ldcCH (vm0 := s.vm) X3 hx hZ hown (hw _ (List.mem_of_getElem? (i := 156) rfl)) hstr rfl (State.WarmedH.since (State.WarmedH.refl s) 0) (Nat.le_trans (Nat.le_trans (Nat.zero_le _) E1.1) K3.1) hEL (List.mem_of_getElem? (i := 3) rfl) CHc17 (vs := [(.int (97 : Int32)), (.int (114 : Int32)), (.int (110 : Int32)), (.int (58 : Int32))]) (z := (4 : Int32)) ⟨by decide, rfl⟩ (by decide) rfl (g := (mkF m 7 #[.val (.ref a0_), .val (.ref a1_), .val (.ref a2_), .val (.ref a3_)] [(.ref b1)])) rfl (hb hby own_d30_7) (n := 16) (by decide) (by decide) (by decide) (by decide)
  have hZ := hZ16
  have hown := hown16
  have CRl16 := CRc17.trans hC16
  have CHl16 := CRl16.1
  have Sf16_b1 := hC16.safe ((own_sbo P3).1.lt) Sfc17_b1
  have Sf16_rb3 := hC16.safe ((own_sbo P3).2.2.2.2.1.lt) Sfc17_rb3
  have F19 := ((own_sbo P3).1.ext E16)
  have F20 := ((own_sbo P3).2.1.ext E16)
  have F21 := ((own_sbo P3).2.2.1.ext E16)
  have F22 := ((own_sbo P3).2.2.2.1.ext E16)
  have F23 := ((own_sbo P3).2.2.2.2.1.ext E16)
  have F24 := ((own_sbo P3).2.2.2.2.2.1.ext E16)
  have P25 : own_sb Z h16 b1 rb3 kb3 (16 : Int32) (0 : Int32) ([] : List Value) := ⟨F19, F20, F21, F22, F23, F24, (own_sbo P3).2.2.2.2.2.2⟩
  have tl_0 : (0 : Int32).toInt = 0 := rfl
  have tl_4 : (4 : Int32).toInt = 4 := rfl
  have K26 : Keep h0 h16 [] := ((K4.trans K3 (allS (P := fun x => x ∈ ([] : List Addr) ∨ h0.size ≤ x) (Or.inr sz_b1) all0)).ext E16)
  have O27 : Old Z n0 h16 := ((O5.keep K3 (allS ge_b1 all0)).ext E16)
  obtain ⟨cq18, kq18, q18a, q18b, q18c⟩ := isOf hZ e16 F19
  obtain ⟨_, _, ⟨T18, L18, kk18, n18⟩, -, X18, ⟨Lc18, hQ18, l18, y18, z18⟩, st18⟩ := X16.virtualBack hx (y := (⟨"java/lang/StringBuilder", "append", "(Ljava/lang/String;)Ljava/lang/StringBuilder;"⟩ : MethodName)) (z := (⟨"java/lang/StringBuilder", "append", "(Ljava/lang/String;)Ljava/lang/StringBuilder;"⟩ : MethodName)) hown (mvT hZ (hw _ (List.mem_of_getElem? (i := 61) rfl))) (mvT hZ (hw _ (List.mem_of_getElem? (i := 62) rfl))) (notFace_of_selects (args := #[]) (mvT hZ (hw _ (List.mem_of_getElem? (i := 64) rfl)))) (mvT hZ (hw _ (List.mem_of_getElem? (i := 64) rfl))) (mvT hZ (hw _ (List.mem_of_getElem? (i := 63) rfl))) (by decide) (backOf (W := 0) (rmS1 l Z a0 hw [] b1 b16 rb3 kb3 (0 : Int32) ([] : List Value) bb16 kb16 (4 : Int32) [(.int (97 : Int32)), (.int (114 : Int32)), (.int (110 : Int32)), (.int (58 : Int32))] cs (4 : Int32) h16 n0 (Nat.le_trans Z0 K26.1) P25 Ex16 Fc16 Fv16 V16 (by decide) SC hcs O27 (by omega) (by omega) (by decide) (by omega) ge_b1 ge_rb3) hZ (hw _ (List.mem_of_getElem? (i := 65) rfl)) (hw _ (List.mem_of_getElem? (i := 44) rfl)) (by decide) (by decide)) q18a q18c (g := (mkF m 9 #[.val (.ref a0_), .val (.ref a1_), .val (.ref a2_), .val (.ref a3_)] [(.ref b16), (.ref b1)])) rfl (by rw [hml]; rfl) (Steps.refl _) (argsL := [(.ref b16)]) (rest := []) (lenOf own_pd22 rfl) rfl (by show 2 * 0 + _ ≤ _; exact Nat.le_of_eq rfl) (hb hby own_d30_9) (fun _ _ => ⟨rfl, e16, (by decide : 4 + 0 ≤ _), (by decide : 40 + 0 ≤ _)⟩)
  dsimp only [Pt.U, Pt.locs, Pt.cells, Pt.slots] at X18 l18 y18 z18 st18 hQ18
  subst l18 y18 z18
  obtain ⟨rfl, N18q, K18, P18⟩ := hQ18
  have N18 := Fr.app N3 N18q
  have P29 : own_sb Z T18.heap b1 rb3 kb3 (16 : Int32) (4 : Int32) (([] : List Value) ++ [(.int (97 : Int32)), (.int (114 : Int32)), (.int (110 : Int32)), (.int (58 : Int32))]) := ⟨(own_sbo P18).1, (own_sbo P18).2.1, (own_sbo P18).2.2.1, (own_sbo P18).2.2.2.1, (own_sbo P18).2.2.2.2.1, (own_sbo P18).2.2.2.2.2.1, (own_sbo P18).2.2.2.2.2.2⟩
  have F30 := (((F6.keep K3).ext E16).keep K18)
  have F31 := (((Fcs0.ext E1).keep K3 (ninS ne_a0__b1 nin0)).ext E16)
  have F32 := (F31.keep K18 (ninS ne_a0__b1 (ninS ne_a0__rb3 nin0)))
  have F33 := (((Fvs0.ext E1).keep K3 (ninS ne_a0__b1 nin0)).ext E16)
  have F34 := (F33.keep K18 (ninS ne_a0__b1 (ninS ne_a0__rb3 nin0)))
  have F35 := (((F7.keep K3 (ninS ne_b0__b1 nin0)).ext E16).keep K18 (ninS ne_b0__b1 (ninS ne_b0__rb3 nin0)))
  obtain ⟨cn36, hcn36⟩ : ∃ y, (4 : Int32) + z0 = y := ⟨_, rfl⟩
  have tcn36 := own_fit (c := (4 : Int32)) (y := z0) (by omega) (by omega) (by omega) hcn36
  have K37 : Keep h0 T18.heap [] := (K26.trans K18 (allS (P := fun x => x ∈ ([] : List Addr) ∨ h0.size ≤ x) (Or.inr sz_b1) (allS (P := fun x => x ∈ ([] : List Addr) ∨ h0.size ≤ x) (Or.inr sz_rb3) all0)))
  have O38 : Old Z n0 T18.heap := (O27.keep K18 (allS ge_b1 (allS ge_rb3 all0)))
  obtain ⟨cq28, kq28, q28a, q28b, q28c⟩ := isOf hZ rfl (own_sbo P18).1
  obtain ⟨_, _, ⟨T28, L28, kk28, n28⟩, -, X28, ⟨Lc28, hQ28, l28, y28, z28⟩, st28⟩ := X18.virtualBack hx (y := (⟨"java/lang/StringBuilder", "append", "(Ljava/lang/String;)Ljava/lang/StringBuilder;"⟩ : MethodName)) (z := (⟨"java/lang/StringBuilder", "append", "(Ljava/lang/String;)Ljava/lang/StringBuilder;"⟩ : MethodName)) hown (mvT hZ (hw _ (List.mem_of_getElem? (i := 61) rfl))) (mvT hZ (hw _ (List.mem_of_getElem? (i := 62) rfl))) (notFace_of_selects (args := #[]) (mvT hZ (hw _ (List.mem_of_getElem? (i := 64) rfl)))) (mvT hZ (hw _ (List.mem_of_getElem? (i := 64) rfl))) (mvT hZ (hw _ (List.mem_of_getElem? (i := 63) rfl))) (by decide) (backOf (W := 0) (rmS1 l Z a0 hw [] b1 a0_ rb3 kb3 (4 : Int32) (([] : List Value) ++ [(.int (97 : Int32)), (.int (114 : Int32)), (.int (110 : Int32)), (.int (58 : Int32))]) b0_ k0_ z0 v0 cs cn36 T18.heap n0 (Nat.le_trans Z0 K37.1) P29 F30 F32 F34 F35 hl0 SC hcs O38 (by omega) (by omega) hcn36 (by omega) ge_b1 ge_rb3) hZ (hw _ (List.mem_of_getElem? (i := 65) rfl)) (hw _ (List.mem_of_getElem? (i := 44) rfl)) (by decide) (by decide)) q28a q28c (g := (mkF m 13 #[.val (.ref a0_), .val (.ref a1_), .val (.ref a2_), .val (.ref a3_)] [(.ref a0_), (.ref b1)])) rfl (by rw [hml]; rfl) (Steps.refl _) (argsL := [(.ref a0_)]) (rest := []) (lenOf own_pd22 rfl) rfl (by show 2 * 0 + _ ≤ _; exact Nat.le_of_eq rfl) (hb hby own_d30_13) (fun _ _ => ⟨rfl, rfl, (by decide : 4 + 0 ≤ _), (by decide : 40 + 0 ≤ _)⟩)
  dsimp only [Pt.U, Pt.locs, Pt.cells, Pt.slots] at X28 l28 y28 z28 st28 hQ28
  subst l28 y28 z28
  obtain ⟨rfl, N28q, K28, P28⟩ := hQ28
  have N28 := Fr.app N18 N28q
  have k39 : own_To p e below T28 (mkF m 16 #[.val (.ref a0_), .val (.ref a1_), .val (.ref a2_), .val (.ref a3_)] [(.ref b1)]) s₁ (mkF m 0 #[.val (.ref a0_), .val (.ref a1_), .val (.ref a2_), .val (.ref a3_)] []) := fun t q => k15 t (by
    refine st16 _ ?_
    show Steps p.tables e below (T16.setTop (mkF m 9 #[.val (.ref a0_), .val (.ref a1_), .val (.ref a2_), .val (.ref a3_)] [(.ref b16), (.ref b1)])) _
    refine st18.trans ?_
    show Steps p.tables e below (T18.setTop (mkF m 12 #[.val (.ref a0_), .val (.ref a1_), .val (.ref a2_), .val (.ref a3_)] [(.ref b1)])) _
    refine XS.aloadN X18.here hx rfl (hb hby own_d30_12) rfl rfl ?_
    show Steps p.tables e below (T18.setTop (mkF m 13 #[.val (.ref a0_), .val (.ref a1_), .val (.ref a2_), .val (.ref a3_)] [(.ref a0_), (.ref b1)])) _
    refine st28.trans ?_
    show Steps p.tables e below (T28.setTop (mkF m 16 #[.val (.ref a0_), .val (.ref a1_), .val (.ref a2_), .val (.ref a3_)] [(.ref b1)])) _
    exact q)
  have CRc41 := CRl16.trans (CHr.keep K18 (sfS Sf16_b1 (sfS Sf16_rb3 sf0)) CHl16)
  have Sfc41_b1 := Safe.keep K18 (sfS Sf16_b1 (sfS Sf16_rb3 sf0)) CHl16 Sf16_b1
  have Sfc41_rb3 := Safe.keep K18 (sfS Sf16_b1 (sfS Sf16_rb3 sf0)) CHl16 Sf16_rb3
  have CHc41 := CRc41.1
  have CRc42 := CRc41.trans (CHr.keep K28 (sfS Sfc41_b1 (sfS Sfc41_rb3 sf0)) CHc41)
  have Sfc42_b1 := Safe.keep K28 (sfS Sfc41_b1 (sfS Sfc41_rb3 sf0)) CHc41 Sfc41_b1
  have Sfc42_rb3 := Safe.keep K28 (sfS Sfc41_b1 (sfS Sfc41_rb3 sf0)) CHc41 Sfc41_rb3
  have CHc42 := CRc42.1
  obtain ⟨b40, T40, h40, kk40, bb40, kb40, X40, e40, E40, hS40, hk40, hZ40, hown40, Ex40, Fc40, Fv40, V40, -, -, hC40, -, -, st40⟩ := ldcCH (vm0 := T16.vm) X28 hx hZ hown (hw _ (List.mem_of_getElem? (i := 157) rfl)) hstr rfl hS16 (Nat.le_trans (Nat.le_trans hk16 K18.1) K28.1) hEL (List.mem_of_getElem? (i := 1) rfl) CHc42 (vs := [(.int (58 : Int32))]) (z := (1 : Int32)) ⟨by decide, rfl⟩ (by decide) rfl (g := (mkF m 16 #[.val (.ref a0_), .val (.ref a1_), .val (.ref a2_), .val (.ref a3_)] [(.ref b1)])) rfl (hb hby own_d30_16) (n := 4) (by decide) (by decide) (by decide) (by decide)
  have hZ := hZ40
  have hown := hown40
  have CRl40 := CRc42.trans hC40
  have CHl40 := CRl40.1
  have Sf40_b1 := hC40.safe ((own_sbo P28).1.lt) Sfc42_b1
  have Sf40_rb3 := hC40.safe ((own_sbo P28).2.2.2.2.1.lt) Sfc42_rb3
  have F44 := ((own_sbo P28).1.ext E40)
  have F45 := ((own_sbo P28).2.1.ext E40)
  have F46 := ((own_sbo P28).2.2.1.ext E40)
  have F47 := ((own_sbo P28).2.2.2.1.ext E40)
  have F48 := ((own_sbo P28).2.2.2.2.1.ext E40)
  have F49 := ((own_sbo P28).2.2.2.2.2.1.ext E40)
  have P50 : own_sb Z h40 b1 rb3 kb3 (16 : Int32) cn36 ((([] : List Value) ++ [(.int (97 : Int32)), (.int (114 : Int32)), (.int (110 : Int32)), (.int (58 : Int32))]) ++ v0) := ⟨F44, F45, F46, F47, F48, F49, (own_sbo P28).2.2.2.2.2.2⟩
  have tl_1 : (1 : Int32).toInt = 1 := rfl
  obtain ⟨cn51, hcn51⟩ : ∃ y, cn36 + (1 : Int32) = y := ⟨_, rfl⟩
  have tcn51 := own_fit (c := cn36) (y := (1 : Int32)) (by omega) (by omega) (by omega) hcn51
  have K52 : Keep h0 h40 [] := ((K37.trans K28 (allS (P := fun x => x ∈ ([] : List Addr) ∨ h0.size ≤ x) (Or.inr sz_b1) (allS (P := fun x => x ∈ ([] : List Addr) ∨ h0.size ≤ x) (Or.inr sz_rb3) all0))).ext E40)
  have O53 : Old Z n0 h40 := ((O38.keep K28 (allS ge_b1 (allS ge_rb3 all0))).ext E40)
  obtain ⟨cq43, kq43, q43a, q43b, q43c⟩ := isOf hZ e40 F44
  obtain ⟨_, _, ⟨T43, L43, kk43, n43⟩, -, X43, ⟨Lc43, hQ43, l43, y43, z43⟩, st43⟩ := X40.virtualBack hx (y := (⟨"java/lang/StringBuilder", "append", "(Ljava/lang/String;)Ljava/lang/StringBuilder;"⟩ : MethodName)) (z := (⟨"java/lang/StringBuilder", "append", "(Ljava/lang/String;)Ljava/lang/StringBuilder;"⟩ : MethodName)) hown (mvT hZ (hw _ (List.mem_of_getElem? (i := 61) rfl))) (mvT hZ (hw _ (List.mem_of_getElem? (i := 62) rfl))) (notFace_of_selects (args := #[]) (mvT hZ (hw _ (List.mem_of_getElem? (i := 64) rfl)))) (mvT hZ (hw _ (List.mem_of_getElem? (i := 64) rfl))) (mvT hZ (hw _ (List.mem_of_getElem? (i := 63) rfl))) (by decide) (backOf (W := 0) (rmS1 l Z a0 hw [] b1 b40 rb3 kb3 cn36 ((([] : List Value) ++ [(.int (97 : Int32)), (.int (114 : Int32)), (.int (110 : Int32)), (.int (58 : Int32))]) ++ v0) bb40 kb40 (1 : Int32) [(.int (58 : Int32))] cs cn51 h40 n0 (Nat.le_trans Z0 K52.1) P50 Ex40 Fc40 Fv40 V40 (by decide) SC hcs O53 (by omega) (by omega) hcn51 (by omega) ge_b1 ge_rb3) hZ (hw _ (List.mem_of_getElem? (i := 65) rfl)) (hw _ (List.mem_of_getElem? (i := 44) rfl)) (by decide) (by decide)) q43a q43c (g := (mkF m 18 #[.val (.ref a0_), .val (.ref a1_), .val (.ref a2_), .val (.ref a3_)] [(.ref b40), (.ref b1)])) rfl (by rw [hml]; rfl) (Steps.refl _) (argsL := [(.ref b40)]) (rest := []) (lenOf own_pd22 rfl) rfl (by show 2 * 0 + _ ≤ _; exact Nat.le_of_eq rfl) (hb hby own_d30_18) (fun _ _ => ⟨rfl, e40, (by decide : 6 + 0 ≤ _), (by decide : 48 + 0 ≤ _)⟩)
  dsimp only [Pt.U, Pt.locs, Pt.cells, Pt.slots] at X43 l43 y43 z43 st43 hQ43
  subst l43 y43 z43
  obtain ⟨rfl, N43q, K43, P43⟩ := hQ43
  have N43 := Fr.app N28 N43q
  have P55 : own_sb Z T43.heap b1 rb3 kb3 (16 : Int32) cn51 (((([] : List Value) ++ [(.int (97 : Int32)), (.int (114 : Int32)), (.int (110 : Int32)), (.int (58 : Int32))]) ++ v0) ++ [(.int (58 : Int32))]) := ⟨(own_sbo P43).1, (own_sbo P43).2.1, (own_sbo P43).2.2.1, (own_sbo P43).2.2.2.1, (own_sbo P43).2.2.2.2.1, (own_sbo P43).2.2.2.2.2.1, (own_sbo P43).2.2.2.2.2.2⟩
  have F56 := (((F8.keep K3).ext E16).keep K18)
  have F57 := (((F56.keep K28).ext E40).keep K43)
  have F58 := (((Fcs1.ext E1).keep K3 (ninS ne_a1__b1 nin0)).ext E16)
  have F59 := (((F58.keep K18 (ninS ne_a1__b1 (ninS ne_a1__rb3 nin0))).keep K28 (ninS ne_a1__b1 (ninS ne_a1__rb3 nin0))).ext E40)
  have F60 := (F59.keep K43 (ninS ne_a1__b1 (ninS ne_a1__rb3 nin0)))
  have F61 := (((Fvs1.ext E1).keep K3 (ninS ne_a1__b1 nin0)).ext E16)
  have F62 := (((F61.keep K18 (ninS ne_a1__b1 (ninS ne_a1__rb3 nin0))).keep K28 (ninS ne_a1__b1 (ninS ne_a1__rb3 nin0))).ext E40)
  have F63 := (F62.keep K43 (ninS ne_a1__b1 (ninS ne_a1__rb3 nin0)))
  have F64 := (((F9.keep K3 (ninS ne_b1__b1 nin0)).ext E16).keep K18 (ninS ne_b1__b1 (ninS ne_b1__rb3 nin0)))
  have F65 := (((F64.keep K28 (ninS ne_b1__b1 (ninS ne_b1__rb3 nin0))).ext E40).keep K43 (ninS ne_b1__b1 (ninS ne_b1__rb3 nin0)))
  obtain ⟨cn66, hcn66⟩ : ∃ y, cn51 + z1 = y := ⟨_, rfl⟩
  have tcn66 := own_fit (c := cn51) (y := z1) (by omega) (by omega) (by omega) hcn66
  have K67 : Keep h0 T43.heap [] := (K52.trans K43 (allS (P := fun x => x ∈ ([] : List Addr) ∨ h0.size ≤ x) (Or.inr sz_b1) (allS (P := fun x => x ∈ ([] : List Addr) ∨ h0.size ≤ x) (Or.inr sz_rb3) all0)))
  have O68 : Old Z n0 T43.heap := (O53.keep K43 (allS ge_b1 (allS ge_rb3 all0)))
  obtain ⟨cq54, kq54, q54a, q54b, q54c⟩ := isOf hZ rfl (own_sbo P43).1
  obtain ⟨_, _, ⟨T54, L54, kk54, n54⟩, -, X54, ⟨Lc54, hQ54, l54, y54, z54⟩, st54⟩ := X43.virtualBack hx (y := (⟨"java/lang/StringBuilder", "append", "(Ljava/lang/String;)Ljava/lang/StringBuilder;"⟩ : MethodName)) (z := (⟨"java/lang/StringBuilder", "append", "(Ljava/lang/String;)Ljava/lang/StringBuilder;"⟩ : MethodName)) hown (mvT hZ (hw _ (List.mem_of_getElem? (i := 61) rfl))) (mvT hZ (hw _ (List.mem_of_getElem? (i := 62) rfl))) (notFace_of_selects (args := #[]) (mvT hZ (hw _ (List.mem_of_getElem? (i := 64) rfl)))) (mvT hZ (hw _ (List.mem_of_getElem? (i := 64) rfl))) (mvT hZ (hw _ (List.mem_of_getElem? (i := 63) rfl))) (by decide) (backOf (W := 0) (rmS1 l Z a0 hw [] b1 a1_ rb3 kb3 cn51 (((([] : List Value) ++ [(.int (97 : Int32)), (.int (114 : Int32)), (.int (110 : Int32)), (.int (58 : Int32))]) ++ v0) ++ [(.int (58 : Int32))]) b1_ k1_ z1 v1 cs cn66 T43.heap n0 (Nat.le_trans Z0 K67.1) P55 F57 F60 F63 F65 hl1 SC hcs O68 (by omega) (by omega) hcn66 (by omega) ge_b1 ge_rb3) hZ (hw _ (List.mem_of_getElem? (i := 65) rfl)) (hw _ (List.mem_of_getElem? (i := 44) rfl)) (by decide) (by decide)) q54a q54c (g := (mkF m 22 #[.val (.ref a0_), .val (.ref a1_), .val (.ref a2_), .val (.ref a3_)] [(.ref a1_), (.ref b1)])) rfl (by rw [hml]; rfl) (Steps.refl _) (argsL := [(.ref a1_)]) (rest := []) (lenOf own_pd22 rfl) rfl (by show 2 * 0 + _ ≤ _; exact Nat.le_of_eq rfl) (hb hby own_d30_22) (fun _ _ => ⟨rfl, rfl, (by decide : 6 + 0 ≤ _), (by decide : 48 + 0 ≤ _)⟩)
  dsimp only [Pt.U, Pt.locs, Pt.cells, Pt.slots] at X54 l54 y54 z54 st54 hQ54
  subst l54 y54 z54
  obtain ⟨rfl, N54q, K54, P54⟩ := hQ54
  have N54 := Fr.app N43 N54q
  have k69 : own_To p e below T54 (mkF m 25 #[.val (.ref a0_), .val (.ref a1_), .val (.ref a2_), .val (.ref a3_)] [(.ref b1)]) s₁ (mkF m 0 #[.val (.ref a0_), .val (.ref a1_), .val (.ref a2_), .val (.ref a3_)] []) := fun t q => k39 t (by
    refine st40 _ ?_
    show Steps p.tables e below (T40.setTop (mkF m 18 #[.val (.ref a0_), .val (.ref a1_), .val (.ref a2_), .val (.ref a3_)] [(.ref b40), (.ref b1)])) _
    refine st43.trans ?_
    show Steps p.tables e below (T43.setTop (mkF m 21 #[.val (.ref a0_), .val (.ref a1_), .val (.ref a2_), .val (.ref a3_)] [(.ref b1)])) _
    refine XS.aloadN X43.here hx rfl (hb hby own_d30_21) rfl rfl ?_
    show Steps p.tables e below (T43.setTop (mkF m 22 #[.val (.ref a0_), .val (.ref a1_), .val (.ref a2_), .val (.ref a3_)] [(.ref a1_), (.ref b1)])) _
    refine st54.trans ?_
    show Steps p.tables e below (T54.setTop (mkF m 25 #[.val (.ref a0_), .val (.ref a1_), .val (.ref a2_), .val (.ref a3_)] [(.ref b1)])) _
    exact q)
  have CRc71 := CRl40.trans (CHr.keep K43 (sfS Sf40_b1 (sfS Sf40_rb3 sf0)) CHl40)
  have Sfc71_b1 := Safe.keep K43 (sfS Sf40_b1 (sfS Sf40_rb3 sf0)) CHl40 Sf40_b1
  have Sfc71_rb3 := Safe.keep K43 (sfS Sf40_b1 (sfS Sf40_rb3 sf0)) CHl40 Sf40_rb3
  have CHc71 := CRc71.1
  have CRc72 := CRc71.trans (CHr.keep K54 (sfS Sfc71_b1 (sfS Sfc71_rb3 sf0)) CHc71)
  have Sfc72_b1 := Safe.keep K54 (sfS Sfc71_b1 (sfS Sfc71_rb3 sf0)) CHc71 Sfc71_b1
  have Sfc72_rb3 := Safe.keep K54 (sfS Sfc71_b1 (sfS Sfc71_rb3 sf0)) CHc71 Sfc71_rb3
  have CHc72 := CRc72.1
  obtain ⟨b70, T70, h70, kk70, bb70, kb70, X70, e70, E70, hS70, hk70, hZ70, hown70, Ex70, Fc70, Fv70, V70, -, -, hC70, -, -, st70⟩ := ldcCH (vm0 := T40.vm) X54 hx hZ hown (hw _ (List.mem_of_getElem? (i := 158) rfl)) hstr rfl hS40 (Nat.le_trans (Nat.le_trans hk40 K43.1) K54.1) hEL (List.mem_of_getElem? (i := 4) rfl) CHc72 (vs := [(.int (58 : Int32)), (.int (58 : Int32))]) (z := (2 : Int32)) ⟨by decide, rfl⟩ (by decide) rfl (g := (mkF m 25 #[.val (.ref a0_), .val (.ref a1_), .val (.ref a2_), .val (.ref a3_)] [(.ref b1)])) rfl (hb hby own_d30_25) (n := 8) (by decide) (by decide) (by decide) (by decide)
  have hZ := hZ70
  have hown := hown70
  have CRl70 := CRc72.trans hC70
  have CHl70 := CRl70.1
  have Sf70_b1 := hC70.safe ((own_sbo P54).1.lt) Sfc72_b1
  have Sf70_rb3 := hC70.safe ((own_sbo P54).2.2.2.2.1.lt) Sfc72_rb3
  have F74 := ((own_sbo P54).1.ext E70)
  have F75 := ((own_sbo P54).2.1.ext E70)
  have F76 := ((own_sbo P54).2.2.1.ext E70)
  have F77 := ((own_sbo P54).2.2.2.1.ext E70)
  have F78 := ((own_sbo P54).2.2.2.2.1.ext E70)
  have F79 := ((own_sbo P54).2.2.2.2.2.1.ext E70)
  have P80 : own_sb Z h70 b1 rb3 kb3 (16 : Int32) cn66 ((((([] : List Value) ++ [(.int (97 : Int32)), (.int (114 : Int32)), (.int (110 : Int32)), (.int (58 : Int32))]) ++ v0) ++ [(.int (58 : Int32))]) ++ v1) := ⟨F74, F75, F76, F77, F78, F79, (own_sbo P54).2.2.2.2.2.2⟩
  have tl_2 : (2 : Int32).toInt = 2 := rfl
  obtain ⟨cn81, hcn81⟩ : ∃ y, cn66 + (2 : Int32) = y := ⟨_, rfl⟩
  have tcn81 := own_fit (c := cn66) (y := (2 : Int32)) (by omega) (by omega) (by omega) hcn81
  have K82 : Keep h0 h70 [] := ((K67.trans K54 (allS (P := fun x => x ∈ ([] : List Addr) ∨ h0.size ≤ x) (Or.inr sz_b1) (allS (P := fun x => x ∈ ([] : List Addr) ∨ h0.size ≤ x) (Or.inr sz_rb3) all0))).ext E70)
  have O83 : Old Z n0 h70 := ((O68.keep K54 (allS ge_b1 (allS ge_rb3 all0))).ext E70)
  obtain ⟨cq73, kq73, q73a, q73b, q73c⟩ := isOf hZ e70 F74
  obtain ⟨_, _, ⟨T73, L73, kk73, n73⟩, -, X73, ⟨Lc73, hQ73, l73, y73, z73⟩, st73⟩ := X70.virtualBack hx (y := (⟨"java/lang/StringBuilder", "append", "(Ljava/lang/String;)Ljava/lang/StringBuilder;"⟩ : MethodName)) (z := (⟨"java/lang/StringBuilder", "append", "(Ljava/lang/String;)Ljava/lang/StringBuilder;"⟩ : MethodName)) hown (mvT hZ (hw _ (List.mem_of_getElem? (i := 61) rfl))) (mvT hZ (hw _ (List.mem_of_getElem? (i := 62) rfl))) (notFace_of_selects (args := #[]) (mvT hZ (hw _ (List.mem_of_getElem? (i := 64) rfl)))) (mvT hZ (hw _ (List.mem_of_getElem? (i := 64) rfl))) (mvT hZ (hw _ (List.mem_of_getElem? (i := 63) rfl))) (by decide) (backOf (W := 0) (rmS1 l Z a0 hw [] b1 b70 rb3 kb3 cn66 ((((([] : List Value) ++ [(.int (97 : Int32)), (.int (114 : Int32)), (.int (110 : Int32)), (.int (58 : Int32))]) ++ v0) ++ [(.int (58 : Int32))]) ++ v1) bb70 kb70 (2 : Int32) [(.int (58 : Int32)), (.int (58 : Int32))] cs cn81 h70 n0 (Nat.le_trans Z0 K82.1) P80 Ex70 Fc70 Fv70 V70 (by decide) SC hcs O83 (by omega) (by omega) hcn81 (by omega) ge_b1 ge_rb3) hZ (hw _ (List.mem_of_getElem? (i := 65) rfl)) (hw _ (List.mem_of_getElem? (i := 44) rfl)) (by decide) (by decide)) q73a q73c (g := (mkF m 27 #[.val (.ref a0_), .val (.ref a1_), .val (.ref a2_), .val (.ref a3_)] [(.ref b70), (.ref b1)])) rfl (by rw [hml]; rfl) (Steps.refl _) (argsL := [(.ref b70)]) (rest := []) (lenOf own_pd22 rfl) rfl (by show 2 * 0 + _ ≤ _; exact Nat.le_of_eq rfl) (hb hby own_d30_27) (fun _ _ => ⟨rfl, e70, (by decide : 8 + 0 ≤ _), (by decide : 60 + 0 ≤ _)⟩)
  dsimp only [Pt.U, Pt.locs, Pt.cells, Pt.slots] at X73 l73 y73 z73 st73 hQ73
  subst l73 y73 z73
  obtain ⟨rfl, N73q, K73, P73⟩ := hQ73
  have N73 := Fr.app N54 N73q
  have P85 : own_sb Z T73.heap b1 rb3 kb3 (16 : Int32) cn81 (((((([] : List Value) ++ [(.int (97 : Int32)), (.int (114 : Int32)), (.int (110 : Int32)), (.int (58 : Int32))]) ++ v0) ++ [(.int (58 : Int32))]) ++ v1) ++ [(.int (58 : Int32)), (.int (58 : Int32))]) := ⟨(own_sbo P73).1, (own_sbo P73).2.1, (own_sbo P73).2.2.1, (own_sbo P73).2.2.2.1, (own_sbo P73).2.2.2.2.1, (own_sbo P73).2.2.2.2.2.1, (own_sbo P73).2.2.2.2.2.2⟩
  have F86 := (((F10.keep K3).ext E16).keep K18)
  have F87 := (((F86.keep K28).ext E40).keep K43)
  have F88 := (((F87.keep K54).ext E70).keep K73)
  have F89 := (((Fcs2.ext E1).keep K3 (ninS ne_a2__b1 nin0)).ext E16)
  have F90 := (((F89.keep K18 (ninS ne_a2__b1 (ninS ne_a2__rb3 nin0))).keep K28 (ninS ne_a2__b1 (ninS ne_a2__rb3 nin0))).ext E40)
  have F91 := (((F90.keep K43 (ninS ne_a2__b1 (ninS ne_a2__rb3 nin0))).keep K54 (ninS ne_a2__b1 (ninS ne_a2__rb3 nin0))).ext E70)
  have F92 := (F91.keep K73 (ninS ne_a2__b1 (ninS ne_a2__rb3 nin0)))
  have F93 := (((Fvs2.ext E1).keep K3 (ninS ne_a2__b1 nin0)).ext E16)
  have F94 := (((F93.keep K18 (ninS ne_a2__b1 (ninS ne_a2__rb3 nin0))).keep K28 (ninS ne_a2__b1 (ninS ne_a2__rb3 nin0))).ext E40)
  have F95 := (((F94.keep K43 (ninS ne_a2__b1 (ninS ne_a2__rb3 nin0))).keep K54 (ninS ne_a2__b1 (ninS ne_a2__rb3 nin0))).ext E70)
  have F96 := (F95.keep K73 (ninS ne_a2__b1 (ninS ne_a2__rb3 nin0)))
  have F97 := (((F11.keep K3 (ninS ne_b2__b1 nin0)).ext E16).keep K18 (ninS ne_b2__b1 (ninS ne_b2__rb3 nin0)))
  have F98 := (((F97.keep K28 (ninS ne_b2__b1 (ninS ne_b2__rb3 nin0))).ext E40).keep K43 (ninS ne_b2__b1 (ninS ne_b2__rb3 nin0)))
  have F99 := (((F98.keep K54 (ninS ne_b2__b1 (ninS ne_b2__rb3 nin0))).ext E70).keep K73 (ninS ne_b2__b1 (ninS ne_b2__rb3 nin0)))
  obtain ⟨cn100, hcn100⟩ : ∃ y, cn81 + z2 = y := ⟨_, rfl⟩
  have tcn100 := own_fit (c := cn81) (y := z2) (by omega) (by omega) (by omega) hcn100
  have K101 : Keep h0 T73.heap [] := (K82.trans K73 (allS (P := fun x => x ∈ ([] : List Addr) ∨ h0.size ≤ x) (Or.inr sz_b1) (allS (P := fun x => x ∈ ([] : List Addr) ∨ h0.size ≤ x) (Or.inr sz_rb3) all0)))
  have O102 : Old Z n0 T73.heap := (O83.keep K73 (allS ge_b1 (allS ge_rb3 all0)))
  obtain ⟨cq84, kq84, q84a, q84b, q84c⟩ := isOf hZ rfl (own_sbo P73).1
  obtain ⟨_, _, ⟨T84, L84, kk84, n84⟩, -, X84, ⟨Lc84, hQ84, l84, y84, z84⟩, st84⟩ := X73.virtualBack hx (y := (⟨"java/lang/StringBuilder", "append", "(Ljava/lang/String;)Ljava/lang/StringBuilder;"⟩ : MethodName)) (z := (⟨"java/lang/StringBuilder", "append", "(Ljava/lang/String;)Ljava/lang/StringBuilder;"⟩ : MethodName)) hown (mvT hZ (hw _ (List.mem_of_getElem? (i := 61) rfl))) (mvT hZ (hw _ (List.mem_of_getElem? (i := 62) rfl))) (notFace_of_selects (args := #[]) (mvT hZ (hw _ (List.mem_of_getElem? (i := 64) rfl)))) (mvT hZ (hw _ (List.mem_of_getElem? (i := 64) rfl))) (mvT hZ (hw _ (List.mem_of_getElem? (i := 63) rfl))) (by decide) (backOf (W := 0) (rmS1 l Z a0 hw [] b1 a2_ rb3 kb3 cn81 (((((([] : List Value) ++ [(.int (97 : Int32)), (.int (114 : Int32)), (.int (110 : Int32)), (.int (58 : Int32))]) ++ v0) ++ [(.int (58 : Int32))]) ++ v1) ++ [(.int (58 : Int32)), (.int (58 : Int32))]) b2_ k2_ z2 v2 cs cn100 T73.heap n0 (Nat.le_trans Z0 K101.1) P85 F88 F92 F96 F99 hl2 SC hcs O102 (by omega) (by omega) hcn100 (by omega) ge_b1 ge_rb3) hZ (hw _ (List.mem_of_getElem? (i := 65) rfl)) (hw _ (List.mem_of_getElem? (i := 44) rfl)) (by decide) (by decide)) q84a q84c (g := (mkF m 31 #[.val (.ref a0_), .val (.ref a1_), .val (.ref a2_), .val (.ref a3_)] [(.ref a2_), (.ref b1)])) rfl (by rw [hml]; rfl) (Steps.refl _) (argsL := [(.ref a2_)]) (rest := []) (lenOf own_pd22 rfl) rfl (by show 2 * 0 + _ ≤ _; exact Nat.le_of_eq rfl) (hb hby own_d30_31) (fun _ _ => ⟨rfl, rfl, (by decide : 8 + 0 ≤ _), (by decide : 60 + 0 ≤ _)⟩)
  dsimp only [Pt.U, Pt.locs, Pt.cells, Pt.slots] at X84 l84 y84 z84 st84 hQ84
  subst l84 y84 z84
  obtain ⟨rfl, N84q, K84, P84⟩ := hQ84
  have N84 := Fr.app N73 N84q
  have k103 : own_To p e below T84 (mkF m 34 #[.val (.ref a0_), .val (.ref a1_), .val (.ref a2_), .val (.ref a3_)] [(.ref b1)]) s₁ (mkF m 0 #[.val (.ref a0_), .val (.ref a1_), .val (.ref a2_), .val (.ref a3_)] []) := fun t q => k69 t (by
    refine st70 _ ?_
    show Steps p.tables e below (T70.setTop (mkF m 27 #[.val (.ref a0_), .val (.ref a1_), .val (.ref a2_), .val (.ref a3_)] [(.ref b70), (.ref b1)])) _
    refine st73.trans ?_
    show Steps p.tables e below (T73.setTop (mkF m 30 #[.val (.ref a0_), .val (.ref a1_), .val (.ref a2_), .val (.ref a3_)] [(.ref b1)])) _
    refine XS.aloadN X73.here hx rfl (hb hby own_d30_30) rfl rfl ?_
    show Steps p.tables e below (T73.setTop (mkF m 31 #[.val (.ref a0_), .val (.ref a1_), .val (.ref a2_), .val (.ref a3_)] [(.ref a2_), (.ref b1)])) _
    refine st84.trans ?_
    show Steps p.tables e below (T84.setTop (mkF m 34 #[.val (.ref a0_), .val (.ref a1_), .val (.ref a2_), .val (.ref a3_)] [(.ref b1)])) _
    exact q)
  have CRc105 := CRl70.trans (CHr.keep K73 (sfS Sf70_b1 (sfS Sf70_rb3 sf0)) CHl70)
  have Sfc105_b1 := Safe.keep K73 (sfS Sf70_b1 (sfS Sf70_rb3 sf0)) CHl70 Sf70_b1
  have Sfc105_rb3 := Safe.keep K73 (sfS Sf70_b1 (sfS Sf70_rb3 sf0)) CHl70 Sf70_rb3
  have CHc105 := CRc105.1
  have CRc106 := CRc105.trans (CHr.keep K84 (sfS Sfc105_b1 (sfS Sfc105_rb3 sf0)) CHc105)
  have Sfc106_b1 := Safe.keep K84 (sfS Sfc105_b1 (sfS Sfc105_rb3 sf0)) CHc105 Sfc105_b1
  have Sfc106_rb3 := Safe.keep K84 (sfS Sfc105_b1 (sfS Sfc105_rb3 sf0)) CHc105 Sfc105_rb3
  have CHc106 := CRc106.1
  obtain ⟨b104, T104, h104, kk104, bb104, kb104, X104, e104, E104, hS104, hk104, hZ104, hown104, Ex104, Fc104, Fv104, V104, -, -, hC104, -, -, st104⟩ := ldcCH (vm0 := T70.vm) X84 hx hZ hown (hw _ (List.mem_of_getElem? (i := 157) rfl)) hstr rfl hS70 (Nat.le_trans (Nat.le_trans hk70 K73.1) K84.1) hEL (List.mem_of_getElem? (i := 1) rfl) CHc106 (vs := [(.int (58 : Int32))]) (z := (1 : Int32)) ⟨by decide, rfl⟩ (by decide) rfl (g := (mkF m 34 #[.val (.ref a0_), .val (.ref a1_), .val (.ref a2_), .val (.ref a3_)] [(.ref b1)])) rfl (hb hby own_d30_34) (n := 4) (by decide) (by decide) (by decide) (by decide)
  have hZ := hZ104
  have hown := hown104
  have CRl104 := CRc106.trans hC104
  have CHl104 := CRl104.1
  have Sf104_b1 := hC104.safe ((own_sbo P84).1.lt) Sfc106_b1
  have Sf104_rb3 := hC104.safe ((own_sbo P84).2.2.2.2.1.lt) Sfc106_rb3
  have F108 := ((own_sbo P84).1.ext E104)
  have F109 := ((own_sbo P84).2.1.ext E104)
  have F110 := ((own_sbo P84).2.2.1.ext E104)
  have F111 := ((own_sbo P84).2.2.2.1.ext E104)
  have F112 := ((own_sbo P84).2.2.2.2.1.ext E104)
  have F113 := ((own_sbo P84).2.2.2.2.2.1.ext E104)
  have P114 : own_sb Z h104 b1 rb3 kb3 (16 : Int32) cn100 ((((((([] : List Value) ++ [(.int (97 : Int32)), (.int (114 : Int32)), (.int (110 : Int32)), (.int (58 : Int32))]) ++ v0) ++ [(.int (58 : Int32))]) ++ v1) ++ [(.int (58 : Int32)), (.int (58 : Int32))]) ++ v2) := ⟨F108, F109, F110, F111, F112, F113, (own_sbo P84).2.2.2.2.2.2⟩
  obtain ⟨cn115, hcn115⟩ : ∃ y, cn100 + (1 : Int32) = y := ⟨_, rfl⟩
  have tcn115 := own_fit (c := cn100) (y := (1 : Int32)) (by omega) (by omega) (by omega) hcn115
  have K116 : Keep h0 h104 [] := ((K101.trans K84 (allS (P := fun x => x ∈ ([] : List Addr) ∨ h0.size ≤ x) (Or.inr sz_b1) (allS (P := fun x => x ∈ ([] : List Addr) ∨ h0.size ≤ x) (Or.inr sz_rb3) all0))).ext E104)
  have O117 : Old Z n0 h104 := ((O102.keep K84 (allS ge_b1 (allS ge_rb3 all0))).ext E104)
  obtain ⟨cq107, kq107, q107a, q107b, q107c⟩ := isOf hZ e104 F108
  obtain ⟨_, _, ⟨T107, L107, kk107, n107⟩, -, X107, ⟨Lc107, hQ107, l107, y107, z107⟩, st107⟩ := X104.virtualBack hx (y := (⟨"java/lang/StringBuilder", "append", "(Ljava/lang/String;)Ljava/lang/StringBuilder;"⟩ : MethodName)) (z := (⟨"java/lang/StringBuilder", "append", "(Ljava/lang/String;)Ljava/lang/StringBuilder;"⟩ : MethodName)) hown (mvT hZ (hw _ (List.mem_of_getElem? (i := 61) rfl))) (mvT hZ (hw _ (List.mem_of_getElem? (i := 62) rfl))) (notFace_of_selects (args := #[]) (mvT hZ (hw _ (List.mem_of_getElem? (i := 64) rfl)))) (mvT hZ (hw _ (List.mem_of_getElem? (i := 64) rfl))) (mvT hZ (hw _ (List.mem_of_getElem? (i := 63) rfl))) (by decide) (backOf (W := 0) (rmS1 l Z a0 hw [] b1 b104 rb3 kb3 cn100 ((((((([] : List Value) ++ [(.int (97 : Int32)), (.int (114 : Int32)), (.int (110 : Int32)), (.int (58 : Int32))]) ++ v0) ++ [(.int (58 : Int32))]) ++ v1) ++ [(.int (58 : Int32)), (.int (58 : Int32))]) ++ v2) bb104 kb104 (1 : Int32) [(.int (58 : Int32))] cs cn115 h104 n0 (Nat.le_trans Z0 K116.1) P114 Ex104 Fc104 Fv104 V104 (by decide) SC hcs O117 (by omega) (by omega) hcn115 (by omega) ge_b1 ge_rb3) hZ (hw _ (List.mem_of_getElem? (i := 65) rfl)) (hw _ (List.mem_of_getElem? (i := 44) rfl)) (by decide) (by decide)) q107a q107c (g := (mkF m 36 #[.val (.ref a0_), .val (.ref a1_), .val (.ref a2_), .val (.ref a3_)] [(.ref b104), (.ref b1)])) rfl (by rw [hml]; rfl) (Steps.refl _) (argsL := [(.ref b104)]) (rest := []) (lenOf own_pd22 rfl) rfl (by show 2 * 0 + _ ≤ _; exact Nat.le_of_eq rfl) (hb hby own_d30_36) (fun _ _ => ⟨rfl, e104, (by decide : 10 + 0 ≤ _), (by decide : 68 + 0 ≤ _)⟩)
  dsimp only [Pt.U, Pt.locs, Pt.cells, Pt.slots] at X107 l107 y107 z107 st107 hQ107
  subst l107 y107 z107
  obtain ⟨rfl, N107q, K107, P107⟩ := hQ107
  have N107 := Fr.app N84 N107q
  have k118 : own_To p e below T107 (mkF m 40 #[.val (.ref a0_), .val (.ref a1_), .val (.ref a2_), .val (.ref a3_)] [(.ref a3_), (.ref b1)]) s₁ (mkF m 0 #[.val (.ref a0_), .val (.ref a1_), .val (.ref a2_), .val (.ref a3_)] []) := fun t q => k103 t (by
    refine st104 _ ?_
    show Steps p.tables e below (T104.setTop (mkF m 36 #[.val (.ref a0_), .val (.ref a1_), .val (.ref a2_), .val (.ref a3_)] [(.ref b104), (.ref b1)])) _
    refine st107.trans ?_
    show Steps p.tables e below (T107.setTop (mkF m 39 #[.val (.ref a0_), .val (.ref a1_), .val (.ref a2_), .val (.ref a3_)] [(.ref b1)])) _
    refine XS.aloadN X107.here hx rfl (hb hby own_d30_39) rfl rfl ?_
    show Steps p.tables e below (T107.setTop (mkF m 40 #[.val (.ref a0_), .val (.ref a1_), .val (.ref a2_), .val (.ref a3_)] [(.ref a3_), (.ref b1)])) _
    exact q)
  rcases Decidable.em (cn115.toInt + z3.toInt ≤ 16) with hfit | hfit
  ·
    have tl_16 : (16 : Int32).toInt = 16 := rfl
    have P120 : own_sb Z T107.heap b1 rb3 kb3 (16 : Int32) cn115 (((((((([] : List Value) ++ [(.int (97 : Int32)), (.int (114 : Int32)), (.int (110 : Int32)), (.int (58 : Int32))]) ++ v0) ++ [(.int (58 : Int32))]) ++ v1) ++ [(.int (58 : Int32)), (.int (58 : Int32))]) ++ v2) ++ [(.int (58 : Int32))]) := ⟨(own_sbo P107).1, (own_sbo P107).2.1, (own_sbo P107).2.2.1, (own_sbo P107).2.2.2.1, (own_sbo P107).2.2.2.2.1, (own_sbo P107).2.2.2.2.2.1, (own_sbo P107).2.2.2.2.2.2⟩
    have F121 := (((F12.keep K3).ext E16).keep K18)
    have F122 := (((F121.keep K28).ext E40).keep K43)
    have F123 := (((F122.keep K54).ext E70).keep K73)
    have F124 := (((F123.keep K84).ext E104).keep K107)
    have F125 := (((Fcs3.ext E1).keep K3 (ninS ne_a3__b1 nin0)).ext E16)
    have F126 := (((F125.keep K18 (ninS ne_a3__b1 (ninS ne_a3__rb3 nin0))).keep K28 (ninS ne_a3__b1 (ninS ne_a3__rb3 nin0))).ext E40)
    have F127 := (((F126.keep K43 (ninS ne_a3__b1 (ninS ne_a3__rb3 nin0))).keep K54 (ninS ne_a3__b1 (ninS ne_a3__rb3 nin0))).ext E70)
    have F128 := (((F127.keep K73 (ninS ne_a3__b1 (ninS ne_a3__rb3 nin0))).keep K84 (ninS ne_a3__b1 (ninS ne_a3__rb3 nin0))).ext E104)
    have F129 := (F128.keep K107 (ninS ne_a3__b1 (ninS ne_a3__rb3 nin0)))
    have F130 := (((Fvs3.ext E1).keep K3 (ninS ne_a3__b1 nin0)).ext E16)
    have F131 := (((F130.keep K18 (ninS ne_a3__b1 (ninS ne_a3__rb3 nin0))).keep K28 (ninS ne_a3__b1 (ninS ne_a3__rb3 nin0))).ext E40)
    have F132 := (((F131.keep K43 (ninS ne_a3__b1 (ninS ne_a3__rb3 nin0))).keep K54 (ninS ne_a3__b1 (ninS ne_a3__rb3 nin0))).ext E70)
    have F133 := (((F132.keep K73 (ninS ne_a3__b1 (ninS ne_a3__rb3 nin0))).keep K84 (ninS ne_a3__b1 (ninS ne_a3__rb3 nin0))).ext E104)
    have F134 := (F133.keep K107 (ninS ne_a3__b1 (ninS ne_a3__rb3 nin0)))
    have F135 := (((F13.keep K3 (ninS ne_b3__b1 nin0)).ext E16).keep K18 (ninS ne_b3__b1 (ninS ne_b3__rb3 nin0)))
    have F136 := (((F135.keep K28 (ninS ne_b3__b1 (ninS ne_b3__rb3 nin0))).ext E40).keep K43 (ninS ne_b3__b1 (ninS ne_b3__rb3 nin0)))
    have F137 := (((F136.keep K54 (ninS ne_b3__b1 (ninS ne_b3__rb3 nin0))).ext E70).keep K73 (ninS ne_b3__b1 (ninS ne_b3__rb3 nin0)))
    have F138 := (((F137.keep K84 (ninS ne_b3__b1 (ninS ne_b3__rb3 nin0))).ext E104).keep K107 (ninS ne_b3__b1 (ninS ne_b3__rb3 nin0)))
    have K139 : Keep h0 T107.heap [] := (K116.trans K107 (allS (P := fun x => x ∈ ([] : List Addr) ∨ h0.size ≤ x) (Or.inr sz_b1) (allS (P := fun x => x ∈ ([] : List Addr) ∨ h0.size ≤ x) (Or.inr sz_rb3) all0)))
    have O140 : Old Z n0 T107.heap := (O117.keep K107 (allS ge_b1 (allS ge_rb3 all0)))
    obtain ⟨cq119, kq119, q119a, q119b, q119c⟩ := isOf hZ rfl (own_sbo P107).1
    obtain ⟨_, _, ⟨T119, L119, kk119, n119⟩, -, X119, ⟨Lc119, hQ119, l119, y119, z119⟩, st119⟩ := X107.virtualBack hx (y := (⟨"java/lang/StringBuilder", "append", "(Ljava/lang/String;)Ljava/lang/StringBuilder;"⟩ : MethodName)) (z := (⟨"java/lang/StringBuilder", "append", "(Ljava/lang/String;)Ljava/lang/StringBuilder;"⟩ : MethodName)) hown (mvT hZ (hw _ (List.mem_of_getElem? (i := 61) rfl))) (mvT hZ (hw _ (List.mem_of_getElem? (i := 62) rfl))) (notFace_of_selects (args := #[]) (mvT hZ (hw _ (List.mem_of_getElem? (i := 64) rfl)))) (mvT hZ (hw _ (List.mem_of_getElem? (i := 64) rfl))) (mvT hZ (hw _ (List.mem_of_getElem? (i := 63) rfl))) (by decide) (backOf (W := 0) (rmS1 l Z a0 hw [] b1 a3_ rb3 kb3 cn115 (((((((([] : List Value) ++ [(.int (97 : Int32)), (.int (114 : Int32)), (.int (110 : Int32)), (.int (58 : Int32))]) ++ v0) ++ [(.int (58 : Int32))]) ++ v1) ++ [(.int (58 : Int32)), (.int (58 : Int32))]) ++ v2) ++ [(.int (58 : Int32))]) b3_ k3_ z3 v3 cs (16 : Int32) T107.heap n0 (Nat.le_trans Z0 K139.1) P120 F124 F129 F134 F138 hl3 SC hcs O140 (by omega) (by omega) (own_sum (by omega)) (by omega) ge_b1 ge_rb3) hZ (hw _ (List.mem_of_getElem? (i := 65) rfl)) (hw _ (List.mem_of_getElem? (i := 44) rfl)) (by decide) (by decide)) q119a q119c (g := (mkF m 40 #[.val (.ref a0_), .val (.ref a1_), .val (.ref a2_), .val (.ref a3_)] [(.ref a3_), (.ref b1)])) rfl (by rw [hml]; rfl) (Steps.refl _) (argsL := [(.ref a3_)]) (rest := []) (lenOf own_pd22 rfl) rfl (by show 2 * 0 + _ ≤ _; exact Nat.le_of_eq rfl) (hb hby own_d30_40) (fun _ _ => ⟨rfl, rfl, (by decide : 10 + 0 ≤ _), (by decide : 68 + 0 ≤ _)⟩)
    dsimp only [Pt.U, Pt.locs, Pt.cells, Pt.slots] at X119 l119 y119 z119 st119 hQ119
    subst l119 y119 z119
    obtain ⟨rfl, N119q, K119, P119⟩ := hQ119
    have N119 := Fr.app N107 N119q
    have P142 : own_sb Z T119.heap b1 rb3 kb3 (16 : Int32) (16 : Int32) ((((((((([] : List Value) ++ [(.int (97 : Int32)), (.int (114 : Int32)), (.int (110 : Int32)), (.int (58 : Int32))]) ++ v0) ++ [(.int (58 : Int32))]) ++ v1) ++ [(.int (58 : Int32)), (.int (58 : Int32))]) ++ v2) ++ [(.int (58 : Int32))]) ++ v3) := ⟨(own_sbo P119).1, (own_sbo P119).2.1, (own_sbo P119).2.2.1, (own_sbo P119).2.2.2.1, (own_sbo P119).2.2.2.2.1, (own_sbo P119).2.2.2.2.2.1, (own_sbo P119).2.2.2.2.2.2⟩
    have K143 : Keep h0 T119.heap [] := (K139.trans K119 (allS (P := fun x => x ∈ ([] : List Addr) ∨ h0.size ≤ x) (Or.inr sz_b1) (allS (P := fun x => x ∈ ([] : List Addr) ∨ h0.size ≤ x) (Or.inr sz_rb3) all0)))
    have O144 : Old Z n0 T119.heap := (O140.keep K119 (allS ge_b1 (allS ge_rb3 all0)))
    obtain ⟨cq141, kq141, q141a, q141b, q141c⟩ := isOf hZ rfl (own_sbo P119).1
    obtain ⟨_, _, ⟨T141, L141, kk141, n141⟩, -, X141, ⟨Lc141, hQ141, l141, y141, z141⟩, st141⟩ := X119.virtualBack hx (y := (⟨"java/lang/StringBuilder", "toString", "()Ljava/lang/String;"⟩ : MethodName)) (z := (⟨"java/lang/StringBuilder", "toString", "()Ljava/lang/String;"⟩ : MethodName)) hown (mvT hZ (hw _ (List.mem_of_getElem? (i := 108) rfl))) (mvT hZ (hw _ (List.mem_of_getElem? (i := 109) rfl))) (notFace_of_selects (args := #[]) (mvT hZ (hw _ (List.mem_of_getElem? (i := 111) rfl)))) (mvT hZ (hw _ (List.mem_of_getElem? (i := 111) rfl))) (mvT hZ (hw _ (List.mem_of_getElem? (i := 110) rfl))) (by decide) (backOf (W := 0) (rmT2 l Z a0 hw [] b1 rb3 kb3 ((((((((([] : List Value) ++ [(.int (97 : Int32)), (.int (114 : Int32)), (.int (110 : Int32)), (.int (58 : Int32))]) ++ v0) ++ [(.int (58 : Int32))]) ++ v1) ++ [(.int (58 : Int32)), (.int (58 : Int32))]) ++ v2) ++ [(.int (58 : Int32))]) ++ v3) cs T119.heap n0 (Nat.le_trans Z0 K143.1) P142  SC hcs O144) hZ (hw _ (List.mem_of_getElem? (i := 112) rfl)) (hw _ (List.mem_of_getElem? (i := 44) rfl)) (by decide) (by decide)) q141a q141c (g := (mkF m 43 #[.val (.ref a0_), .val (.ref a1_), .val (.ref a2_), .val (.ref a3_)] [(.ref b1)])) rfl (by rw [hml]; rfl) (Steps.refl _) (argsL := []) (rest := []) (lenOf own_pd3 rfl) rfl (by show 2 * 0 + _ ≤ _; exact Nat.le_of_eq rfl) (hb hby own_d30_43) (fun _ _ => ⟨rfl, rfl, (by decide : 10 + 2 ≤ _), (by decide : 68 + 20 ≤ _)⟩)
    dsimp only [Pt.U, Pt.locs, Pt.cells, Pt.slots] at X141 l141 y141 z141 st141 hQ141
    subst l141 y141 z141
    obtain ⟨r141, rb141, kb141, rfl, N141q, K141, E141, Fc141, Fv141, V141⟩ := hQ141
    have N141 := Fr.app N119 N141q
    have K145 : Keep h0 T141.heap [] := (K143.trans K141 all0)
    have k146 : own_To p e below T141 (mkF m 46 #[.val (.ref a0_), .val (.ref a1_), .val (.ref a2_), .val (.ref a3_)] [(.ref r141)]) s₁ (mkF m 0 #[.val (.ref a0_), .val (.ref a1_), .val (.ref a2_), .val (.ref a3_)] []) := fun t q => k118 t (by
      refine st119.trans ?_
      show Steps p.tables e below (T119.setTop (mkF m 43 #[.val (.ref a0_), .val (.ref a1_), .val (.ref a2_), .val (.ref a3_)] [(.ref b1)])) _
      refine st141.trans ?_
      show Steps p.tables e below (T141.setTop (mkF m 46 #[.val (.ref a0_), .val (.ref a1_), .val (.ref a2_), .val (.ref a3_)] [(.ref r141)])) _
      exact q)
    have CRc147 := CRl104.trans (CHr.keep K107 (sfS Sf104_b1 (sfS Sf104_rb3 sf0)) CHl104)
    have Sfc147_b1 := Safe.keep K107 (sfS Sf104_b1 (sfS Sf104_rb3 sf0)) CHl104 Sf104_b1
    have Sfc147_rb3 := Safe.keep K107 (sfS Sf104_b1 (sfS Sf104_rb3 sf0)) CHl104 Sf104_rb3
    have CHc147 := CRc147.1
    have CRc148 := CRc147.trans (CHr.keep K119 (sfS Sfc147_b1 (sfS Sfc147_rb3 sf0)) CHc147)
    have Sfc148_b1 := Safe.keep K119 (sfS Sfc147_b1 (sfS Sfc147_rb3 sf0)) CHc147 Sfc147_b1
    have Sfc148_rb3 := Safe.keep K119 (sfS Sfc147_b1 (sfS Sfc147_rb3 sf0)) CHc147 Sfc147_rb3
    have CHc148 := CRc148.1
    have CRc149 := CRc148.trans (CHr.keep K141 sf0 CHc148)
    have Sfc149_b1 := Safe.keep K141 sf0 CHc148 Sfc148_b1
    have Sfc149_rb3 := Safe.keep K141 sf0 CHc148 Sfc148_rb3
    have CHc149 := CRc149.1
    have hCe := CRc149.trans (CHv.at (vm0 := T104.vm) X141 hZ hEL CHc149)
    obtain ⟨fs, hr, hrun, hended, hEnd⟩ := Stand.leaveW (s := s) (vm₁ := T104.vm) X141 hS104 (by exact (Nat.le_trans (Nat.le_trans (Nat.le_trans hk104 K107.1) K119.1) K141.1)) (v := some (.ref r141)) (fun h => by rw [Bd.returns] at h; cases h)
    refine ⟨_, _, k0 _ (k146 _ ?_), hrun, hended, _, _, rfl, ?_, ?_, hEnd.1, hEnd.2.1, hEnd.2.2.1, hEnd.2.2.2.mono (by decide) (by decide)⟩
    · show Steps p.tables e below (T141.setTop (mkF m 46 #[.val (.ref a0_), .val (.ref a1_), .val (.ref a2_), .val (.ref a3_)] [(.ref r141)])) _
      exact retOut X141 hx Bd.returns rfl (Or.inr (Or.inr (Or.inr (Or.inr ⟨rfl, rfl, rfl⟩)))) (hb hby own_d30_46) hr
    · show Q30 Z a0_ a1_ a2_ a3_ b0_ k0_ z0 v0 b1_ k1_ z1 v1 b2_ k2_ z2 v2 b3_ k3_ z3 v3 cs h0 n0 _ T141.heap _
      exact ⟨r141, rb141, kb141, (16 : Int32), ((((((((([] : List Value) ++ [(.int (97 : Int32)), (.int (114 : Int32)), (.int (110 : Int32)), (.int (58 : Int32))]) ++ v0) ++ [(.int (58 : Int32))]) ++ v1) ++ [(.int (58 : Int32)), (.int (58 : Int32))]) ++ v2) ++ [(.int (58 : Int32))]) ++ v3), rfl, N141, K145, E141, Fc141, Fv141, V141, (own_sbo P119).2.2.2.2.2.2, by show (16 : Int) = _; omega, rfl⟩
    · show CHr Z own_EL s.vm s.heap T141.vm T141.heap
      rw [hh]; exact hCe
  ·
    have P151 : own_sb Z T107.heap b1 rb3 kb3 (16 : Int32) cn115 (((((((([] : List Value) ++ [(.int (97 : Int32)), (.int (114 : Int32)), (.int (110 : Int32)), (.int (58 : Int32))]) ++ v0) ++ [(.int (58 : Int32))]) ++ v1) ++ [(.int (58 : Int32)), (.int (58 : Int32))]) ++ v2) ++ [(.int (58 : Int32))]) := ⟨(own_sbo P107).1, (own_sbo P107).2.1, (own_sbo P107).2.2.1, (own_sbo P107).2.2.2.1, (own_sbo P107).2.2.2.2.1, (own_sbo P107).2.2.2.2.2.1, (own_sbo P107).2.2.2.2.2.2⟩
    have F152 := (((F12.keep K3).ext E16).keep K18)
    have F153 := (((F152.keep K28).ext E40).keep K43)
    have F154 := (((F153.keep K54).ext E70).keep K73)
    have F155 := (((F154.keep K84).ext E104).keep K107)
    have F156 := (((Fcs3.ext E1).keep K3 (ninS ne_a3__b1 nin0)).ext E16)
    have F157 := (((F156.keep K18 (ninS ne_a3__b1 (ninS ne_a3__rb3 nin0))).keep K28 (ninS ne_a3__b1 (ninS ne_a3__rb3 nin0))).ext E40)
    have F158 := (((F157.keep K43 (ninS ne_a3__b1 (ninS ne_a3__rb3 nin0))).keep K54 (ninS ne_a3__b1 (ninS ne_a3__rb3 nin0))).ext E70)
    have F159 := (((F158.keep K73 (ninS ne_a3__b1 (ninS ne_a3__rb3 nin0))).keep K84 (ninS ne_a3__b1 (ninS ne_a3__rb3 nin0))).ext E104)
    have F160 := (F159.keep K107 (ninS ne_a3__b1 (ninS ne_a3__rb3 nin0)))
    have F161 := (((Fvs3.ext E1).keep K3 (ninS ne_a3__b1 nin0)).ext E16)
    have F162 := (((F161.keep K18 (ninS ne_a3__b1 (ninS ne_a3__rb3 nin0))).keep K28 (ninS ne_a3__b1 (ninS ne_a3__rb3 nin0))).ext E40)
    have F163 := (((F162.keep K43 (ninS ne_a3__b1 (ninS ne_a3__rb3 nin0))).keep K54 (ninS ne_a3__b1 (ninS ne_a3__rb3 nin0))).ext E70)
    have F164 := (((F163.keep K73 (ninS ne_a3__b1 (ninS ne_a3__rb3 nin0))).keep K84 (ninS ne_a3__b1 (ninS ne_a3__rb3 nin0))).ext E104)
    have F165 := (F164.keep K107 (ninS ne_a3__b1 (ninS ne_a3__rb3 nin0)))
    have F166 := (((F13.keep K3 (ninS ne_b3__b1 nin0)).ext E16).keep K18 (ninS ne_b3__b1 (ninS ne_b3__rb3 nin0)))
    have F167 := (((F166.keep K28 (ninS ne_b3__b1 (ninS ne_b3__rb3 nin0))).ext E40).keep K43 (ninS ne_b3__b1 (ninS ne_b3__rb3 nin0)))
    have F168 := (((F167.keep K54 (ninS ne_b3__b1 (ninS ne_b3__rb3 nin0))).ext E70).keep K73 (ninS ne_b3__b1 (ninS ne_b3__rb3 nin0)))
    have F169 := (((F168.keep K84 (ninS ne_b3__b1 (ninS ne_b3__rb3 nin0))).ext E104).keep K107 (ninS ne_b3__b1 (ninS ne_b3__rb3 nin0)))
    obtain ⟨cn170, hcn170⟩ : ∃ y, cn115 + z3 = y := ⟨_, rfl⟩
    have tcn170 := own_fit (c := cn115) (y := z3) (by omega) (by omega) (by omega) hcn170
    have K171 : Keep h0 T107.heap [] := (K116.trans K107 (allS (P := fun x => x ∈ ([] : List Addr) ∨ h0.size ≤ x) (Or.inr sz_b1) (allS (P := fun x => x ∈ ([] : List Addr) ∨ h0.size ≤ x) (Or.inr sz_rb3) all0)))
    have O172 : Old Z n0 T107.heap := (O117.keep K107 (allS ge_b1 (allS ge_rb3 all0)))
    obtain ⟨cq150, kq150, q150a, q150b, q150c⟩ := isOf hZ rfl (own_sbo P107).1
    obtain ⟨_, _, ⟨T150, L150, kk150, n150⟩, -, X150, ⟨Lc150, hQ150, l150, y150, z150⟩, st150⟩ := X107.virtualBack hx (y := (⟨"java/lang/StringBuilder", "append", "(Ljava/lang/String;)Ljava/lang/StringBuilder;"⟩ : MethodName)) (z := (⟨"java/lang/StringBuilder", "append", "(Ljava/lang/String;)Ljava/lang/StringBuilder;"⟩ : MethodName)) hown (mvT hZ (hw _ (List.mem_of_getElem? (i := 61) rfl))) (mvT hZ (hw _ (List.mem_of_getElem? (i := 62) rfl))) (notFace_of_selects (args := #[]) (mvT hZ (hw _ (List.mem_of_getElem? (i := 64) rfl)))) (mvT hZ (hw _ (List.mem_of_getElem? (i := 64) rfl))) (mvT hZ (hw _ (List.mem_of_getElem? (i := 63) rfl))) (by decide) (backOf (W := 0) (rmS2 l Z a0 hw [] b1 a3_ rb3 kb3 cn115 (((((((([] : List Value) ++ [(.int (97 : Int32)), (.int (114 : Int32)), (.int (110 : Int32)), (.int (58 : Int32))]) ++ v0) ++ [(.int (58 : Int32))]) ++ v1) ++ [(.int (58 : Int32)), (.int (58 : Int32))]) ++ v2) ++ [(.int (58 : Int32))]) b3_ k3_ z3 v3 cs cn170 T107.heap n0 (Nat.le_trans Z0 K171.1) P151 F155 F160 F165 F169 hl3 SC hcs O172 (by omega) (by omega) hcn170 ⟨by omega, by omega, by omega⟩ ge_b1 ge_rb3) hZ (hw _ (List.mem_of_getElem? (i := 65) rfl)) (hw _ (List.mem_of_getElem? (i := 44) rfl)) (by decide) (by decide)) q150a q150c (g := (mkF m 40 #[.val (.ref a0_), .val (.ref a1_), .val (.ref a2_), .val (.ref a3_)] [(.ref a3_), (.ref b1)])) rfl (by rw [hml]; rfl) (Steps.refl _) (argsL := [(.ref a3_)]) (rest := []) (lenOf own_pd22 rfl) rfl (by show 2 * 0 + _ ≤ _; exact Nat.le_of_eq rfl) (hb hby own_d30_40) (fun _ _ => ⟨rfl, rfl, (by decide : 10 + 1 ≤ _), (by decide : 68 + 34 ≤ _)⟩)
    dsimp only [Pt.U, Pt.locs, Pt.cells, Pt.slots] at X150 l150 y150 z150 st150 hQ150
    subst l150 y150 z150
    obtain ⟨rb150, kb150, rfl, N150q, K150, z150z, P150⟩ := hQ150
    have F173 := (((F30.keep K28).ext E40).keep K43)
    have F174 := (((F173.keep K54).ext E70).keep K73)
    have F175 := (((F174.keep K84).ext E104).keep K107)
    have ne_a0__rb150 : a0_ ≠ rb150 := Nat.ne_of_lt (Nat.lt_of_lt_of_le F175.lt z150z)
    have F176 := (((F35.keep K28 (ninS ne_b0__b1 (ninS ne_b0__rb3 nin0))).ext E40).keep K43 (ninS ne_b0__b1 (ninS ne_b0__rb3 nin0)))
    have F177 := (((F176.keep K54 (ninS ne_b0__b1 (ninS ne_b0__rb3 nin0))).ext E70).keep K73 (ninS ne_b0__b1 (ninS ne_b0__rb3 nin0)))
    have F178 := (((F177.keep K84 (ninS ne_b0__b1 (ninS ne_b0__rb3 nin0))).ext E104).keep K107 (ninS ne_b0__b1 (ninS ne_b0__rb3 nin0)))
    have ne_b0__rb150 : b0_ ≠ rb150 := Nat.ne_of_lt (Nat.lt_of_lt_of_le F178.lt z150z)
    have F179 := (((F57.keep K54).ext E70).keep K73)
    have F180 := (((F179.keep K84).ext E104).keep K107)
    have ne_a1__rb150 : a1_ ≠ rb150 := Nat.ne_of_lt (Nat.lt_of_lt_of_le F180.lt z150z)
    have F181 := (((F65.keep K54 (ninS ne_b1__b1 (ninS ne_b1__rb3 nin0))).ext E70).keep K73 (ninS ne_b1__b1 (ninS ne_b1__rb3 nin0)))
    have F182 := (((F181.keep K84 (ninS ne_b1__b1 (ninS ne_b1__rb3 nin0))).ext E104).keep K107 (ninS ne_b1__b1 (ninS ne_b1__rb3 nin0)))
    have ne_b1__rb150 : b1_ ≠ rb150 := Nat.ne_of_lt (Nat.lt_of_lt_of_le F182.lt z150z)
    have F183 := (((F88.keep K84).ext E104).keep K107)
    have ne_a2__rb150 : a2_ ≠ rb150 := Nat.ne_of_lt (Nat.lt_of_lt_of_le F183.lt z150z)
    have F184 := (((F99.keep K84 (ninS ne_b2__b1 (ninS ne_b2__rb3 nin0))).ext E104).keep K107 (ninS ne_b2__b1 (ninS ne_b2__rb3 nin0)))
    have ne_b2__rb150 : b2_ ≠ rb150 := Nat.ne_of_lt (Nat.lt_of_lt_of_le F184.lt z150z)
    have ne_a3__rb150 : a3_ ≠ rb150 := Nat.ne_of_lt (Nat.lt_of_lt_of_le F155.lt z150z)
    have ne_b3__rb150 : b3_ ≠ rb150 := Nat.ne_of_lt (Nat.lt_of_lt_of_le F169.lt z150z)
    have F185 := (((Ex16.keep K18).keep K28).ext E40)
    have F186 := (((F185.keep K43).keep K54).ext E70)
    have F187 := (((F186.keep K73).keep K84).ext E104)
    have F188 := (F187.keep K107)
    have ne_b16_rb150 : b16 ≠ rb150 := Nat.ne_of_lt (Nat.lt_of_lt_of_le F188.lt z150z)
    have F190 := (((Ex40.keep K43).keep K54).ext E70)
    have F191 := (((F190.keep K73).keep K84).ext E104)
    have F192 := (F191.keep K107)
    have ne_b40_rb150 : b40 ≠ rb150 := Nat.ne_of_lt (Nat.lt_of_lt_of_le F192.lt z150z)
    have F194 := (((Ex70.keep K73).keep K84).ext E104)
    have F195 := (F194.keep K107)
    have ne_b70_rb150 : b70 ≠ rb150 := Nat.ne_of_lt (Nat.lt_of_lt_of_le F195.lt z150z)
    have F197 := (Ex104.keep K107)
    have ne_b104_rb150 : b104 ≠ rb150 := Nat.ne_of_lt (Nat.lt_of_lt_of_le F197.lt z150z)
    have ne_b1_rb150 : b1 ≠ rb150 := Nat.ne_of_lt (Nat.lt_of_lt_of_le (own_sbo P107).1.lt z150z)
    have ne_rb3_rb150 : rb3 ≠ rb150 := Nat.ne_of_lt (Nat.lt_of_lt_of_le (own_sbo P107).2.2.2.2.1.lt z150z)
    have sz_rb150 : h0.size ≤ rb150 := Nat.le_trans K171.1 z150z
    have ge_rb150 : n0 ≤ rb150 := Nat.le_trans Z0 sz_rb150
    have CRc199 := CRl104.trans (CHr.keep K107 (sfS Sf104_b1 (sfS Sf104_rb3 sf0)) CHl104)
    have Sfc199_b1 := Safe.keep K107 (sfS Sf104_b1 (sfS Sf104_rb3 sf0)) CHl104 Sf104_b1
    have Sfc199_rb3 := Safe.keep K107 (sfS Sf104_b1 (sfS Sf104_rb3 sf0)) CHl104 Sf104_rb3
    have CHc199 := CRc199.1
    have Sf150_rb150 : Safe Z own_EL T104.vm T107.heap rb150 := Safe.new z150z
    have N150 := Fr.app N107 N150q
    have tl_34 : (34 : Int32).toInt = 34 := rfl
    have hcr200 := own_crp (c := cn170) (z := (34 : Int32)) (by omega) (by omega) (by omega)
    have P202 : own_sb Z T150.heap b1 rb150 kb150 (34 : Int32) cn170 ((((((((([] : List Value) ++ [(.int (97 : Int32)), (.int (114 : Int32)), (.int (110 : Int32)), (.int (58 : Int32))]) ++ v0) ++ [(.int (58 : Int32))]) ++ v1) ++ [(.int (58 : Int32)), (.int (58 : Int32))]) ++ v2) ++ [(.int (58 : Int32))]) ++ v3) := ⟨(own_sbo P150).1, (own_sbo P150).2.1, (own_sbo P150).2.2.1, (own_sbo P150).2.2.2.1, (own_sbo P150).2.2.2.2.1, (own_sbo P150).2.2.2.2.2.1, (own_sbo P150).2.2.2.2.2.2⟩
    have K203 : Keep h0 T150.heap [] := (K171.trans K150 (allS (P := fun x => x ∈ ([] : List Addr) ∨ h0.size ≤ x) (Or.inr sz_b1) all0))
    have O204 : Old Z n0 T150.heap := (O172.keep K150 (allS ge_b1 all0))
    obtain ⟨cq201, kq201, q201a, q201b, q201c⟩ := isOf hZ rfl (own_sbo P150).1
    obtain ⟨_, _, ⟨T201, L201, kk201, n201⟩, -, X201, ⟨Lc201, hQ201, l201, y201, z201⟩, st201⟩ := X150.virtualBack hx (y := (⟨"java/lang/StringBuilder", "toString", "()Ljava/lang/String;"⟩ : MethodName)) (z := (⟨"java/lang/StringBuilder", "toString", "()Ljava/lang/String;"⟩ : MethodName)) hown (mvT hZ (hw _ (List.mem_of_getElem? (i := 108) rfl))) (mvT hZ (hw _ (List.mem_of_getElem? (i := 109) rfl))) (notFace_of_selects (args := #[]) (mvT hZ (hw _ (List.mem_of_getElem? (i := 111) rfl)))) (mvT hZ (hw _ (List.mem_of_getElem? (i := 111) rfl))) (mvT hZ (hw _ (List.mem_of_getElem? (i := 110) rfl))) (by decide) (backOf (W := 0) (rmT1 l Z a0 hw [] b1 rb150 kb150 (34 : Int32) cn170 ((((((((([] : List Value) ++ [(.int (97 : Int32)), (.int (114 : Int32)), (.int (110 : Int32)), (.int (58 : Int32))]) ++ v0) ++ [(.int (58 : Int32))]) ++ v1) ++ [(.int (58 : Int32)), (.int (58 : Int32))]) ++ v2) ++ [(.int (58 : Int32))]) ++ v3) cs T150.heap n0 (Nat.le_trans Z0 K203.1) P202  hcr200.1 hcr200.2.1 hcr200.2.2.1 hcr200.2.2.2.1 hcr200.2.2.2.2 SC hcs O204) hZ (hw _ (List.mem_of_getElem? (i := 112) rfl)) (hw _ (List.mem_of_getElem? (i := 44) rfl)) (by decide) (by decide)) q201a q201c (g := (mkF m 43 #[.val (.ref a0_), .val (.ref a1_), .val (.ref a2_), .val (.ref a3_)] [(.ref b1)])) rfl (by rw [hml]; rfl) (Steps.refl _) (argsL := []) (rest := []) (lenOf own_pd3 rfl) rfl (by show 2 * 0 + _ ≤ _; exact Nat.le_of_eq rfl) (hb hby own_d30_43) (fun _ _ => ⟨rfl, rfl, (by decide : 11 + 2 ≤ _), (by decide : 102 + 38 ≤ _)⟩)
    dsimp only [Pt.U, Pt.locs, Pt.cells, Pt.slots] at X201 l201 y201 z201 st201 hQ201
    subst l201 y201 z201
    obtain ⟨r201, rb201, kb201, rfl, N201q, K201, E201, Fc201, Fv201, V201⟩ := hQ201
    have N201 := Fr.app N150 N201q
    have K205 : Keep h0 T201.heap [] := (K203.trans K201 all0)
    have k206 : own_To p e below T201 (mkF m 46 #[.val (.ref a0_), .val (.ref a1_), .val (.ref a2_), .val (.ref a3_)] [(.ref r201)]) s₁ (mkF m 0 #[.val (.ref a0_), .val (.ref a1_), .val (.ref a2_), .val (.ref a3_)] []) := fun t q => k118 t (by
      refine st150.trans ?_
      show Steps p.tables e below (T150.setTop (mkF m 43 #[.val (.ref a0_), .val (.ref a1_), .val (.ref a2_), .val (.ref a3_)] [(.ref b1)])) _
      refine st201.trans ?_
      show Steps p.tables e below (T201.setTop (mkF m 46 #[.val (.ref a0_), .val (.ref a1_), .val (.ref a2_), .val (.ref a3_)] [(.ref r201)])) _
      exact q)
    have CRc207 := CRc199.trans (CHr.keep K150 (sfS Sfc199_b1 sf0) CHc199)
    have Sfc207_b1 := Safe.keep K150 (sfS Sfc199_b1 sf0) CHc199 Sfc199_b1
    have Sfc207_rb3 := Safe.keep K150 (sfS Sfc199_b1 sf0) CHc199 Sfc199_rb3
    have Sfc207_rb150 := Safe.keep K150 (sfS Sfc199_b1 sf0) CHc199 Sf150_rb150
    have CHc207 := CRc207.1
    have CRc208 := CRc207.trans (CHr.keep K201 sf0 CHc207)
    have Sfc208_b1 := Safe.keep K201 sf0 CHc207 Sfc207_b1
    have Sfc208_rb3 := Safe.keep K201 sf0 CHc207 Sfc207_rb3
    have Sfc208_rb150 := Safe.keep K201 sf0 CHc207 Sfc207_rb150
    have CHc208 := CRc208.1
    have hCe := CRc208.trans (CHv.at (vm0 := T104.vm) X201 hZ hEL CHc208)
    obtain ⟨fs, hr, hrun, hended, hEnd⟩ := Stand.leaveW (s := s) (vm₁ := T104.vm) X201 hS104 (by exact (Nat.le_trans (Nat.le_trans (Nat.le_trans hk104 K107.1) K150.1) K201.1)) (v := some (.ref r201)) (fun h => by rw [Bd.returns] at h; cases h)
    refine ⟨_, _, k0 _ (k206 _ ?_), hrun, hended, _, _, rfl, ?_, ?_, hEnd.1, hEnd.2.1, hEnd.2.2.1, hEnd.2.2.2.mono (by decide) (by decide)⟩
    · show Steps p.tables e below (T201.setTop (mkF m 46 #[.val (.ref a0_), .val (.ref a1_), .val (.ref a2_), .val (.ref a3_)] [(.ref r201)])) _
      exact retOut X201 hx Bd.returns rfl (Or.inr (Or.inr (Or.inr (Or.inr ⟨rfl, rfl, rfl⟩)))) (hb hby own_d30_46) hr
    · show Q30 Z a0_ a1_ a2_ a3_ b0_ k0_ z0 v0 b1_ k1_ z1 v1 b2_ k2_ z2 v2 b3_ k3_ z3 v3 cs h0 n0 _ T201.heap _
      exact ⟨r201, rb201, kb201, cn170, ((((((((([] : List Value) ++ [(.int (97 : Int32)), (.int (114 : Int32)), (.int (110 : Int32)), (.int (58 : Int32))]) ++ v0) ++ [(.int (58 : Int32))]) ++ v1) ++ [(.int (58 : Int32)), (.int (58 : Int32))]) ++ v2) ++ [(.int (58 : Int32))]) ++ v3), rfl, N201, K205, E201, Fc201, Fv201, V201, (own_sbo P150).2.2.2.2.2.2, by omega, rfl⟩
    · show CHr Z own_EL s.vm s.heap T201.vm T201.heap
      rw [hh]; exact hCe
theorem own_pd26 : parseMethodDescriptor "(Ljava/lang/String;Ljava/lang/String;Ljava/lang/String;Ljava/lang/String;)Ljava/lang/String;" = some ⟨[(.object "java/lang/String"), (.object "java/lang/String"), (.object "java/lang/String"), (.object "java/lang/String")], some (.object "java/lang/String")⟩ := by decide +kernel
theorem own_d8_0 : decode prog_27_method_6_code 0 = .ok (.aload_n 0, 1) := by decide +kernel
theorem own_d8_1 : decode prog_27_method_6_code 1 = .ok (.ldc 50, 2) := by decide +kernel
theorem own_d8_3 : decode prog_27_method_6_code 3 = .ok (.aload_n 1, 1) := by decide +kernel
theorem own_d8_4 : decode prog_27_method_6_code 4 = .ok (.new 63, 3) := by decide +kernel
theorem own_d8_7 : decode prog_27_method_6_code 7 = .ok (.dup, 1) := by decide +kernel
theorem own_d8_8 : decode prog_27_method_6_code 8 = .ok (.invokespecial 65, 3) := by decide +kernel
theorem own_d8_11 : decode prog_27_method_6_code 11 = .ok (.ldc 92, 2) := by decide +kernel
theorem own_d8_13 : decode prog_27_method_6_code 13 = .ok (.invokevirtual 68, 3) := by decide +kernel
theorem own_d8_16 : decode prog_27_method_6_code 16 = .ok (.aload_n 2, 1) := by decide +kernel
theorem own_d8_17 : decode prog_27_method_6_code 17 = .ok (.invokevirtual 68, 3) := by decide +kernel
theorem own_d8_20 : decode prog_27_method_6_code 20 = .ok (.invokevirtual 72, 3) := by decide +kernel
theorem own_d8_23 : decode prog_27_method_6_code 23 = .ok (.invokestatic 54, 3) := by decide +kernel
theorem own_d8_26 : decode prog_27_method_6_code 26 = .ok (.areturn, 1) := by decide +kernel
theorem own_pn8 : plainName "com/example/issuer/issuer/identity/Caller" = true := by first | (simp [plainName, overriddenIn]; done) | decide +kernel
theorem own_ef8 (m : MethodId) (x0 : Addr) (x1 : Addr) (x2 : Addr) : entryFrame m #[(.ref x0), (.ref x1), (.ref x2)] 3 = mkF m 0 #[.val (.ref x0), .val (.ref x1), .val (.ref x2)] [] := by first | (simp [entryFrame, mkF, argsToLocals, Value.category]; done) | rfl
def Q8 (Z : State) (a0_ : Addr) (a1_ : Addr) (a2_ : Addr) (b0_ : Addr) (k0_ : ClassId) (z0 : Int32) (v0 : List Value) (b1_ : Addr) (k1_ : ClassId) (z1 : Int32) (v1 : List Value) (b2_ : Addr) (k2_ : ClassId) (z2 : Int32) (v2 : List Value) (cs : Int32) (h0 : Heap) (n0 : Nat) (v : Option Value) (h : Heap) (L : List Loc) : Prop := ∃ (r b : Addr) (kb : ClassId) (z : Int32) (vs : List Value), v = some (.ref r) ∧ Fr n0 L ∧ Keep h0 h [] ∧ Exa Z h r "java/lang/String" ∧ Fld Z h r "java/lang/String" "coder" "B" (.int (0 : Int32)) ∧ Fld Z h r "java/lang/String" "value" "[B" (.ref b) ∧ Arv Z h b kb .byte z vs (.int (0 : Int32)) ∧ vs.length = z.toNatClampNeg ∧ z.toInt = 16 + z0.toInt + z1.toInt + z2.toInt ∧ vs = [(.int (97 : Int32)), (.int (114 : Int32)), (.int (110 : Int32)), (.int (58 : Int32))] ++ (v0 ++ ([(.int (58 : Int32)), (.int (105 : Int32)), (.int (97 : Int32)), (.int (109 : Int32)), (.int (58 : Int32)), (.int (58 : Int32))] ++ (v1 ++ ([(.int (58 : Int32)), (.int (114 : Int32)), (.int (111 : Int32)), (.int (108 : Int32)), (.int (101 : Int32)), (.int (47 : Int32))] ++ v2))))
set_option maxRecDepth 65536 in
set_option maxHeartbeats 40000000 in
theorem rm8 (l : Launch) (Z : State) (a0 : Array Value) (hw : ∀ d ∈ tables_1, d.before a0 Z = true) (ws : List Jvm.Cond) (a0_ : Addr) (a1_ : Addr) (a2_ : Addr) (b0_ : Addr) (k0_ : ClassId) (z0 : Int32) (v0 : List Value) (b1_ : Addr) (k1_ : ClassId) (z1 : Int32) (v1 : List Value) (b2_ : Addr) (k2_ : ClassId) (z2 : Int32) (v2 : List Value) (cs : Int32) (h0 : Heap) (n0 : Nat) (Z0 : n0 ≤ h0.size) (Es0 : Exa Z h0 a0_ "java/lang/String") (Fcs0 : Fld Z h0 a0_ "java/lang/String" "coder" "B" (.int (0 : Int32))) (Fvs0 : Fld Z h0 a0_ "java/lang/String" "value" "[B" (.ref b0_)) (Vs0 : Arv Z h0 b0_ k0_ .byte z0 v0 (.int (0 : Int32))) (hl0 : v0.length = z0.toNatClampNeg) (Es1 : Exa Z h0 a1_ "java/lang/String") (Fcs1 : Fld Z h0 a1_ "java/lang/String" "coder" "B" (.int (0 : Int32))) (Fvs1 : Fld Z h0 a1_ "java/lang/String" "value" "[B" (.ref b1_)) (Vs1 : Arv Z h0 b1_ k1_ .byte z1 v1 (.int (0 : Int32))) (hl1 : v1.length = z1.toNatClampNeg) (Es2 : Exa Z h0 a2_ "java/lang/String") (Fcs2 : Fld Z h0 a2_ "java/lang/String" "coder" "B" (.int (0 : Int32))) (Fvs2 : Fld Z h0 a2_ "java/lang/String" "value" "[B" (.ref b2_)) (Vs2 : Arv Z h0 b2_ k2_ .byte z2 v2 (.int (0 : Int32))) (hl2 : v2.length = z2.toNatClampNeg) (SC : Sta Z Z.heap "java/lang/String" "COMPACT_STRINGS" "Z" (.int cs)) (hcs : ¬ cs = (0 : Int32)) (O0 : Old Z n0 h0) (hz0 : 0 ≤ z0.toInt ∧ z0.toInt ≤ 2) (hz1 : 0 ≤ z1.toInt ∧ z1.toInt ≤ 2) (hz2 : 0 ≤ z2.toInt ∧ z2.toInt ≤ 2) (hEL : EW Z a0 own_EL) :
    MetFree l (⟨"com/example/issuer/issuer/identity/Caller", "roleArn", "(Ljava/lang/String;Ljava/lang/String;Ljava/lang/String;)Ljava/lang/String;"⟩ : MethodName) (head1 (Jvm.Cond.code (⟨"com/example/issuer/issuer/identity/Caller", "roleArn", "(Ljava/lang/String;Ljava/lang/String;Ljava/lang/String;)Ljava/lang/String;"⟩ : MethodName) prog_27_method_6_code 3 (some (.object "java/lang/String")) :: ws) ({ frames := 7, cells := 21, slots := 238, locals := 106 } : Room)) (fun a U => a = #[(.ref a0_), (.ref a1_), (.ref a2_)] ∧ Z.Warmed39 U.vm ∧ U.heap = h0 ∧ CHv Z own_EL U.vm h0) (fun _ _ _ _ _ => True) (fun _ U o U' => ∃ v L, o = .returned v ∧ Q8 Z a0_ a1_ a2_ b0_ k0_ z0 v0 b1_ k1_ z1 v1 b2_ k2_ z2 v2 cs h0 n0 v U'.heap L ∧ CHr Z own_EL U.vm U.heap U'.vm U'.heap ∧ ReturnedEndW U o U' L ({ frames := 7, cells := 21, slots := 238, locals := 106 } : Room).cells ({ frames := 7, cells := 21, slots := 238, locals := 106 } : Room).slots) := by
  refine MetFree.of_bodySF (plainFor_of_name own_pn8) hisR ?_
  intro p e s m args below meth c s₁ Bd hml0 hP hK
  obtain ⟨rfl, hZ, hh, hCH⟩ := hP
  have hx := Bd.exec
  have hby := Bd.bytes
  have hml : c.maxLocals = 3 := hml0
  have hown : s.vm.findClass "com/example/issuer/issuer/identity/Caller" = some m.cls := findClass_of_methodNamed Bd.named
  have hnm := (name_of_methodNamed Bd.named Bd.method).1
  have X0 : Stand p l e ({ frames := 7, cells := 21, slots := 238, locals := 106 } : Room) s m #[(.ref a0_), (.ref a1_), (.ref a2_)] below meth c s₁ [] 0 0 := Stand.of_body Bd
  have e0 : s₁.heap = h0 := by rw [← hh, Bd.state]; rfl
  have N0 := Fr.nil n0
  have k0 : own_To p e below s₁ (mkF m 0 #[.val (.ref a0_), .val (.ref a1_), .val (.ref a2_)] []) s₁ (entryFrame m #[(.ref a0_), (.ref a1_), (.ref a2_)] 3) := fun t k => castTop (own_ef8 m a0_ a1_ a2_) k
  have ki : own_To p e below s₁ (mkF m 0 #[.val (.ref a0_), .val (.ref a1_), .val (.ref a2_)] []) s₁ (mkF m 0 #[.val (.ref a0_), .val (.ref a1_), .val (.ref a2_)] []) := fun t q => q
  have hstr : ∀ a ∈ Bundle.stringAtoms, a.before a0 Z = true := fun d hd => hw d ((by decide +kernel : ∀ d ∈ Bundle.stringAtoms, d ∈ tables_1) d hd)
  have X0 := own_base X0
  have CR0 := CHr.refl hCH
  have k1 : own_To p e below s₁ (mkF m 1 #[.val (.ref a0_), .val (.ref a1_), .val (.ref a2_)] [(.ref a0_)]) s₁ (mkF m 0 #[.val (.ref a0_), .val (.ref a1_), .val (.ref a2_)] []) := fun t q => ki t (by
    refine XS.aloadN X0.here hx rfl (hb hby own_d8_0) rfl rfl ?_
    show Steps p.tables e below (s₁.setTop (mkF m 1 #[.val (.ref a0_), .val (.ref a1_), .val (.ref a2_)] [(.ref a0_)])) _
    exact q)
  obtain ⟨b2, T2, h2, kk2, bb2, kb2, X2, e2, E2, hS2, hk2, hZ2, hown2, Ex2, Fc2, Fv2, V2, -, -, hC2, -, -, st2⟩ := ldcCH (vm0 := s.vm) X0 hx hZ hown (hw _ (List.mem_of_getElem? (i := 41) rfl)) hstr e0 (State.WarmedH.since (State.WarmedH.refl s) 0) (Nat.zero_le _) hEL (List.mem_of_getElem? (i := 0) rfl) hCH (vs := [(.int (105 : Int32)), (.int (97 : Int32)), (.int (109 : Int32))]) (z := (3 : Int32)) ⟨by decide, rfl⟩ (by decide) rfl (g := (mkF m 1 #[.val (.ref a0_), .val (.ref a1_), .val (.ref a2_)] [(.ref a0_)])) rfl (hb hby own_d8_1) (n := 12) (by decide) (by decide) (by decide) (by decide)
  have hZ := hZ2
  have hown := hown2
  have CRl2 := CR0.trans hC2
  have CHl2 := CRl2.1
  obtain ⟨T3, h3, X3, e3, E3, A3, D3, -, st3⟩ := newO X2 hx hZ hown (hw _ (List.mem_of_getElem? (i := 42) rfl)) (hw _ (List.mem_of_getElem? (i := 43) rfl)) (hw _ (List.mem_of_getElem? (i := 44) rfl)) e2 (g := (mkF m 4 #[.val (.ref a0_), .val (.ref a1_), .val (.ref a2_)] [(.ref a1_), (.ref b2), (.ref a0_)])) rfl (hb hby own_d8_4) (by decide) (by decide)
  obtain ⟨b3, g3⟩ : ∃ z, z = h2.size := ⟨_, rfl⟩
  rw [← g3] at A3 D3 st3
  have Sf3_b3 : Safe Z own_EL T2.vm h2 b3 := Safe.new (Nat.le_of_eq g3.symm)
  have K4 : Keep h0 h2 [] := ((Keep.refl h0 []).ext E2)
  have ge_b3 : n0 ≤ b3 := Nat.le_trans (Nat.le_trans Z0 K4.1) (Nat.le_of_eq g3.symm)
  have sz_b3 : h0.size ≤ b3 := Nat.le_trans K4.1 (Nat.le_of_eq g3.symm)
  have F5 := (Es0.ext E2)
  have ne_a0__b3 : a0_ ≠ b3 := Nat.ne_of_lt (Nat.lt_of_lt_of_le F5.lt (Nat.le_of_eq g3.symm))
  have F6 := (Vs0.ext E2)
  have ne_b0__b3 : b0_ ≠ b3 := Nat.ne_of_lt (Nat.lt_of_lt_of_le F6.lt (Nat.le_of_eq g3.symm))
  have F7 := (Es1.ext E2)
  have ne_a1__b3 : a1_ ≠ b3 := Nat.ne_of_lt (Nat.lt_of_lt_of_le F7.lt (Nat.le_of_eq g3.symm))
  have F8 := (Vs1.ext E2)
  have ne_b1__b3 : b1_ ≠ b3 := Nat.ne_of_lt (Nat.lt_of_lt_of_le F8.lt (Nat.le_of_eq g3.symm))
  have F9 := (Es2.ext E2)
  have ne_a2__b3 : a2_ ≠ b3 := Nat.ne_of_lt (Nat.lt_of_lt_of_le F9.lt (Nat.le_of_eq g3.symm))
  have F10 := (Vs2.ext E2)
  have ne_b2__b3 : b2_ ≠ b3 := Nat.ne_of_lt (Nat.lt_of_lt_of_le F10.lt (Nat.le_of_eq g3.symm))
  have ne_b2_b3 : b2 ≠ b3 := Nat.ne_of_lt (Nat.lt_of_lt_of_le Ex2.lt (Nat.le_of_eq g3.symm))
  have ne_bb2_b3 : bb2 ≠ b3 := Nat.ne_of_lt (Nat.lt_of_lt_of_le V2.lt (Nat.le_of_eq g3.symm))
  have F3_57 : Fld Z h3 b3 "java/lang/AbstractStringBuilder" "value" "[B" .null := D3 (Or.inl (hw _ (List.mem_of_getElem? (i := 57) rfl))) (ty := (.array .byte)) (by decide)
  have F3_59 : Fld Z h3 b3 "java/lang/AbstractStringBuilder" "coder" "B" (.int (0 : Int32)) := D3 (Or.inl (hw _ (List.mem_of_getElem? (i := 59) rfl))) (ty := .byte) (by decide)
  have F3_82 : Fld Z h3 b3 "java/lang/AbstractStringBuilder" "count" "I" (.int (0 : Int32)) := D3 (Or.inl (hw _ (List.mem_of_getElem? (i := 82) rfl))) (ty := .int) (by decide)
  have K12 : Keep h0 h3 [] := (K4.ext E3)
  have O13 : Old Z n0 h3 := ((O0.ext E2).ext E3)
  obtain ⟨_, _, ⟨T11, L11, kk11, n11⟩, -, X11, ⟨Lc11, hQ11, l11, y11, z11⟩, st11⟩ := X3.specialBack hx (y := (⟨"java/lang/StringBuilder", "<init>", "()V"⟩ : MethodName)) rfl hown (mvT hZ (hw _ (List.mem_of_getElem? (i := 45) rfl))) (mvT hZ (hw _ (List.mem_of_getElem? (i := 46) rfl))) (mvT hZ (hw _ (List.mem_of_getElem? (i := 47) rfl))) (by decide) (backOf (W := 4) (rm9 l Z a0 hw [] b3 cs h3 n0 (Nat.le_trans Z0 K12.1) F3_57 F3_59 F3_82 A3 ge_b3 SC hcs O13) hZ (hw _ (List.mem_of_getElem? (i := 47) rfl)) (hw _ (List.mem_of_getElem? (i := 44) rfl)) (by decide) (by decide)) (g := (mkF m 8 #[.val (.ref a0_), .val (.ref a1_), .val (.ref a2_)] [(.ref b3), (.ref b3), (.ref a1_), (.ref b2), (.ref a0_)])) rfl (by rw [hml]; rfl) (Steps.refl _) (a := b3) (argsL := []) (rest := [(.ref b3), (.ref a1_), (.ref b2), (.ref a0_)]) (lenOf own_pd4 rfl) rfl (by show 2 * 0 + _ ≤ _; exact Nat.le_of_eq rfl) (hb hby own_d8_8) (fun _ _ => ⟨rfl, e3, (by decide : 3 + 1 ≤ _), (by decide : 20 + 16 ≤ _)⟩)
  dsimp only [Pt.U, Pt.locs, Pt.cells, Pt.slots] at X11 l11 y11 z11 st11 hQ11
  subst l11 y11 z11
  obtain ⟨rb11, kb11, rfl, N11q, K11, z11z, P11⟩ := hQ11
  have F14 := (F5.ext E3)
  have ne_a0__rb11 : a0_ ≠ rb11 := Nat.ne_of_lt (Nat.lt_of_lt_of_le F14.lt z11z)
  have F15 := (F6.ext E3)
  have ne_b0__rb11 : b0_ ≠ rb11 := Nat.ne_of_lt (Nat.lt_of_lt_of_le F15.lt z11z)
  have F16 := (F7.ext E3)
  have ne_a1__rb11 : a1_ ≠ rb11 := Nat.ne_of_lt (Nat.lt_of_lt_of_le F16.lt z11z)
  have F17 := (F8.ext E3)
  have ne_b1__rb11 : b1_ ≠ rb11 := Nat.ne_of_lt (Nat.lt_of_lt_of_le F17.lt z11z)
  have F18 := (F9.ext E3)
  have ne_a2__rb11 : a2_ ≠ rb11 := Nat.ne_of_lt (Nat.lt_of_lt_of_le F18.lt z11z)
  have F19 := (F10.ext E3)
  have ne_b2__rb11 : b2_ ≠ rb11 := Nat.ne_of_lt (Nat.lt_of_lt_of_le F19.lt z11z)
  have F20 := (Ex2.ext E3)
  have ne_b2_rb11 : b2 ≠ rb11 := Nat.ne_of_lt (Nat.lt_of_lt_of_le F20.lt z11z)
  have F21 := (V2.ext E3)
  have ne_bb2_rb11 : bb2 ≠ rb11 := Nat.ne_of_lt (Nat.lt_of_lt_of_le F21.lt z11z)
  have ne_b3_rb11 : b3 ≠ rb11 := Nat.ne_of_lt (Nat.lt_of_lt_of_le A3.lt z11z)
  have sz_rb11 : h0.size ≤ rb11 := Nat.le_trans K12.1 z11z
  have ge_rb11 : n0 ≤ rb11 := Nat.le_trans Z0 sz_rb11
  have CRc22 := CRl2.trans (CHr.ext E3 CHl2)
  have Sfc22_b3 := Safe.ext E3 CHl2 Sf3_b3
  have CHc22 := CRc22.1
  have Sf11_rb11 : Safe Z own_EL T2.vm h3 rb11 := Safe.new z11z
  have N11 := Fr.app N0 N11q
  have k23 : own_To p e below T11 (mkF m 11 #[.val (.ref a0_), .val (.ref a1_), .val (.ref a2_)] [(.ref b3), (.ref a1_), (.ref b2), (.ref a0_)]) s₁ (mkF m 0 #[.val (.ref a0_), .val (.ref a1_), .val (.ref a2_)] []) := fun t q => k1 t (by
    refine st2 _ ?_
    show Steps p.tables e below (T2.setTop (mkF m 3 #[.val (.ref a0_), .val (.ref a1_), .val (.ref a2_)] [(.ref b2), (.ref a0_)])) _
    refine XS.aloadN X2.here hx rfl (hb hby own_d8_3) rfl rfl ?_
    show Steps p.tables e below (T2.setTop (mkF m 4 #[.val (.ref a0_), .val (.ref a1_), .val (.ref a2_)] [(.ref a1_), (.ref b2), (.ref a0_)])) _
    refine st3 _ ?_
    show Steps p.tables e below (T3.setTop (mkF m 7 #[.val (.ref a0_), .val (.ref a1_), .val (.ref a2_)] [(.ref b3), (.ref a1_), (.ref b2), (.ref a0_)])) _
    refine XS.dup X3.here hx rfl (hb hby own_d8_7) rfl rfl ?_
    show Steps p.tables e below (T3.setTop (mkF m 8 #[.val (.ref a0_), .val (.ref a1_), .val (.ref a2_)] [(.ref b3), (.ref b3), (.ref a1_), (.ref b2), (.ref a0_)])) _
    refine st11.trans ?_
    show Steps p.tables e below (T11.setTop (mkF m 11 #[.val (.ref a0_), .val (.ref a1_), .val (.ref a2_)] [(.ref b3), (.ref a1_), (.ref b2), (.ref a0_)])) _
    exact q)
  have CRc25 := CRc22.trans (CHr.keep K11 (sfS Sfc22_b3 sf0) CHc22)
  have Sfc25_b3 := Safe.keep K11 (sfS Sfc22_b3 sf0) CHc22 Sfc22_b3
  have Sfc25_rb11 := Safe.keep K11 (sfS Sfc22_b3 sf0) CHc22 Sf11_rb11
  have CHc25 := CRc25.1
  obtain ⟨b24, T24, h24, kk24, bb24, kb24, X24, e24, E24, hS24, hk24, hZ24, hown24, Ex24, Fc24, Fv24, V24, -, -, hC24, -, -, st24⟩ := ldcCH (vm0 := T2.vm) X11 hx hZ hown (hw _ (List.mem_of_getElem? (i := 60) rfl)) hstr rfl hS2 (Nat.le_trans (Nat.le_trans hk2 E3.1) K11.1) hEL (List.mem_of_getElem? (i := 2) rfl) CHc25 (vs := [(.int (114 : Int32)), (.int (111 : Int32)), (.int (108 : Int32)), (.int (101 : Int32)), (.int (47 : Int32))]) (z := (5 : Int32)) ⟨by decide, rfl⟩ (by decide) rfl (g := (mkF m 11 #[.val (.ref a0_), .val (.ref a1_), .val (.ref a2_)] [(.ref b3), (.ref a1_), (.ref b2), (.ref a0_)])) rfl (hb hby own_d8_11) (n := 20) (by decide) (by decide) (by decide) (by decide)
  have hZ := hZ24
  have hown := hown24
  have CRl24 := CRc25.trans hC24
  have CHl24 := CRl24.1
  have Sf24_b3 := hC24.safe ((own_sbo P11).1.lt) Sfc25_b3
  have Sf24_rb11 := hC24.safe ((own_sbo P11).2.2.2.2.1.lt) Sfc25_rb11
  have F27 := ((own_sbo P11).1.ext E24)
  have F28 := ((own_sbo P11).2.1.ext E24)
  have F29 := ((own_sbo P11).2.2.1.ext E24)
  have F30 := ((own_sbo P11).2.2.2.1.ext E24)
  have F31 := ((own_sbo P11).2.2.2.2.1.ext E24)
  have F32 := ((own_sbo P11).2.2.2.2.2.1.ext E24)
  have P33 : own_sb Z h24 b3 rb11 kb11 (16 : Int32) (0 : Int32) ([] : List Value) := ⟨F27, F28, F29, F30, F31, F32, (own_sbo P11).2.2.2.2.2.2⟩
  have tl_0 : (0 : Int32).toInt = 0 := rfl
  have tl_5 : (5 : Int32).toInt = 5 := rfl
  have K34 : Keep h0 h24 [] := ((K12.trans K11 (allS (P := fun x => x ∈ ([] : List Addr) ∨ h0.size ≤ x) (Or.inr sz_b3) all0)).ext E24)
  have O35 : Old Z n0 h24 := ((O13.keep K11 (allS ge_b3 all0)).ext E24)
  obtain ⟨cq26, kq26, q26a, q26b, q26c⟩ := isOf hZ e24 F27
  obtain ⟨_, _, ⟨T26, L26, kk26, n26⟩, -, X26, ⟨Lc26, hQ26, l26, y26, z26⟩, st26⟩ := X24.virtualBack hx (y := (⟨"java/lang/StringBuilder", "append", "(Ljava/lang/String;)Ljava/lang/StringBuilder;"⟩ : MethodName)) (z := (⟨"java/lang/StringBuilder", "append", "(Ljava/lang/String;)Ljava/lang/StringBuilder;"⟩ : MethodName)) hown (mvT hZ (hw _ (List.mem_of_getElem? (i := 61) rfl))) (mvT hZ (hw _ (List.mem_of_getElem? (i := 62) rfl))) (notFace_of_selects (args := #[]) (mvT hZ (hw _ (List.mem_of_getElem? (i := 64) rfl)))) (mvT hZ (hw _ (List.mem_of_getElem? (i := 64) rfl))) (mvT hZ (hw _ (List.mem_of_getElem? (i := 63) rfl))) (by decide) (backOf (W := 3) (rmS1 l Z a0 hw [] b3 b24 rb11 kb11 (0 : Int32) ([] : List Value) bb24 kb24 (5 : Int32) [(.int (114 : Int32)), (.int (111 : Int32)), (.int (108 : Int32)), (.int (101 : Int32)), (.int (47 : Int32))] cs (5 : Int32) h24 n0 (Nat.le_trans Z0 K34.1) P33 Ex24 Fc24 Fv24 V24 (by decide) SC hcs O35 (by omega) (by omega) (by decide) (by omega) ge_b3 ge_rb11) hZ (hw _ (List.mem_of_getElem? (i := 65) rfl)) (hw _ (List.mem_of_getElem? (i := 44) rfl)) (by decide) (by decide)) q26a q26c (g := (mkF m 13 #[.val (.ref a0_), .val (.ref a1_), .val (.ref a2_)] [(.ref b24), (.ref b3), (.ref a1_), (.ref b2), (.ref a0_)])) rfl (by rw [hml]; rfl) (Steps.refl _) (argsL := [(.ref b24)]) (rest := [(.ref a1_), (.ref b2), (.ref a0_)]) (lenOf own_pd22 rfl) rfl (by show 2 * 0 + _ ≤ _; exact Nat.le_of_eq rfl) (hb hby own_d8_13) (fun _ _ => ⟨rfl, e24, (by decide : 6 + 0 ≤ _), (by decide : 60 + 0 ≤ _)⟩)
  dsimp only [Pt.U, Pt.locs, Pt.cells, Pt.slots] at X26 l26 y26 z26 st26 hQ26
  subst l26 y26 z26
  obtain ⟨rfl, N26q, K26, P26⟩ := hQ26
  have N26 := Fr.app N11 N26q
  have P37 : own_sb Z T26.heap b3 rb11 kb11 (16 : Int32) (5 : Int32) (([] : List Value) ++ [(.int (114 : Int32)), (.int (111 : Int32)), (.int (108 : Int32)), (.int (101 : Int32)), (.int (47 : Int32))]) := ⟨(own_sbo P26).1, (own_sbo P26).2.1, (own_sbo P26).2.2.1, (own_sbo P26).2.2.2.1, (own_sbo P26).2.2.2.2.1, (own_sbo P26).2.2.2.2.2.1, (own_sbo P26).2.2.2.2.2.2⟩
  have F38 := (((F18.keep K11).ext E24).keep K26)
  have F39 := (((Fcs2.ext E2).ext E3).keep K11 (ninS ne_a2__b3 nin0))
  have F40 := ((F39.ext E24).keep K26 (ninS ne_a2__b3 (ninS ne_a2__rb11 nin0)))
  have F41 := (((Fvs2.ext E2).ext E3).keep K11 (ninS ne_a2__b3 nin0))
  have F42 := ((F41.ext E24).keep K26 (ninS ne_a2__b3 (ninS ne_a2__rb11 nin0)))
  have F43 := (((F19.keep K11 (ninS ne_b2__b3 nin0)).ext E24).keep K26 (ninS ne_b2__b3 (ninS ne_b2__rb11 nin0)))
  obtain ⟨cn44, hcn44⟩ : ∃ y, (5 : Int32) + z2 = y := ⟨_, rfl⟩
  have tcn44 := own_fit (c := (5 : Int32)) (y := z2) (by omega) (by omega) (by omega) hcn44
  have K45 : Keep h0 T26.heap [] := (K34.trans K26 (allS (P := fun x => x ∈ ([] : List Addr) ∨ h0.size ≤ x) (Or.inr sz_b3) (allS (P := fun x => x ∈ ([] : List Addr) ∨ h0.size ≤ x) (Or.inr sz_rb11) all0)))
  have O46 : Old Z n0 T26.heap := (O35.keep K26 (allS ge_b3 (allS ge_rb11 all0)))
  obtain ⟨cq36, kq36, q36a, q36b, q36c⟩ := isOf hZ rfl (own_sbo P26).1
  obtain ⟨_, _, ⟨T36, L36, kk36, n36⟩, -, X36, ⟨Lc36, hQ36, l36, y36, z36⟩, st36⟩ := X26.virtualBack hx (y := (⟨"java/lang/StringBuilder", "append", "(Ljava/lang/String;)Ljava/lang/StringBuilder;"⟩ : MethodName)) (z := (⟨"java/lang/StringBuilder", "append", "(Ljava/lang/String;)Ljava/lang/StringBuilder;"⟩ : MethodName)) hown (mvT hZ (hw _ (List.mem_of_getElem? (i := 61) rfl))) (mvT hZ (hw _ (List.mem_of_getElem? (i := 62) rfl))) (notFace_of_selects (args := #[]) (mvT hZ (hw _ (List.mem_of_getElem? (i := 64) rfl)))) (mvT hZ (hw _ (List.mem_of_getElem? (i := 64) rfl))) (mvT hZ (hw _ (List.mem_of_getElem? (i := 63) rfl))) (by decide) (backOf (W := 3) (rmS1 l Z a0 hw [] b3 a2_ rb11 kb11 (5 : Int32) (([] : List Value) ++ [(.int (114 : Int32)), (.int (111 : Int32)), (.int (108 : Int32)), (.int (101 : Int32)), (.int (47 : Int32))]) b2_ k2_ z2 v2 cs cn44 T26.heap n0 (Nat.le_trans Z0 K45.1) P37 F38 F40 F42 F43 hl2 SC hcs O46 (by omega) (by omega) hcn44 (by omega) ge_b3 ge_rb11) hZ (hw _ (List.mem_of_getElem? (i := 65) rfl)) (hw _ (List.mem_of_getElem? (i := 44) rfl)) (by decide) (by decide)) q36a q36c (g := (mkF m 17 #[.val (.ref a0_), .val (.ref a1_), .val (.ref a2_)] [(.ref a2_), (.ref b3), (.ref a1_), (.ref b2), (.ref a0_)])) rfl (by rw [hml]; rfl) (Steps.refl _) (argsL := [(.ref a2_)]) (rest := [(.ref a1_), (.ref b2), (.ref a0_)]) (lenOf own_pd22 rfl) rfl (by show 2 * 0 + _ ≤ _; exact Nat.le_of_eq rfl) (hb hby own_d8_17) (fun _ _ => ⟨rfl, rfl, (by decide : 6 + 0 ≤ _), (by decide : 60 + 0 ≤ _)⟩)
  dsimp only [Pt.U, Pt.locs, Pt.cells, Pt.slots] at X36 l36 y36 z36 st36 hQ36
  subst l36 y36 z36
  obtain ⟨rfl, N36q, K36, P36⟩ := hQ36
  have N36 := Fr.app N26 N36q
  have tl_16 : (16 : Int32).toInt = 16 := rfl
  have tl_3 : (3 : Int32).toInt = 3 := rfl
  have hcr47 := own_crp (c := cn44) (z := (16 : Int32)) (by omega) (by omega) (by omega)
  have P49 : own_sb Z T36.heap b3 rb11 kb11 (16 : Int32) cn44 ((([] : List Value) ++ [(.int (114 : Int32)), (.int (111 : Int32)), (.int (108 : Int32)), (.int (101 : Int32)), (.int (47 : Int32))]) ++ v2) := ⟨(own_sbo P36).1, (own_sbo P36).2.1, (own_sbo P36).2.2.1, (own_sbo P36).2.2.2.1, (own_sbo P36).2.2.2.2.1, (own_sbo P36).2.2.2.2.2.1, (own_sbo P36).2.2.2.2.2.2⟩
  have K50 : Keep h0 T36.heap [] := (K45.trans K36 (allS (P := fun x => x ∈ ([] : List Addr) ∨ h0.size ≤ x) (Or.inr sz_b3) (allS (P := fun x => x ∈ ([] : List Addr) ∨ h0.size ≤ x) (Or.inr sz_rb11) all0)))
  have O51 : Old Z n0 T36.heap := (O46.keep K36 (allS ge_b3 (allS ge_rb11 all0)))
  obtain ⟨cq48, kq48, q48a, q48b, q48c⟩ := isOf hZ rfl (own_sbo P36).1
  obtain ⟨_, _, ⟨T48, L48, kk48, n48⟩, -, X48, ⟨Lc48, hQ48, l48, y48, z48⟩, st48⟩ := X36.virtualBack hx (y := (⟨"java/lang/StringBuilder", "toString", "()Ljava/lang/String;"⟩ : MethodName)) (z := (⟨"java/lang/StringBuilder", "toString", "()Ljava/lang/String;"⟩ : MethodName)) hown (mvT hZ (hw _ (List.mem_of_getElem? (i := 108) rfl))) (mvT hZ (hw _ (List.mem_of_getElem? (i := 109) rfl))) (notFace_of_selects (args := #[]) (mvT hZ (hw _ (List.mem_of_getElem? (i := 111) rfl)))) (mvT hZ (hw _ (List.mem_of_getElem? (i := 111) rfl))) (mvT hZ (hw _ (List.mem_of_getElem? (i := 110) rfl))) (by decide) (backOf (W := 3) (rmT1 l Z a0 hw [] b3 rb11 kb11 (16 : Int32) cn44 ((([] : List Value) ++ [(.int (114 : Int32)), (.int (111 : Int32)), (.int (108 : Int32)), (.int (101 : Int32)), (.int (47 : Int32))]) ++ v2) cs T36.heap n0 (Nat.le_trans Z0 K50.1) P49  hcr47.1 hcr47.2.1 hcr47.2.2.1 hcr47.2.2.2.1 hcr47.2.2.2.2 SC hcs O51) hZ (hw _ (List.mem_of_getElem? (i := 112) rfl)) (hw _ (List.mem_of_getElem? (i := 44) rfl)) (by decide) (by decide)) q48a q48c (g := (mkF m 20 #[.val (.ref a0_), .val (.ref a1_), .val (.ref a2_)] [(.ref b3), (.ref a1_), (.ref b2), (.ref a0_)])) rfl (by rw [hml]; rfl) (Steps.refl _) (argsL := []) (rest := [(.ref a1_), (.ref b2), (.ref a0_)]) (lenOf own_pd3 rfl) rfl (by show 2 * 0 + _ ≤ _; exact Nat.le_of_eq rfl) (hb hby own_d8_20) (fun _ _ => ⟨rfl, rfl, (by decide : 6 + 2 ≤ _), (by decide : 60 + 38 ≤ _)⟩)
  dsimp only [Pt.U, Pt.locs, Pt.cells, Pt.slots] at X48 l48 y48 z48 st48 hQ48
  subst l48 y48 z48
  obtain ⟨r48, rb48, kb48, rfl, N48q, K48, E48, Fc48, Fv48, V48⟩ := hQ48
  have N48 := Fr.app N36 N48q
  have k52 : own_To p e below T48 (mkF m 23 #[.val (.ref a0_), .val (.ref a1_), .val (.ref a2_)] [(.ref r48), (.ref a1_), (.ref b2), (.ref a0_)]) s₁ (mkF m 0 #[.val (.ref a0_), .val (.ref a1_), .val (.ref a2_)] []) := fun t q => k23 t (by
    refine st24 _ ?_
    show Steps p.tables e below (T24.setTop (mkF m 13 #[.val (.ref a0_), .val (.ref a1_), .val (.ref a2_)] [(.ref b24), (.ref b3), (.ref a1_), (.ref b2), (.ref a0_)])) _
    refine st26.trans ?_
    show Steps p.tables e below (T26.setTop (mkF m 16 #[.val (.ref a0_), .val (.ref a1_), .val (.ref a2_)] [(.ref b3), (.ref a1_), (.ref b2), (.ref a0_)])) _
    refine XS.aloadN X26.here hx rfl (hb hby own_d8_16) rfl rfl ?_
    show Steps p.tables e below (T26.setTop (mkF m 17 #[.val (.ref a0_), .val (.ref a1_), .val (.ref a2_)] [(.ref a2_), (.ref b3), (.ref a1_), (.ref b2), (.ref a0_)])) _
    refine st36.trans ?_
    show Steps p.tables e below (T36.setTop (mkF m 20 #[.val (.ref a0_), .val (.ref a1_), .val (.ref a2_)] [(.ref b3), (.ref a1_), (.ref b2), (.ref a0_)])) _
    refine st48.trans ?_
    show Steps p.tables e below (T48.setTop (mkF m 23 #[.val (.ref a0_), .val (.ref a1_), .val (.ref a2_)] [(.ref r48), (.ref a1_), (.ref b2), (.ref a0_)])) _
    exact q)
  have CRc54 := CRl24.trans (CHr.keep K26 (sfS Sf24_b3 (sfS Sf24_rb11 sf0)) CHl24)
  have Sfc54_b3 := Safe.keep K26 (sfS Sf24_b3 (sfS Sf24_rb11 sf0)) CHl24 Sf24_b3
  have Sfc54_rb11 := Safe.keep K26 (sfS Sf24_b3 (sfS Sf24_rb11 sf0)) CHl24 Sf24_rb11
  have CHc54 := CRc54.1
  have CRc55 := CRc54.trans (CHr.keep K36 (sfS Sfc54_b3 (sfS Sfc54_rb11 sf0)) CHc54)
  have Sfc55_b3 := Safe.keep K36 (sfS Sfc54_b3 (sfS Sfc54_rb11 sf0)) CHc54 Sfc54_b3
  have Sfc55_rb11 := Safe.keep K36 (sfS Sfc54_b3 (sfS Sfc54_rb11 sf0)) CHc54 Sfc54_rb11
  have CHc55 := CRc55.1
  have CRc56 := CRc55.trans (CHr.keep K48 sf0 CHc55)
  have Sfc56_b3 := Safe.keep K48 sf0 CHc55 Sfc55_b3
  have Sfc56_rb11 := Safe.keep K48 sf0 CHc55 Sfc55_rb11
  have CHc56 := CRc56.1
  have F57 := (((F14.keep K11).ext E24).keep K26)
  have F58 := ((F57.keep K36).keep K48)
  have F59 := (((Fcs0.ext E2).ext E3).keep K11 (ninS ne_a0__b3 nin0))
  have F60 := (((F59.ext E24).keep K26 (ninS ne_a0__b3 (ninS ne_a0__rb11 nin0))).keep K36 (ninS ne_a0__b3 (ninS ne_a0__rb11 nin0)))
  have F61 := (F60.keep K48 nin0)
  have F62 := (((Fvs0.ext E2).ext E3).keep K11 (ninS ne_a0__b3 nin0))
  have F63 := (((F62.ext E24).keep K26 (ninS ne_a0__b3 (ninS ne_a0__rb11 nin0))).keep K36 (ninS ne_a0__b3 (ninS ne_a0__rb11 nin0)))
  have F64 := (F63.keep K48 nin0)
  have F65 := (((F15.keep K11 (ninS ne_b0__b3 nin0)).ext E24).keep K26 (ninS ne_b0__b3 (ninS ne_b0__rb11 nin0)))
  have F66 := ((F65.keep K36 (ninS ne_b0__b3 (ninS ne_b0__rb11 nin0))).keep K48 nin0)
  have F67 := (((F20.keep K11).ext E24).keep K26)
  have F68 := ((F67.keep K36).keep K48)
  have F69 := (((Fc2.ext E3).keep K11 (ninS ne_b2_b3 nin0)).ext E24)
  have F70 := (((F69.keep K26 (ninS ne_b2_b3 (ninS ne_b2_rb11 nin0))).keep K36 (ninS ne_b2_b3 (ninS ne_b2_rb11 nin0))).keep K48 nin0)
  have F71 := (((Fv2.ext E3).keep K11 (ninS ne_b2_b3 nin0)).ext E24)
  have F72 := (((F71.keep K26 (ninS ne_b2_b3 (ninS ne_b2_rb11 nin0))).keep K36 (ninS ne_b2_b3 (ninS ne_b2_rb11 nin0))).keep K48 nin0)
  have F73 := (((F21.keep K11 (ninS ne_bb2_b3 nin0)).ext E24).keep K26 (ninS ne_bb2_b3 (ninS ne_bb2_rb11 nin0)))
  have F74 := ((F73.keep K36 (ninS ne_bb2_b3 (ninS ne_bb2_rb11 nin0))).keep K48 nin0)
  have F75 := (((F16.keep K11).ext E24).keep K26)
  have F76 := ((F75.keep K36).keep K48)
  have F77 := (((Fcs1.ext E2).ext E3).keep K11 (ninS ne_a1__b3 nin0))
  have F78 := (((F77.ext E24).keep K26 (ninS ne_a1__b3 (ninS ne_a1__rb11 nin0))).keep K36 (ninS ne_a1__b3 (ninS ne_a1__rb11 nin0)))
  have F79 := (F78.keep K48 nin0)
  have F80 := (((Fvs1.ext E2).ext E3).keep K11 (ninS ne_a1__b3 nin0))
  have F81 := (((F80.ext E24).keep K26 (ninS ne_a1__b3 (ninS ne_a1__rb11 nin0))).keep K36 (ninS ne_a1__b3 (ninS ne_a1__rb11 nin0)))
  have F82 := (F81.keep K48 nin0)
  have F83 := (((F17.keep K11 (ninS ne_b1__b3 nin0)).ext E24).keep K26 (ninS ne_b1__b3 (ninS ne_b1__rb11 nin0)))
  have F84 := ((F83.keep K36 (ninS ne_b1__b3 (ninS ne_b1__rb11 nin0))).keep K48 nin0)
  have K85 : Keep h0 T48.heap [] := (K50.trans K48 all0)
  have O86 : Old Z n0 T48.heap := (O51.keep K48 all0)
  obtain ⟨_, _, ⟨T53, L53, kk53, n53⟩, -, X53, hSs53, hgr53, ⟨Lc53, hQ53, l53, y53, z53, hC53⟩, st53⟩ := callSS X48 hx (y := (⟨"com/example/issuer/issuer/identity/Caller", "arn", "(Ljava/lang/String;Ljava/lang/String;Ljava/lang/String;Ljava/lang/String;)Ljava/lang/String;"⟩ : MethodName)) hown (mvT hZ (hw _ (List.mem_of_getElem? (i := 153) rfl))) (mvT hZ (hw _ (List.mem_of_getElem? (i := 154) rfl))) (mvT hZ (hw _ (List.mem_of_getElem? (i := 39) rfl))) (mvT hZ (hw _ (List.mem_of_getElem? (i := 155) rfl))) (by decide) (backOfSH (s := s) (vm0 := T24.vm) (W := 0) (rm30 l Z a0 hw [] a0_ b2 a1_ r48 b0_ k0_ z0 v0 bb2 kb2 (3 : Int32) [(.int (105 : Int32)), (.int (97 : Int32)), (.int (109 : Int32))] b1_ k1_ z1 v1 rb48 kb48 cn44 ((([] : List Value) ++ [(.int (114 : Int32)), (.int (111 : Int32)), (.int (108 : Int32)), (.int (101 : Int32)), (.int (47 : Int32))]) ++ v2) cs T48.heap n0 (Nat.le_trans Z0 K85.1) F58 F61 F64 F66 hl0 F68 F70 F72 F74 (by decide) F76 F79 F82 F84 hl1 E48 Fc48 Fv48 V48 (own_sbo P36).2.2.2.2.2.2 SC hcs O86 hz0 rfl hz1 ⟨by omega, by omega⟩ hEL) hZ (hw _ (List.mem_of_getElem? (i := 155) rfl)) (hw _ (List.mem_of_getElem? (i := 39) rfl)) (by decide) (by decide) hEL CHc56) (g := (mkF m 23 #[.val (.ref a0_), .val (.ref a1_), .val (.ref a2_)] [(.ref r48), (.ref a1_), (.ref b2), (.ref a0_)])) rfl (by rw [hml]; rfl) (argsL := [(.ref a0_), (.ref b2), (.ref a1_), (.ref r48)]) (rest := []) (lenOf own_pd26 rfl) rfl (by show 2 * 0 + _ ≤ _; exact Nat.le_of_eq rfl) (hb hby own_d8_23) (fun _ _ => ⟨rfl, rfl, (by decide : 8 + 13 ≤ _), (by decide : 98 + 140 ≤ _)⟩)
  dsimp only [Pt.U, Pt.locs, Pt.cells, Pt.slots] at X53 l53 y53 z53 st53 hQ53 hSs53 hgr53 hC53
  subst l53 y53 z53
  have X53 := own_again X53
  have hSn53 := foldS hS24 (by exact (Nat.le_trans (Nat.le_trans (Nat.le_trans hk24 K26.1) K36.1) K48.1)) hSs53 hgr53
  have hZn53 : Z.Warmed39 (s.setVm T53.vm).vm := State.Warmed39.trans (t := s.setVm T24.vm) hZ hSs53.1
  have hon53 : (s.setVm T53.vm).vm.findClass "com/example/issuer/issuer/identity/Caller" = some m.cls := by rw [show (s.setVm T53.vm).vm = T53.vm from rfl, hSs53.1.alike.findClass]; exact hown
  have hZ := hZn53
  have hown := hon53
  have CRl53 := CRc56.trans hC53
  have CHl53 := CRl53.1
  have Sf53_b3 := hC53.safe (((own_sbo P36).1.keep K48).lt) Sfc56_b3
  have Sf53_rb11 := hC53.safe (((own_sbo P36).2.2.2.2.1.keep K48 nin0).lt) Sfc56_rb11
  obtain ⟨r53, rb53, kb53, zz53, vv53, rfl, N53q, K53, E53, Fc53, Fv53, V53, hl53, hz53, hv53⟩ := hQ53
  have N53 := Fr.app N48 N53q
  have K87 : Keep h0 T53.heap [] := (K85.trans K53 all0)
  have k88 : own_To p e below T53 (mkF m 26 #[.val (.ref a0_), .val (.ref a1_), .val (.ref a2_)] [(.ref r53)]) s₁ (mkF m 0 #[.val (.ref a0_), .val (.ref a1_), .val (.ref a2_)] []) := fun t q => k52 t (by
    refine st53.trans ?_
    show Steps p.tables e below (T53.setTop (mkF m 26 #[.val (.ref a0_), .val (.ref a1_), .val (.ref a2_)] [(.ref r53)])) _
    exact q)
  have hCe := CRl53.trans (CHv.at (vm0 := T53.vm) X53 hZ hEL CHl53)
  obtain ⟨fs, hr, hrun, hended, hEnd⟩ := Stand.leaveW (s := s) (vm₁ := T53.vm) X53 hSn53 (by exact (Nat.le_refl _)) (v := some (.ref r53)) (fun h => by rw [Bd.returns] at h; cases h)
  refine ⟨_, _, k0 _ (k88 _ ?_), hrun, hended, _, _, rfl, ?_, ?_, hEnd.1, hEnd.2.1, hEnd.2.2.1, hEnd.2.2.2.mono (by decide) (by decide)⟩
  · show Steps p.tables e below (T53.setTop (mkF m 26 #[.val (.ref a0_), .val (.ref a1_), .val (.ref a2_)] [(.ref r53)])) _
    exact retOut X53 hx Bd.returns rfl (Or.inr (Or.inr (Or.inr (Or.inr ⟨rfl, rfl, rfl⟩)))) (hb hby own_d8_26) hr
  · show Q8 Z a0_ a1_ a2_ b0_ k0_ z0 v0 b1_ k1_ z1 v1 b2_ k2_ z2 v2 cs h0 n0 _ T53.heap _
    exact ⟨r53, rb53, kb53, zz53, vv53, rfl, N53, K87, E53, Fc53, Fv53, V53, hl53, by omega, by rw [hv53]; simp only [List.append_assoc, List.nil_append, List.cons_append]⟩
  · show CHr Z own_EL s.vm s.heap T53.vm T53.heap
    rw [hh]; exact hCe
theorem own_part {A t B r : List Value} {d : Value} {p z : Int32} (hv : r = A ++ (t ++ B)) (hA : A.length = p.toNatClampNeg) (hl : t.length = z.toNatClampNeg) : ∀ j : Nat, j < z.toNatClampNeg → r.getD (p.toNatClampNeg + j) d = t.getD j d := by
  intro j hj
  simp only [List.getD_eq_getElem?_getD]
  rw [hv, ← hA, List.getElem?_append_right (by omega), show A.length + j - A.length = j by omega, List.getElem?_append_left (by omega)]
theorem own_lenA {A : List Value} {p : Int32} (h : 0 ≤ p.toInt) (q : (A.length : Int) = p.toInt) : A.length = p.toNatClampNeg := by have := own_tn h; omega
theorem own_pd12 : parseMethodDescriptor "(I)Ljava/lang/String;" = some ⟨[.int], some (.object "java/lang/String")⟩ := by decide +kernel
theorem own_pd25 : parseMethodDescriptor "(Ljava/lang/String;Ljava/lang/String;Ljava/lang/String;)Ljava/lang/String;" = some ⟨[(.object "java/lang/String"), (.object "java/lang/String"), (.object "java/lang/String")], some (.object "java/lang/String")⟩ := by decide +kernel
theorem own_pd24 : parseMethodDescriptor "(Ljava/lang/String;ILjava/lang/String;)Z" = some ⟨[(.object "java/lang/String"), .int, (.object "java/lang/String")], some .boolean⟩ := by decide +kernel
theorem own_pn0 : plainName "com/example/issuer/issuer/identity/CallerRoleArnPinLaw" = true := by first | (simp [plainName, overriddenIn]; done) | decide +kernel
theorem own_ef0 (m : MethodId) (x0 : Int32) (x1 : Int32) (x2 : Int32) : entryFrame m #[(.int x0), (.int x1), (.int x2)] maxLocals = mkF m 0 #[.val (.int x0), .val (.int x1), .val (.int x2), .unset, .unset, .unset, .unset, .unset, .unset, .unset] [] := by first | (simp [entryFrame, mkF, argsToLocals, Value.category, maxLocals]; done) | rfl
def Q0 (Z : State) (p0 : Int32) (p1 : Int32) (p2 : Int32) (cs : Int32) (fo : Value) (h0 : Heap) (n0 : Nat) (v : Option Value) (h : Heap) (L : List Loc) : Prop := v = some (.int 1) ∧ Fr n0 L
set_option maxRecDepth 65536 in
set_option maxHeartbeats 40000000 in
theorem rm0 (l : Launch) (Z : State) (a0 : Array Value) (hw : ∀ d ∈ tables_1, d.before a0 Z = true) (ws : List Jvm.Cond) (p0 : Int32) (p1 : Int32) (p2 : Int32) (cs : Int32) (fo : Value) (h0 : Heap) (n0 : Nat) (Z0 : n0 ≤ h0.size) (SC : Sta Z Z.heap "java/lang/String" "COMPACT_STRINGS" "Z" (.int cs)) (hcs : ¬ cs = (0 : Int32)) (O0 : Old Z n0 h0) (SF : Sta Z Z.heap "jdk/internal/util/Preconditions" "SIOOBE_FORMATTER" "Ljava/util/function/BiFunction;" fo) (hfo : fo = .null ∨ ∃ f, fo = .ref f) (hEL : EW Z a0 own_EL) :
    MetFree l x (head1 (Jvm.Cond.code x code maxLocals ret :: ws) room_1) (fun a U => a = #[(.int p0), (.int p1), (.int p2)] ∧ Z.Warmed39 U.vm ∧ U.heap = h0 ∧ CHv Z own_EL U.vm h0) (fun _ _ _ _ _ => True) (fun _ U o U' => ∃ v L, o = .returned v ∧ Q0 Z p0 p1 p2 cs fo h0 n0 v U'.heap L ∧ CHr Z own_EL U.vm U.heap U'.vm U'.heap ∧ ReturnedEndW U o U' L 64 9600) := by
  refine MetFree.of_bodySF (plainFor_of_name own_pn0) hisR ?_
  intro p e s m args below meth c s₁ Bd hml0 hP hK
  obtain ⟨rfl, hZ, hh, hCH⟩ := hP
  have hx := Bd.exec
  have hby := Bd.bytes
  have hml : c.maxLocals = 10 := hml0
  have hown : s.vm.findClass "com/example/issuer/issuer/identity/CallerRoleArnPinLaw" = some m.cls := findClass_of_methodNamed Bd.named
  have hnm := (name_of_methodNamed Bd.named Bd.method).1
  have X0 : Stand p l e room_1 s m #[(.int p0), (.int p1), (.int p2)] below meth c s₁ [] 0 0 := Stand.of_body Bd
  have e0 : s₁.heap = h0 := by rw [← hh, Bd.state]; rfl
  have N0 := Fr.nil n0
  have k0 : own_To p e below s₁ (mkF m 0 #[.val (.int p0), .val (.int p1), .val (.int p2), .unset, .unset, .unset, .unset, .unset, .unset, .unset] []) s₁ (entryFrame m #[(.int p0), (.int p1), (.int p2)] maxLocals) := fun t k => castTop (own_ef0 m p0 p1 p2) k
  have ki : own_To p e below s₁ (mkF m 0 #[.val (.int p0), .val (.int p1), .val (.int p2), .unset, .unset, .unset, .unset, .unset, .unset, .unset] []) s₁ (mkF m 0 #[.val (.int p0), .val (.int p1), .val (.int p2), .unset, .unset, .unset, .unset, .unset, .unset, .unset] []) := fun t q => q
  have hstr : ∀ a ∈ Bundle.stringAtoms, a.before a0 Z = true := fun d hd => hw d ((by decide +kernel : ∀ d ∈ Bundle.stringAtoms, d ∈ tables_1) d hd)
  have X0 := own_base X0
  have CR0 := CHr.refl hCH
  have k1 : own_To p e below s₁ (mkF m 1 #[.val (.int p0), .val (.int p1), .val (.int p2), .unset, .unset, .unset, .unset, .unset, .unset, .unset] [(.int p0)]) s₁ (mkF m 0 #[.val (.int p0), .val (.int p1), .val (.int p2), .unset, .unset, .unset, .unset, .unset, .unset, .unset] []) := fun t q => ki t (by
    refine XS.iloadN X0.here hx rfl (hb hby at_0) rfl ?_
    show Steps p.tables e below (s₁.setTop (mkF m 1 #[.val (.int p0), .val (.int p1), .val (.int p2), .unset, .unset, .unset, .unset, .unset, .unset, .unset] [(.int p0)])) _
    exact q)
  obtain ⟨_, _, ⟨T2, L2, kk2, n2⟩, -, X2, hSs2, hgr2, ⟨Lc2, hQ2, l2, y2, z2, hC2⟩, st2⟩ := callSS X0 hx (y := (⟨"com/example/issuer/issuer/identity/CallerRoleArnPinLaw", "mk", "(I)Ljava/lang/String;"⟩ : MethodName)) hown (mvT hZ (hw _ (List.mem_of_getElem? (i := 0) rfl))) (mvT hZ (hw _ (List.mem_of_getElem? (i := 1) rfl))) (mvT hZ (hw _ (List.mem_of_getElem? (i := 2) rfl))) (mvT hZ (hw _ (List.mem_of_getElem? (i := 3) rfl))) (by decide) (backOfSH (s := s) (vm0 := s.vm) (W := 0) (rm1 l Z a0 hw [] p0 cs h0 n0 Z0 SC hcs O0 hEL) hZ (hw _ (List.mem_of_getElem? (i := 3) rfl)) (hw _ (List.mem_of_getElem? (i := 2) rfl)) (by decide) (by decide) hEL hCH) (g := (mkF m 1 #[.val (.int p0), .val (.int p1), .val (.int p2), .unset, .unset, .unset, .unset, .unset, .unset, .unset] [(.int p0)])) rfl (by rw [hml]; rfl) (argsL := [(.int p0)]) (rest := []) (lenOf own_pd12 rfl) rfl (by show 2 * 0 + _ ≤ _; exact Nat.le_of_eq rfl) (hb hby at_1) (fun _ _ => ⟨rfl, e0, (by decide : 0 + 6 ≤ _), (by decide : 0 + 12 ≤ _)⟩)
  dsimp only [Pt.U, Pt.locs, Pt.cells, Pt.slots] at X2 l2 y2 z2 st2 hQ2 hSs2 hgr2 hC2
  subst l2 y2 z2
  have X2 := own_again X2
  have hSn2 := foldS (State.WarmedH.since (State.WarmedH.refl s) 0) (by rw [e0]; exact (Nat.zero_le _)) hSs2 hgr2
  have hZn2 : Z.Warmed39 (s.setVm T2.vm).vm := State.Warmed39.trans (t := s.setVm s.vm) hZ hSs2.1
  have hon2 : (s.setVm T2.vm).vm.findClass "com/example/issuer/issuer/identity/CallerRoleArnPinLaw" = some m.cls := by rw [show (s.setVm T2.vm).vm = T2.vm from rfl, hSs2.1.alike.findClass]; exact hown
  have hZ := hZn2
  have hown := hon2
  have CRl2 := CR0.trans hC2
  have CHl2 := CRl2.1
  obtain ⟨r2, rb2, kb2, zz2, vv2, rfl, N2q, K2, E2, Fc2, Fv2, V2, hl2, hz2⟩ := hQ2
  have N2 := Fr.app N0 N2q
  have k3 : own_To p e below T2 (mkF m 6 #[.val (.int p0), .val (.int p1), .val (.int p2), .val (.ref r2), .unset, .unset, .unset, .unset, .unset, .unset] [(.int p1)]) s₁ (mkF m 0 #[.val (.int p0), .val (.int p1), .val (.int p2), .unset, .unset, .unset, .unset, .unset, .unset, .unset] []) := fun t q => k1 t (by
    refine st2.trans ?_
    show Steps p.tables e below (T2.setTop (mkF m 4 #[.val (.int p0), .val (.int p1), .val (.int p2), .unset, .unset, .unset, .unset, .unset, .unset, .unset] [(.ref r2)])) _
    refine XS.astoreN X2.here hx rfl (hb hby at_4) rfl rfl (l' := #[.val (.int p0), .val (.int p1), .val (.int p2), .val (.ref r2), .unset, .unset, .unset, .unset, .unset, .unset]) rfl ?_
    show Steps p.tables e below (T2.setTop (mkF m 5 #[.val (.int p0), .val (.int p1), .val (.int p2), .val (.ref r2), .unset, .unset, .unset, .unset, .unset, .unset] [])) _
    refine XS.iloadN X2.here hx rfl (hb hby at_5) rfl ?_
    show Steps p.tables e below (T2.setTop (mkF m 6 #[.val (.int p0), .val (.int p1), .val (.int p2), .val (.ref r2), .unset, .unset, .unset, .unset, .unset, .unset] [(.int p1)])) _
    exact q)
  have K5 : Keep h0 T2.heap [] := ((Keep.refl h0 []).trans K2 all0)
  have O6 : Old Z n0 T2.heap := (O0.keep K2 all0)
  obtain ⟨_, _, ⟨T4, L4, kk4, n4⟩, -, X4, hSs4, hgr4, ⟨Lc4, hQ4, l4, y4, z4, hC4⟩, st4⟩ := callSS X2 hx (y := (⟨"com/example/issuer/issuer/identity/CallerRoleArnPinLaw", "mk", "(I)Ljava/lang/String;"⟩ : MethodName)) hown (mvT hZ (hw _ (List.mem_of_getElem? (i := 0) rfl))) (mvT hZ (hw _ (List.mem_of_getElem? (i := 1) rfl))) (mvT hZ (hw _ (List.mem_of_getElem? (i := 2) rfl))) (mvT hZ (hw _ (List.mem_of_getElem? (i := 3) rfl))) (by decide) (backOfSH (s := s) (vm0 := T2.vm) (W := 0) (rm1 l Z a0 hw [] p1 cs T2.heap n0 (Nat.le_trans Z0 K5.1) SC hcs O6 hEL) hZ (hw _ (List.mem_of_getElem? (i := 3) rfl)) (hw _ (List.mem_of_getElem? (i := 2) rfl)) (by decide) (by decide) hEL CHl2) (g := (mkF m 6 #[.val (.int p0), .val (.int p1), .val (.int p2), .val (.ref r2), .unset, .unset, .unset, .unset, .unset, .unset] [(.int p1)])) rfl (by rw [hml]; rfl) (argsL := [(.int p1)]) (rest := []) (lenOf own_pd12 rfl) rfl (by show 2 * 0 + _ ≤ _; exact Nat.le_of_eq rfl) (hb hby at_6) (fun _ _ => ⟨rfl, rfl, (by decide : 6 + 6 ≤ _), (by decide : 12 + 12 ≤ _)⟩)
  dsimp only [Pt.U, Pt.locs, Pt.cells, Pt.slots] at X4 l4 y4 z4 st4 hQ4 hSs4 hgr4 hC4
  subst l4 y4 z4
  have X4 := own_again X4
  have hSn4 := foldS hSn2 (by exact (Nat.le_refl _)) hSs4 hgr4
  have hZn4 : Z.Warmed39 (s.setVm T4.vm).vm := State.Warmed39.trans (t := s.setVm T2.vm) hZ hSs4.1
  have hon4 : (s.setVm T4.vm).vm.findClass "com/example/issuer/issuer/identity/CallerRoleArnPinLaw" = some m.cls := by rw [show (s.setVm T4.vm).vm = T4.vm from rfl, hSs4.1.alike.findClass]; exact hown
  have hZ := hZn4
  have hown := hon4
  have CRl4 := CRl2.trans hC4
  have CHl4 := CRl4.1
  obtain ⟨r4, rb4, kb4, zz4, vv4, rfl, N4q, K4, E4, Fc4, Fv4, V4, hl4, hz4⟩ := hQ4
  have N4 := Fr.app N2 N4q
  have k7 : own_To p e below T4 (mkF m 12 #[.val (.int p0), .val (.int p1), .val (.int p2), .val (.ref r2), .val (.ref r4), .unset, .unset, .unset, .unset, .unset] [(.int p2)]) s₁ (mkF m 0 #[.val (.int p0), .val (.int p1), .val (.int p2), .unset, .unset, .unset, .unset, .unset, .unset, .unset] []) := fun t q => k3 t (by
    refine st4.trans ?_
    show Steps p.tables e below (T4.setTop (mkF m 9 #[.val (.int p0), .val (.int p1), .val (.int p2), .val (.ref r2), .unset, .unset, .unset, .unset, .unset, .unset] [(.ref r4)])) _
    refine XS.astore X4.here hx rfl (hb hby at_9) rfl rfl (l' := #[.val (.int p0), .val (.int p1), .val (.int p2), .val (.ref r2), .val (.ref r4), .unset, .unset, .unset, .unset, .unset]) rfl ?_
    show Steps p.tables e below (T4.setTop (mkF m 11 #[.val (.int p0), .val (.int p1), .val (.int p2), .val (.ref r2), .val (.ref r4), .unset, .unset, .unset, .unset, .unset] [])) _
    refine XS.iloadN X4.here hx rfl (hb hby at_11) rfl ?_
    show Steps p.tables e below (T4.setTop (mkF m 12 #[.val (.int p0), .val (.int p1), .val (.int p2), .val (.ref r2), .val (.ref r4), .unset, .unset, .unset, .unset, .unset] [(.int p2)])) _
    exact q)
  have K9 : Keep h0 T4.heap [] := (K5.trans K4 all0)
  have O10 : Old Z n0 T4.heap := (O6.keep K4 all0)
  obtain ⟨_, _, ⟨T8, L8, kk8, n8⟩, -, X8, hSs8, hgr8, ⟨Lc8, hQ8, l8, y8, z8, hC8⟩, st8⟩ := callSS X4 hx (y := (⟨"com/example/issuer/issuer/identity/CallerRoleArnPinLaw", "mk", "(I)Ljava/lang/String;"⟩ : MethodName)) hown (mvT hZ (hw _ (List.mem_of_getElem? (i := 0) rfl))) (mvT hZ (hw _ (List.mem_of_getElem? (i := 1) rfl))) (mvT hZ (hw _ (List.mem_of_getElem? (i := 2) rfl))) (mvT hZ (hw _ (List.mem_of_getElem? (i := 3) rfl))) (by decide) (backOfSH (s := s) (vm0 := T4.vm) (W := 0) (rm1 l Z a0 hw [] p2 cs T4.heap n0 (Nat.le_trans Z0 K9.1) SC hcs O10 hEL) hZ (hw _ (List.mem_of_getElem? (i := 3) rfl)) (hw _ (List.mem_of_getElem? (i := 2) rfl)) (by decide) (by decide) hEL CHl4) (g := (mkF m 12 #[.val (.int p0), .val (.int p1), .val (.int p2), .val (.ref r2), .val (.ref r4), .unset, .unset, .unset, .unset, .unset] [(.int p2)])) rfl (by rw [hml]; rfl) (argsL := [(.int p2)]) (rest := []) (lenOf own_pd12 rfl) rfl (by show 2 * 0 + _ ≤ _; exact Nat.le_of_eq rfl) (hb hby at_12) (fun _ _ => ⟨rfl, rfl, (by decide : 12 + 6 ≤ _), (by decide : 24 + 12 ≤ _)⟩)
  dsimp only [Pt.U, Pt.locs, Pt.cells, Pt.slots] at X8 l8 y8 z8 st8 hQ8 hSs8 hgr8 hC8
  subst l8 y8 z8
  have X8 := own_again X8
  have hSn8 := foldS hSn4 (by exact (Nat.le_refl _)) hSs8 hgr8
  have hZn8 : Z.Warmed39 (s.setVm T8.vm).vm := State.Warmed39.trans (t := s.setVm T4.vm) hZ hSs8.1
  have hon8 : (s.setVm T8.vm).vm.findClass "com/example/issuer/issuer/identity/CallerRoleArnPinLaw" = some m.cls := by rw [show (s.setVm T8.vm).vm = T8.vm from rfl, hSs8.1.alike.findClass]; exact hown
  have hZ := hZn8
  have hown := hon8
  have CRl8 := CRl4.trans hC8
  have CHl8 := CRl8.1
  obtain ⟨r8, rb8, kb8, zz8, vv8, rfl, N8q, K8, E8, Fc8, Fv8, V8, hl8, hz8⟩ := hQ8
  have N8 := Fr.app N4 N8q
  have k11 : own_To p e below T8 (mkF m 22 #[.val (.int p0), .val (.int p1), .val (.int p2), .val (.ref r2), .val (.ref r4), .val (.ref r8), .unset, .unset, .unset, .unset] [(.ref r8), (.ref r4), (.ref r2)]) s₁ (mkF m 0 #[.val (.int p0), .val (.int p1), .val (.int p2), .unset, .unset, .unset, .unset, .unset, .unset, .unset] []) := fun t q => k7 t (by
    refine st8.trans ?_
    show Steps p.tables e below (T8.setTop (mkF m 15 #[.val (.int p0), .val (.int p1), .val (.int p2), .val (.ref r2), .val (.ref r4), .unset, .unset, .unset, .unset, .unset] [(.ref r8)])) _
    refine XS.astore X8.here hx rfl (hb hby at_15) rfl rfl (l' := #[.val (.int p0), .val (.int p1), .val (.int p2), .val (.ref r2), .val (.ref r4), .val (.ref r8), .unset, .unset, .unset, .unset]) rfl ?_
    show Steps p.tables e below (T8.setTop (mkF m 17 #[.val (.int p0), .val (.int p1), .val (.int p2), .val (.ref r2), .val (.ref r4), .val (.ref r8), .unset, .unset, .unset, .unset] [])) _
    refine XS.aloadN X8.here hx rfl (hb hby at_17) rfl rfl ?_
    show Steps p.tables e below (T8.setTop (mkF m 18 #[.val (.int p0), .val (.int p1), .val (.int p2), .val (.ref r2), .val (.ref r4), .val (.ref r8), .unset, .unset, .unset, .unset] [(.ref r2)])) _
    refine XS.aload X8.here hx rfl (hb hby at_18) rfl rfl ?_
    show Steps p.tables e below (T8.setTop (mkF m 20 #[.val (.int p0), .val (.int p1), .val (.int p2), .val (.ref r2), .val (.ref r4), .val (.ref r8), .unset, .unset, .unset, .unset] [(.ref r4), (.ref r2)])) _
    refine XS.aload X8.here hx rfl (hb hby at_20) rfl rfl ?_
    show Steps p.tables e below (T8.setTop (mkF m 22 #[.val (.int p0), .val (.int p1), .val (.int p2), .val (.ref r2), .val (.ref r4), .val (.ref r8), .unset, .unset, .unset, .unset] [(.ref r8), (.ref r4), (.ref r2)])) _
    exact q)
  have F13 := ((E2.keep K4).keep K8)
  have F14 := ((Fc2.keep K4 nin0).keep K8 nin0)
  have F15 := ((Fv2.keep K4 nin0).keep K8 nin0)
  have F16 := ((V2.keep K4 nin0).keep K8 nin0)
  have F17 := (E4.keep K8)
  have F18 := (Fc4.keep K8 nin0)
  have F19 := (Fv4.keep K8 nin0)
  have F20 := (V4.keep K8 nin0)
  have K21 : Keep h0 T8.heap [] := (K9.trans K8 all0)
  have O22 : Old Z n0 T8.heap := (O10.keep K8 all0)
  obtain ⟨_, _, ⟨T12, L12, kk12, n12⟩, -, X12, hSs12, hgr12, ⟨Lc12, hQ12, l12, y12, z12, hC12⟩, st12⟩ := callSS X8 hx (y := (⟨"com/example/issuer/issuer/identity/Caller", "roleArn", "(Ljava/lang/String;Ljava/lang/String;Ljava/lang/String;)Ljava/lang/String;"⟩ : MethodName)) hown (mvT hZ (hw _ (List.mem_of_getElem? (i := 37) rfl))) (mvT hZ (hw _ (List.mem_of_getElem? (i := 38) rfl))) (mvT hZ (hw _ (List.mem_of_getElem? (i := 39) rfl))) (mvT hZ (hw _ (List.mem_of_getElem? (i := 40) rfl))) (by decide) (backOfSH (s := s) (vm0 := T8.vm) (W := 0) (rm8 l Z a0 hw [] r2 r4 r8 rb2 kb2 zz2 vv2 rb4 kb4 zz4 vv4 rb8 kb8 zz8 vv8 cs T8.heap n0 (Nat.le_trans Z0 K21.1) F13 F14 F15 F16 hl2 F17 F18 F19 F20 hl4 E8 Fc8 Fv8 V8 hl8 SC hcs O22 hz2 hz4 hz8 hEL) hZ (hw _ (List.mem_of_getElem? (i := 40) rfl)) (hw _ (List.mem_of_getElem? (i := 39) rfl)) (by decide) (by decide) hEL CHl8) (g := (mkF m 22 #[.val (.int p0), .val (.int p1), .val (.int p2), .val (.ref r2), .val (.ref r4), .val (.ref r8), .unset, .unset, .unset, .unset] [(.ref r8), (.ref r4), (.ref r2)])) rfl (by rw [hml]; rfl) (argsL := [(.ref r2), (.ref r4), (.ref r8)]) (rest := []) (lenOf own_pd25 rfl) rfl (by show 2 * 0 + _ ≤ _; exact Nat.le_of_eq rfl) (hb hby at_22) (fun _ _ => ⟨rfl, rfl, (by decide : 18 + 21 ≤ _), (by decide : 36 + 238 ≤ _)⟩)
  dsimp only [Pt.U, Pt.locs, Pt.cells, Pt.slots] at X12 l12 y12 z12 st12 hQ12 hSs12 hgr12 hC12
  subst l12 y12 z12
  have X12 := own_again X12
  have hSn12 := foldS hSn8 (by exact (Nat.le_refl _)) hSs12 hgr12
  have hZn12 : Z.Warmed39 (s.setVm T12.vm).vm := State.Warmed39.trans (t := s.setVm T8.vm) hZ hSs12.1
  have hon12 : (s.setVm T12.vm).vm.findClass "com/example/issuer/issuer/identity/CallerRoleArnPinLaw" = some m.cls := by rw [show (s.setVm T12.vm).vm = T12.vm from rfl, hSs12.1.alike.findClass]; exact hown
  have hZ := hZn12
  have hown := hon12
  have CRl12 := CRl8.trans hC12
  have CHl12 := CRl12.1
  obtain ⟨r12, rb12, kb12, zz12, vv12, rfl, N12q, K12, E12, Fc12, Fv12, V12, hl12, hz12, hv12⟩ := hQ12
  have N12 := Fr.app N8 N12q
  have tn0 := own_tn (z := zz2) (by omega)
  have tn1 := own_tn (z := zz4) (by omega)
  have tn2 := own_tn (z := zz8) (by omega)
  have hb1 := rng32 zz12
  have tl_16 : (16 : Int32).toInt = 16 := rfl
  have tl_4 : (4 : Int32).toInt = 4 := rfl
  have tl_10 : (10 : Int32).toInt = 10 := rfl
  have tl_0 : (0 : Int32).toInt = 0 := rfl
  have tl_6 : (6 : Int32).toInt = 6 := rfl
  have e16 : (((16 : Int32) + zz2) + zz4) + zz8 = zz12 := own_sum (by rw [own_add ((16 : Int32) + zz2) zz4 (by rw [own_add (16 : Int32) zz2 (by omega)]; omega), own_add (16 : Int32) zz2 (by omega)]; omega)
  have F24 := (F13.keep K12)
  have F25 := (F14.keep K12 nin0)
  have F26 := (F15.keep K12 nin0)
  have F27 := (F16.keep K12 nin0)
  have K28 : Keep h0 T12.heap [] := (K21.trans K12 all0)
  have O29 : Old Z n0 T12.heap := (O22.keep K12 all0)
  obtain ⟨cq23, kq23, q23a, q23b, q23c⟩ := isOf hZ rfl F24
  obtain ⟨_, _, ⟨T23, L23, kk23, n23⟩, -, X23, ⟨Lc23, hQ23, l23, y23, z23⟩, st23⟩ := X12.virtualBack hx (y := (⟨"java/lang/String", "length", "()I"⟩ : MethodName)) (z := (⟨"java/lang/String", "length", "()I"⟩ : MethodName)) hown (mvT hZ (hw _ (List.mem_of_getElem? (i := 176) rfl))) (mvT hZ (hw _ (List.mem_of_getElem? (i := 72) rfl))) (notFace_of_selects (args := #[]) (mvT hZ (hw _ (List.mem_of_getElem? (i := 74) rfl)))) (mvT hZ (hw _ (List.mem_of_getElem? (i := 74) rfl))) (mvT hZ (hw _ (List.mem_of_getElem? (i := 73) rfl))) (by decide) (backOf (W := 0) (rm13 l Z a0 hw [] r2 rb2 kb2 zz2 vv2 cs T12.heap n0 (Nat.le_trans Z0 K28.1) F24 F25 F26 F27 hl2 SC hcs O29) hZ (hw _ (List.mem_of_getElem? (i := 75) rfl)) (hw _ (List.mem_of_getElem? (i := 6) rfl)) (by decide) (by decide)) q23a q23c (g := (mkF m 35 #[.val (.int p0), .val (.int p1), .val (.int p2), .val (.ref r2), .val (.ref r4), .val (.ref r8), .val (.ref r12), .unset, .unset, .unset] [(.ref r2)])) rfl (by rw [hml]; rfl) (Steps.refl _) (argsL := []) (rest := []) (lenOf own_pd1 rfl) rfl (by show 2 * 0 + _ ≤ _; exact Nat.le_of_eq rfl) (hb hby at_35) (fun _ _ => ⟨rfl, rfl, (by decide : 39 + 0 ≤ _), (by decide : 274 + 0 ≤ _)⟩)
  dsimp only [Pt.U, Pt.locs, Pt.cells, Pt.slots] at X23 l23 y23 z23 st23 hQ23
  subst l23 y23 z23
  obtain ⟨rfl, N23q, e23⟩ := hQ23
  have N23 := Fr.app N12 N23q
  have F31 := (F17.keep K12)
  have F32 := (F18.keep K12 nin0)
  have F33 := (F19.keep K12 nin0)
  have F34 := (F20.keep K12 nin0)
  obtain ⟨cq30, kq30, q30a, q30b, q30c⟩ := isOf hZ e23 F31
  obtain ⟨_, _, ⟨T30, L30, kk30, n30⟩, -, X30, ⟨Lc30, hQ30, l30, y30, z30⟩, st30⟩ := X23.virtualBack hx (y := (⟨"java/lang/String", "length", "()I"⟩ : MethodName)) (z := (⟨"java/lang/String", "length", "()I"⟩ : MethodName)) hown (mvT hZ (hw _ (List.mem_of_getElem? (i := 176) rfl))) (mvT hZ (hw _ (List.mem_of_getElem? (i := 72) rfl))) (notFace_of_selects (args := #[]) (mvT hZ (hw _ (List.mem_of_getElem? (i := 74) rfl)))) (mvT hZ (hw _ (List.mem_of_getElem? (i := 74) rfl))) (mvT hZ (hw _ (List.mem_of_getElem? (i := 73) rfl))) (by decide) (backOf (W := 0) (rm13 l Z a0 hw [] r4 rb4 kb4 zz4 vv4 cs T12.heap n0 (Nat.le_trans Z0 K28.1) F31 F32 F33 F34 hl4 SC hcs O29) hZ (hw _ (List.mem_of_getElem? (i := 75) rfl)) (hw _ (List.mem_of_getElem? (i := 6) rfl)) (by decide) (by decide)) q30a q30c (g := (mkF m 42 #[.val (.int p0), .val (.int p1), .val (.int p2), .val (.ref r2), .val (.ref r4), .val (.ref r8), .val (.ref r12), .val (.int zz2), .unset, .unset] [(.ref r4)])) rfl (by rw [hml]; rfl) (Steps.refl _) (argsL := []) (rest := []) (lenOf own_pd1 rfl) rfl (by show 2 * 0 + _ ≤ _; exact Nat.le_of_eq rfl) (hb hby at_42) (fun _ _ => ⟨rfl, e23, (by decide : 39 + 0 ≤ _), (by decide : 274 + 0 ≤ _)⟩)
  dsimp only [Pt.U, Pt.locs, Pt.cells, Pt.slots] at X30 l30 y30 z30 st30 hQ30
  subst l30 y30 z30
  obtain ⟨rfl, N30q, e30⟩ := hQ30
  have N30 := Fr.app N23 N30q
  have F36 := (E8.keep K12)
  have F37 := (Fc8.keep K12 nin0)
  have F38 := (Fv8.keep K12 nin0)
  have F39 := (V8.keep K12 nin0)
  obtain ⟨cq35, kq35, q35a, q35b, q35c⟩ := isOf hZ e30 F36
  obtain ⟨_, _, ⟨T35, L35, kk35, n35⟩, -, X35, ⟨Lc35, hQ35, l35, y35, z35⟩, st35⟩ := X30.virtualBack hx (y := (⟨"java/lang/String", "length", "()I"⟩ : MethodName)) (z := (⟨"java/lang/String", "length", "()I"⟩ : MethodName)) hown (mvT hZ (hw _ (List.mem_of_getElem? (i := 176) rfl))) (mvT hZ (hw _ (List.mem_of_getElem? (i := 72) rfl))) (notFace_of_selects (args := #[]) (mvT hZ (hw _ (List.mem_of_getElem? (i := 74) rfl)))) (mvT hZ (hw _ (List.mem_of_getElem? (i := 74) rfl))) (mvT hZ (hw _ (List.mem_of_getElem? (i := 73) rfl))) (by decide) (backOf (W := 0) (rm13 l Z a0 hw [] r8 rb8 kb8 zz8 vv8 cs T12.heap n0 (Nat.le_trans Z0 K28.1) F36 F37 F38 F39 hl8 SC hcs O29) hZ (hw _ (List.mem_of_getElem? (i := 75) rfl)) (hw _ (List.mem_of_getElem? (i := 6) rfl)) (by decide) (by decide)) q35a q35c (g := (mkF m 49 #[.val (.int p0), .val (.int p1), .val (.int p2), .val (.ref r2), .val (.ref r4), .val (.ref r8), .val (.ref r12), .val (.int zz2), .val (.int zz4), .unset] [(.ref r8)])) rfl (by rw [hml]; rfl) (Steps.refl _) (argsL := []) (rest := []) (lenOf own_pd1 rfl) rfl (by show 2 * 0 + _ ≤ _; exact Nat.le_of_eq rfl) (hb hby at_49) (fun _ _ => ⟨rfl, e30, (by decide : 39 + 0 ≤ _), (by decide : 274 + 0 ≤ _)⟩)
  dsimp only [Pt.U, Pt.locs, Pt.cells, Pt.slots] at X35 l35 y35 z35 st35 hQ35
  subst l35 y35 z35
  obtain ⟨rfl, N35q, e35⟩ := hQ35
  have N35 := Fr.app N30 N35q
  have k40 : own_To p e below T35 (mkF m 52 #[.val (.int p0), .val (.int p1), .val (.int p2), .val (.ref r2), .val (.ref r4), .val (.ref r8), .val (.ref r12), .val (.int zz2), .val (.int zz4), .unset] [(.int zz8)]) s₁ (mkF m 0 #[.val (.int p0), .val (.int p1), .val (.int p2), .unset, .unset, .unset, .unset, .unset, .unset, .unset] []) := fun t q => k11 t (by
    refine st12.trans ?_
    show Steps p.tables e below (T12.setTop (mkF m 25 #[.val (.int p0), .val (.int p1), .val (.int p2), .val (.ref r2), .val (.ref r4), .val (.ref r8), .unset, .unset, .unset, .unset] [(.ref r12)])) _
    refine XS.astore X12.here hx rfl (hb hby at_25) rfl rfl (l' := #[.val (.int p0), .val (.int p1), .val (.int p2), .val (.ref r2), .val (.ref r4), .val (.ref r8), .val (.ref r12), .unset, .unset, .unset]) rfl ?_
    show Steps p.tables e below (T12.setTop (mkF m 27 #[.val (.int p0), .val (.int p1), .val (.int p2), .val (.ref r2), .val (.ref r4), .val (.ref r8), .val (.ref r12), .unset, .unset, .unset] [])) _
    refine XS.aload X12.here hx rfl (hb hby at_27) rfl rfl ?_
    show Steps p.tables e below (T12.setTop (mkF m 29 #[.val (.int p0), .val (.int p1), .val (.int p2), .val (.ref r2), .val (.ref r4), .val (.ref r8), .val (.ref r12), .unset, .unset, .unset] [(.ref r12)])) _
    refine XS.ifnonnullYes X12.here hx rfl (pc0 := 29) (pc' := 34) rfl (hb hby at_29) rfl (by decide) (by decide) ?_
    show Steps p.tables e below (T12.setTop (mkF m 34 #[.val (.int p0), .val (.int p1), .val (.int p2), .val (.ref r2), .val (.ref r4), .val (.ref r8), .val (.ref r12), .unset, .unset, .unset] [])) _
    refine XS.aloadN X12.here hx rfl (hb hby at_34) rfl rfl ?_
    show Steps p.tables e below (T12.setTop (mkF m 35 #[.val (.int p0), .val (.int p1), .val (.int p2), .val (.ref r2), .val (.ref r4), .val (.ref r8), .val (.ref r12), .unset, .unset, .unset] [(.ref r2)])) _
    refine st23.trans ?_
    show Steps p.tables e below (T23.setTop (mkF m 38 #[.val (.int p0), .val (.int p1), .val (.int p2), .val (.ref r2), .val (.ref r4), .val (.ref r8), .val (.ref r12), .unset, .unset, .unset] [(.int zz2)])) _
    refine XS.istore X23.here hx rfl (hb hby at_38) rfl (l' := #[.val (.int p0), .val (.int p1), .val (.int p2), .val (.ref r2), .val (.ref r4), .val (.ref r8), .val (.ref r12), .val (.int zz2), .unset, .unset]) rfl ?_
    show Steps p.tables e below (T23.setTop (mkF m 40 #[.val (.int p0), .val (.int p1), .val (.int p2), .val (.ref r2), .val (.ref r4), .val (.ref r8), .val (.ref r12), .val (.int zz2), .unset, .unset] [])) _
    refine XS.aload X23.here hx rfl (hb hby at_40) rfl rfl ?_
    show Steps p.tables e below (T23.setTop (mkF m 42 #[.val (.int p0), .val (.int p1), .val (.int p2), .val (.ref r2), .val (.ref r4), .val (.ref r8), .val (.ref r12), .val (.int zz2), .unset, .unset] [(.ref r4)])) _
    refine st30.trans ?_
    show Steps p.tables e below (T30.setTop (mkF m 45 #[.val (.int p0), .val (.int p1), .val (.int p2), .val (.ref r2), .val (.ref r4), .val (.ref r8), .val (.ref r12), .val (.int zz2), .unset, .unset] [(.int zz4)])) _
    refine XS.istore X30.here hx rfl (hb hby at_45) rfl (l' := #[.val (.int p0), .val (.int p1), .val (.int p2), .val (.ref r2), .val (.ref r4), .val (.ref r8), .val (.ref r12), .val (.int zz2), .val (.int zz4), .unset]) rfl ?_
    show Steps p.tables e below (T30.setTop (mkF m 47 #[.val (.int p0), .val (.int p1), .val (.int p2), .val (.ref r2), .val (.ref r4), .val (.ref r8), .val (.ref r12), .val (.int zz2), .val (.int zz4), .unset] [])) _
    refine XS.aload X30.here hx rfl (hb hby at_47) rfl rfl ?_
    show Steps p.tables e below (T30.setTop (mkF m 49 #[.val (.int p0), .val (.int p1), .val (.int p2), .val (.ref r2), .val (.ref r4), .val (.ref r8), .val (.ref r12), .val (.int zz2), .val (.int zz4), .unset] [(.ref r8)])) _
    refine st35.trans ?_
    show Steps p.tables e below (T35.setTop (mkF m 52 #[.val (.int p0), .val (.int p1), .val (.int p2), .val (.ref r2), .val (.ref r4), .val (.ref r8), .val (.ref r12), .val (.int zz2), .val (.int zz4), .unset] [(.int zz8)])) _
    exact q)
  obtain ⟨cq41, kq41, q41a, q41b, q41c⟩ := isOf hZ e35 E12
  obtain ⟨_, _, ⟨T41, L41, kk41, n41⟩, -, X41, ⟨Lc41, hQ41, l41, y41, z41⟩, st41⟩ := X35.virtualBack hx (y := (⟨"java/lang/String", "length", "()I"⟩ : MethodName)) (z := (⟨"java/lang/String", "length", "()I"⟩ : MethodName)) hown (mvT hZ (hw _ (List.mem_of_getElem? (i := 176) rfl))) (mvT hZ (hw _ (List.mem_of_getElem? (i := 72) rfl))) (notFace_of_selects (args := #[]) (mvT hZ (hw _ (List.mem_of_getElem? (i := 74) rfl)))) (mvT hZ (hw _ (List.mem_of_getElem? (i := 74) rfl))) (mvT hZ (hw _ (List.mem_of_getElem? (i := 73) rfl))) (by decide) (backOf (W := 0) (rm13 l Z a0 hw [] r12 rb12 kb12 zz12 vv12 cs T12.heap n0 (Nat.le_trans Z0 K28.1) E12 Fc12 Fv12 V12 hl12 SC hcs O29) hZ (hw _ (List.mem_of_getElem? (i := 75) rfl)) (hw _ (List.mem_of_getElem? (i := 6) rfl)) (by decide) (by decide)) q41a q41c (g := (mkF m 56 #[.val (.int p0), .val (.int p1), .val (.int p2), .val (.ref r2), .val (.ref r4), .val (.ref r8), .val (.ref r12), .val (.int zz2), .val (.int zz4), .val (.int zz8)] [(.ref r12)])) rfl (by rw [hml]; rfl) (Steps.refl _) (argsL := []) (rest := []) (lenOf own_pd1 rfl) rfl (by show 2 * 0 + _ ≤ _; exact Nat.le_of_eq rfl) (hb hby at_56) (fun _ _ => ⟨rfl, e35, (by decide : 39 + 0 ≤ _), (by decide : 274 + 0 ≤ _)⟩)
  dsimp only [Pt.U, Pt.locs, Pt.cells, Pt.slots] at X41 l41 y41 z41 st41 hQ41
  subst l41 y41 z41
  obtain ⟨rfl, N41q, e41⟩ := hQ41
  have N41 := Fr.app N35 N41q
  have k42 : own_To p e below T41 (mkF m 77 #[.val (.int p0), .val (.int p1), .val (.int p2), .val (.ref r2), .val (.ref r4), .val (.ref r8), .val (.ref r12), .val (.int zz2), .val (.int zz4), .val (.int zz8)] [(.ref r12)]) s₁ (mkF m 0 #[.val (.int p0), .val (.int p1), .val (.int p2), .unset, .unset, .unset, .unset, .unset, .unset, .unset] []) := fun t q => k40 t (by
    refine XS.istore X35.here hx rfl (hb hby at_52) rfl (l' := #[.val (.int p0), .val (.int p1), .val (.int p2), .val (.ref r2), .val (.ref r4), .val (.ref r8), .val (.ref r12), .val (.int zz2), .val (.int zz4), .val (.int zz8)]) rfl ?_
    show Steps p.tables e below (T35.setTop (mkF m 54 #[.val (.int p0), .val (.int p1), .val (.int p2), .val (.ref r2), .val (.ref r4), .val (.ref r8), .val (.ref r12), .val (.int zz2), .val (.int zz4), .val (.int zz8)] [])) _
    refine XS.aload X35.here hx rfl (hb hby at_54) rfl rfl ?_
    show Steps p.tables e below (T35.setTop (mkF m 56 #[.val (.int p0), .val (.int p1), .val (.int p2), .val (.ref r2), .val (.ref r4), .val (.ref r8), .val (.ref r12), .val (.int zz2), .val (.int zz4), .val (.int zz8)] [(.ref r12)])) _
    refine st41.trans ?_
    show Steps p.tables e below (T41.setTop (mkF m 59 #[.val (.int p0), .val (.int p1), .val (.int p2), .val (.ref r2), .val (.ref r4), .val (.ref r8), .val (.ref r12), .val (.int zz2), .val (.int zz4), .val (.int zz8)] [(.int zz12)])) _
    refine XS.bipush X41.here hx rfl (hb hby at_59) ?_
    show Steps p.tables e below (T41.setTop (mkF m 61 #[.val (.int p0), .val (.int p1), .val (.int p2), .val (.ref r2), .val (.ref r4), .val (.ref r8), .val (.ref r12), .val (.int zz2), .val (.int zz4), .val (.int zz8)] [(.int (16 : Int32)), (.int zz12)])) _
    refine XS.iload X41.here hx rfl (hb hby at_61) rfl ?_
    show Steps p.tables e below (T41.setTop (mkF m 63 #[.val (.int p0), .val (.int p1), .val (.int p2), .val (.ref r2), .val (.ref r4), .val (.ref r8), .val (.ref r12), .val (.int zz2), .val (.int zz4), .val (.int zz8)] [(.int zz2), (.int (16 : Int32)), (.int zz12)])) _
    refine XS.iadd X41.here hx rfl (hb hby at_63) rfl ?_
    show Steps p.tables e below (T41.setTop (mkF m 64 #[.val (.int p0), .val (.int p1), .val (.int p2), .val (.ref r2), .val (.ref r4), .val (.ref r8), .val (.ref r12), .val (.int zz2), .val (.int zz4), .val (.int zz8)] [(.int ((16 : Int32) + zz2)), (.int zz12)])) _
    refine XS.iload X41.here hx rfl (hb hby at_64) rfl ?_
    show Steps p.tables e below (T41.setTop (mkF m 66 #[.val (.int p0), .val (.int p1), .val (.int p2), .val (.ref r2), .val (.ref r4), .val (.ref r8), .val (.ref r12), .val (.int zz2), .val (.int zz4), .val (.int zz8)] [(.int zz4), (.int ((16 : Int32) + zz2)), (.int zz12)])) _
    refine XS.iadd X41.here hx rfl (hb hby at_66) rfl ?_
    show Steps p.tables e below (T41.setTop (mkF m 67 #[.val (.int p0), .val (.int p1), .val (.int p2), .val (.ref r2), .val (.ref r4), .val (.ref r8), .val (.ref r12), .val (.int zz2), .val (.int zz4), .val (.int zz8)] [(.int (((16 : Int32) + zz2) + zz4)), (.int zz12)])) _
    refine XS.iload X41.here hx rfl (hb hby at_67) rfl ?_
    show Steps p.tables e below (T41.setTop (mkF m 69 #[.val (.int p0), .val (.int p1), .val (.int p2), .val (.ref r2), .val (.ref r4), .val (.ref r8), .val (.ref r12), .val (.int zz2), .val (.int zz4), .val (.int zz8)] [(.int zz8), (.int (((16 : Int32) + zz2) + zz4)), (.int zz12)])) _
    refine XS.iadd X41.here hx rfl (hb hby at_69) rfl ?_
    show Steps p.tables e below (T41.setTop (mkF m 70 #[.val (.int p0), .val (.int p1), .val (.int p2), .val (.ref r2), .val (.ref r4), .val (.ref r8), .val (.ref r12), .val (.int zz2), .val (.int zz4), .val (.int zz8)] [(.int ((((16 : Int32) + zz2) + zz4) + zz8)), (.int zz12)])) _
    refine XS.icmpYes X41.here hx rfl (pc0 := 70) (pc' := 75) rfl (hb hby at_70) rfl (teq (e16.symm)).1 (by decide) (by decide) ?_
    show Steps p.tables e below (T41.setTop (mkF m 75 #[.val (.int p0), .val (.int p1), .val (.int p2), .val (.ref r2), .val (.ref r4), .val (.ref r8), .val (.ref r12), .val (.int zz2), .val (.int zz4), .val (.int zz8)] [])) _
    refine XS.aload X41.here hx rfl (hb hby at_75) rfl rfl ?_
    show Steps p.tables e below (T41.setTop (mkF m 77 #[.val (.int p0), .val (.int p1), .val (.int p2), .val (.ref r2), .val (.ref r4), .val (.ref r8), .val (.ref r12), .val (.int zz2), .val (.int zz4), .val (.int zz8)] [(.ref r12)])) _
    exact q)
  have k43 : own_To p e below T41 (mkF m 78 #[.val (.int p0), .val (.int p1), .val (.int p2), .val (.ref r2), .val (.ref r4), .val (.ref r8), .val (.ref r12), .val (.int zz2), .val (.int zz4), .val (.int zz8)] [(.int (0 : Int32)), (.ref r12)]) s₁ (mkF m 0 #[.val (.int p0), .val (.int p1), .val (.int p2), .unset, .unset, .unset, .unset, .unset, .unset, .unset] []) := fun t q => k42 t (by
    refine XS.iconst X41.here hx rfl (hb hby at_77) ?_
    show Steps p.tables e below (T41.setTop (mkF m 78 #[.val (.int p0), .val (.int p1), .val (.int p2), .val (.ref r2), .val (.ref r4), .val (.ref r8), .val (.ref r12), .val (.int zz2), .val (.int zz4), .val (.int zz8)] [(.int (0 : Int32)), (.ref r12)])) _
    exact q)
  obtain ⟨b44, T44, h44, kk44, bb44, kb44, X44, e44, E44, hS44, hk44, hZ44, hown44, Ex44, Fc44, Fv44, V44, -, -, hC44, -, -, st44⟩ := ldcCH (vm0 := T12.vm) X41 hx hZ hown (hw _ (List.mem_of_getElem? (i := 177) rfl)) hstr e41 hSn12 (Nat.le_refl _) hEL (List.mem_of_getElem? (i := 5) rfl) CHl12 (vs := [(.int (97 : Int32)), (.int (114 : Int32)), (.int (110 : Int32)), (.int (58 : Int32))]) (z := (4 : Int32)) ⟨by decide, rfl⟩ (by decide) rfl (g := (mkF m 78 #[.val (.int p0), .val (.int p1), .val (.int p2), .val (.ref r2), .val (.ref r4), .val (.ref r8), .val (.ref r12), .val (.int zz2), .val (.int zz4), .val (.int zz8)] [(.int (0 : Int32)), (.ref r12)])) rfl (hb hby at_78) (n := 16) (by decide) (by decide) (by decide) (by decide)
  have hZ := hZ44
  have hown := hown44
  have CRl44 := CRl12.trans hC44
  have CHl44 := CRl44.1
  have F46 := (E12.ext E44)
  have F47 := (Fc12.ext E44)
  have F48 := (Fv12.ext E44)
  have F49 := (V12.ext E44)
  have K50 : Keep h0 h44 [] := (K28.ext E44)
  have O51 : Old Z n0 h44 := (O29.ext E44)
  have ho52A : ([] : List Value).length = ((0 : Int32)).toNatClampNeg := own_lenA (by omega) (by simp only [List.length_append, List.length_cons, List.length_nil, hl2, hl4, hl8]; omega)
  have ho52m : ∀ j : Nat, j < ((4 : Int32)).toNatClampNeg → vv12.getD (((0 : Int32)).toNatClampNeg + j) (.int (0 : Int32)) = ([(.int (97 : Int32)), (.int (114 : Int32)), (.int (110 : Int32)), (.int (58 : Int32))] : List Value).getD j (.int (0 : Int32)) := own_part (A := []) (B := vv2 ++ ([(.int (58 : Int32)), (.int (105 : Int32)), (.int (97 : Int32)), (.int (109 : Int32)), (.int (58 : Int32)), (.int (58 : Int32))] ++ (vv4 ++ ([(.int (58 : Int32)), (.int (114 : Int32)), (.int (111 : Int32)), (.int (108 : Int32)), (.int (101 : Int32)), (.int (47 : Int32))] ++ vv8)))) (by first | (rw [hv12]; done) | (rw [hv12]; simp only [List.append_assoc, List.nil_append, List.cons_append, List.append_nil])) ho52A (by decide)
  obtain ⟨_, _, ⟨T45, L45, kk45, n45⟩, -, X45, ⟨Lc45, hQ45, l45, y45, z45⟩, st45⟩ := Jvm.LawKit.callS X44 hx (y := (⟨"com/example/issuer/issuer/identity/CallerRoleArnPinLaw", "lit", "(Ljava/lang/String;ILjava/lang/String;)Z"⟩ : MethodName)) hown (mvT hZ (hw _ (List.mem_of_getElem? (i := 178) rfl))) (mvT hZ (hw _ (List.mem_of_getElem? (i := 179) rfl))) (mvT hZ (hw _ (List.mem_of_getElem? (i := 2) rfl))) (mvT hZ (hw _ (List.mem_of_getElem? (i := 180) rfl))) (by decide) (backOf (W := 0) (rm35 l Z a0 hw [] r12 (0 : Int32) b44 rb12 kb12 zz12 vv12 bb44 kb44 (4 : Int32) [(.int (97 : Int32)), (.int (114 : Int32)), (.int (110 : Int32)), (.int (58 : Int32))] cs fo h44 n0 (Nat.le_trans Z0 K50.1) F46 F47 F48 F49 hl12 Ex44 Fc44 Fv44 V44 (by decide) SC hcs O51 SF hfo (by omega) (by omega) ho52m) hZ (hw _ (List.mem_of_getElem? (i := 180) rfl)) (hw _ (List.mem_of_getElem? (i := 2) rfl)) (by decide) (by decide)) (g := (mkF m 80 #[.val (.int p0), .val (.int p1), .val (.int p2), .val (.ref r2), .val (.ref r4), .val (.ref r8), .val (.ref r12), .val (.int zz2), .val (.int zz4), .val (.int zz8)] [(.ref b44), (.int (0 : Int32)), (.ref r12)])) rfl (by rw [hml]; rfl) (argsL := [(.ref r12), (.int (0 : Int32)), (.ref b44)]) (rest := []) (lenOf own_pd24 rfl) rfl (by show 2 * 0 + _ ≤ _; exact Nat.le_of_eq rfl) (hb hby at_80) (fun _ _ => ⟨rfl, e44, (by decide : 41 + 0 ≤ _), (by decide : 294 + 0 ≤ _)⟩)
  dsimp only [Pt.U, Pt.locs, Pt.cells, Pt.slots] at X45 l45 y45 z45 st45 hQ45
  subst l45 y45 z45
  obtain ⟨rfl, N45q, e45⟩ := hQ45
  have N45 := Fr.app N41 N45q
  have F54 := (F24.ext E44)
  have F55 := (F25.ext E44)
  have F56 := (F26.ext E44)
  have F57 := (F27.ext E44)
  have ho58A : ([(.int (97 : Int32)), (.int (114 : Int32)), (.int (110 : Int32)), (.int (58 : Int32))] : List Value).length = ((4 : Int32)).toNatClampNeg := own_lenA (by omega) (by simp only [List.length_append, List.length_cons, List.length_nil, hl2, hl4, hl8]; omega)
  have ho58m : ∀ j : Nat, j < (zz2).toNatClampNeg → vv12.getD (((4 : Int32)).toNatClampNeg + j) (.int (0 : Int32)) = (vv2 : List Value).getD j (.int (0 : Int32)) := own_part (A := [(.int (97 : Int32)), (.int (114 : Int32)), (.int (110 : Int32)), (.int (58 : Int32))]) (B := [(.int (58 : Int32)), (.int (105 : Int32)), (.int (97 : Int32)), (.int (109 : Int32)), (.int (58 : Int32)), (.int (58 : Int32))] ++ (vv4 ++ ([(.int (58 : Int32)), (.int (114 : Int32)), (.int (111 : Int32)), (.int (108 : Int32)), (.int (101 : Int32)), (.int (47 : Int32))] ++ vv8))) (by first | (rw [hv12]; done) | (rw [hv12]; simp only [List.append_assoc, List.nil_append, List.cons_append, List.append_nil])) ho58A hl2
  obtain ⟨_, _, ⟨T53, L53, kk53, n53⟩, -, X53, ⟨Lc53, hQ53, l53, y53, z53⟩, st53⟩ := Jvm.LawKit.callS X45 hx (y := (⟨"com/example/issuer/issuer/identity/CallerRoleArnPinLaw", "lit", "(Ljava/lang/String;ILjava/lang/String;)Z"⟩ : MethodName)) hown (mvT hZ (hw _ (List.mem_of_getElem? (i := 178) rfl))) (mvT hZ (hw _ (List.mem_of_getElem? (i := 179) rfl))) (mvT hZ (hw _ (List.mem_of_getElem? (i := 2) rfl))) (mvT hZ (hw _ (List.mem_of_getElem? (i := 180) rfl))) (by decide) (backOf (W := 0) (rm35 l Z a0 hw [] r12 (4 : Int32) r2 rb12 kb12 zz12 vv12 rb2 kb2 zz2 vv2 cs fo h44 n0 (Nat.le_trans Z0 K50.1) F46 F47 F48 F49 hl12 F54 F55 F56 F57 hl2 SC hcs O51 SF hfo (by omega) (by omega) ho58m) hZ (hw _ (List.mem_of_getElem? (i := 180) rfl)) (hw _ (List.mem_of_getElem? (i := 2) rfl)) (by decide) (by decide)) (g := (mkF m 90 #[.val (.int p0), .val (.int p1), .val (.int p2), .val (.ref r2), .val (.ref r4), .val (.ref r8), .val (.ref r12), .val (.int zz2), .val (.int zz4), .val (.int zz8)] [(.ref r2), (.int (4 : Int32)), (.ref r12)])) rfl (by rw [hml]; rfl) (argsL := [(.ref r12), (.int (4 : Int32)), (.ref r2)]) (rest := []) (lenOf own_pd24 rfl) rfl (by show 2 * 0 + _ ≤ _; exact Nat.le_of_eq rfl) (hb hby at_90) (fun _ _ => ⟨rfl, e45, (by decide : 41 + 0 ≤ _), (by decide : 294 + 0 ≤ _)⟩)
  dsimp only [Pt.U, Pt.locs, Pt.cells, Pt.slots] at X53 l53 y53 z53 st53 hQ53
  subst l53 y53 z53
  obtain ⟨rfl, N53q, e53⟩ := hQ53
  have N53 := Fr.app N45 N53q
  have k59 : own_To p e below T53 (mkF m 102 #[.val (.int p0), .val (.int p1), .val (.int p2), .val (.ref r2), .val (.ref r4), .val (.ref r8), .val (.ref r12), .val (.int zz2), .val (.int zz4), .val (.int zz8)] [(.int ((4 : Int32) + zz2)), (.ref r12)]) s₁ (mkF m 0 #[.val (.int p0), .val (.int p1), .val (.int p2), .unset, .unset, .unset, .unset, .unset, .unset, .unset] []) := fun t q => k43 t (by
    refine st44 _ ?_
    show Steps p.tables e below (T44.setTop (mkF m 80 #[.val (.int p0), .val (.int p1), .val (.int p2), .val (.ref r2), .val (.ref r4), .val (.ref r8), .val (.ref r12), .val (.int zz2), .val (.int zz4), .val (.int zz8)] [(.ref b44), (.int (0 : Int32)), (.ref r12)])) _
    refine st45 _ ?_
    show Steps p.tables e below (T45.setTop (mkF m 83 #[.val (.int p0), .val (.int p1), .val (.int p2), .val (.ref r2), .val (.ref r4), .val (.ref r8), .val (.ref r12), .val (.int zz2), .val (.int zz4), .val (.int zz8)] [(.int (1 : Int32))])) _
    refine XS.ifNo X45.here hx rfl (hb hby at_83) rfl ((if0 _ _).trans (feq (by decide)).1) ?_
    show Steps p.tables e below (T45.setTop (mkF m 86 #[.val (.int p0), .val (.int p1), .val (.int p2), .val (.ref r2), .val (.ref r4), .val (.ref r8), .val (.ref r12), .val (.int zz2), .val (.int zz4), .val (.int zz8)] [])) _
    refine XS.aload X45.here hx rfl (hb hby at_86) rfl rfl ?_
    show Steps p.tables e below (T45.setTop (mkF m 88 #[.val (.int p0), .val (.int p1), .val (.int p2), .val (.ref r2), .val (.ref r4), .val (.ref r8), .val (.ref r12), .val (.int zz2), .val (.int zz4), .val (.int zz8)] [(.ref r12)])) _
    refine XS.iconst X45.here hx rfl (hb hby at_88) ?_
    show Steps p.tables e below (T45.setTop (mkF m 89 #[.val (.int p0), .val (.int p1), .val (.int p2), .val (.ref r2), .val (.ref r4), .val (.ref r8), .val (.ref r12), .val (.int zz2), .val (.int zz4), .val (.int zz8)] [(.int (4 : Int32)), (.ref r12)])) _
    refine XS.aloadN X45.here hx rfl (hb hby at_89) rfl rfl ?_
    show Steps p.tables e below (T45.setTop (mkF m 90 #[.val (.int p0), .val (.int p1), .val (.int p2), .val (.ref r2), .val (.ref r4), .val (.ref r8), .val (.ref r12), .val (.int zz2), .val (.int zz4), .val (.int zz8)] [(.ref r2), (.int (4 : Int32)), (.ref r12)])) _
    refine st53 _ ?_
    show Steps p.tables e below (T53.setTop (mkF m 93 #[.val (.int p0), .val (.int p1), .val (.int p2), .val (.ref r2), .val (.ref r4), .val (.ref r8), .val (.ref r12), .val (.int zz2), .val (.int zz4), .val (.int zz8)] [(.int (1 : Int32))])) _
    refine XS.ifNo X53.here hx rfl (hb hby at_93) rfl ((if0 _ _).trans (feq (by decide)).1) ?_
    show Steps p.tables e below (T53.setTop (mkF m 96 #[.val (.int p0), .val (.int p1), .val (.int p2), .val (.ref r2), .val (.ref r4), .val (.ref r8), .val (.ref r12), .val (.int zz2), .val (.int zz4), .val (.int zz8)] [])) _
    refine XS.aload X53.here hx rfl (hb hby at_96) rfl rfl ?_
    show Steps p.tables e below (T53.setTop (mkF m 98 #[.val (.int p0), .val (.int p1), .val (.int p2), .val (.ref r2), .val (.ref r4), .val (.ref r8), .val (.ref r12), .val (.int zz2), .val (.int zz4), .val (.int zz8)] [(.ref r12)])) _
    refine XS.iconst X53.here hx rfl (hb hby at_98) ?_
    show Steps p.tables e below (T53.setTop (mkF m 99 #[.val (.int p0), .val (.int p1), .val (.int p2), .val (.ref r2), .val (.ref r4), .val (.ref r8), .val (.ref r12), .val (.int zz2), .val (.int zz4), .val (.int zz8)] [(.int (4 : Int32)), (.ref r12)])) _
    refine XS.iload X53.here hx rfl (hb hby at_99) rfl ?_
    show Steps p.tables e below (T53.setTop (mkF m 101 #[.val (.int p0), .val (.int p1), .val (.int p2), .val (.ref r2), .val (.ref r4), .val (.ref r8), .val (.ref r12), .val (.int zz2), .val (.int zz4), .val (.int zz8)] [(.int zz2), (.int (4 : Int32)), (.ref r12)])) _
    refine XS.iadd X53.here hx rfl (hb hby at_101) rfl ?_
    show Steps p.tables e below (T53.setTop (mkF m 102 #[.val (.int p0), .val (.int p1), .val (.int p2), .val (.ref r2), .val (.ref r4), .val (.ref r8), .val (.ref r12), .val (.int zz2), .val (.int zz4), .val (.int zz8)] [(.int ((4 : Int32) + zz2)), (.ref r12)])) _
    exact q)
  obtain ⟨b60, T60, h60, kk60, bb60, kb60, X60, e60, E60, hS60, hk60, hZ60, hown60, Ex60, Fc60, Fv60, V60, -, -, hC60, -, -, st60⟩ := ldcCH (vm0 := T44.vm) X53 hx hZ hown (hw _ (List.mem_of_getElem? (i := 203) rfl)) hstr e53 hS44 hk44 hEL (List.mem_of_getElem? (i := 6) rfl) CHl44 (vs := [(.int (58 : Int32)), (.int (105 : Int32)), (.int (97 : Int32)), (.int (109 : Int32)), (.int (58 : Int32)), (.int (58 : Int32))]) (z := (6 : Int32)) ⟨by decide, rfl⟩ (by decide) rfl (g := (mkF m 102 #[.val (.int p0), .val (.int p1), .val (.int p2), .val (.ref r2), .val (.ref r4), .val (.ref r8), .val (.ref r12), .val (.int zz2), .val (.int zz4), .val (.int zz8)] [(.int ((4 : Int32) + zz2)), (.ref r12)])) rfl (hb hby at_102) (n := 24) (by decide) (by decide) (by decide) (by decide)
  have hZ := hZ60
  have hown := hown60
  have CRl60 := CRl44.trans hC60
  have CHl60 := CRl60.1
  have F62 := (F46.ext E60)
  have F63 := (F47.ext E60)
  have F64 := (F48.ext E60)
  have F65 := (F49.ext E60)
  have K66 : Keep h0 h60 [] := (K50.ext E60)
  have O67 : Old Z n0 h60 := (O51.ext E60)
  have ho68a := own_add (4 : Int32) zz2 (by omega)
  have ho68A : ([(.int (97 : Int32)), (.int (114 : Int32)), (.int (110 : Int32)), (.int (58 : Int32))] ++ vv2 : List Value).length = (((4 : Int32) + zz2)).toNatClampNeg := own_lenA (by omega) (by simp only [List.length_append, List.length_cons, List.length_nil, hl2, hl4, hl8]; omega)
  have ho68m : ∀ j : Nat, j < ((6 : Int32)).toNatClampNeg → vv12.getD ((((4 : Int32) + zz2)).toNatClampNeg + j) (.int (0 : Int32)) = ([(.int (58 : Int32)), (.int (105 : Int32)), (.int (97 : Int32)), (.int (109 : Int32)), (.int (58 : Int32)), (.int (58 : Int32))] : List Value).getD j (.int (0 : Int32)) := own_part (A := [(.int (97 : Int32)), (.int (114 : Int32)), (.int (110 : Int32)), (.int (58 : Int32))] ++ vv2) (B := vv4 ++ ([(.int (58 : Int32)), (.int (114 : Int32)), (.int (111 : Int32)), (.int (108 : Int32)), (.int (101 : Int32)), (.int (47 : Int32))] ++ vv8)) (by first | (rw [hv12]; done) | (rw [hv12]; simp only [List.append_assoc, List.nil_append, List.cons_append, List.append_nil])) ho68A (by decide)
  obtain ⟨_, _, ⟨T61, L61, kk61, n61⟩, -, X61, ⟨Lc61, hQ61, l61, y61, z61⟩, st61⟩ := Jvm.LawKit.callS X60 hx (y := (⟨"com/example/issuer/issuer/identity/CallerRoleArnPinLaw", "lit", "(Ljava/lang/String;ILjava/lang/String;)Z"⟩ : MethodName)) hown (mvT hZ (hw _ (List.mem_of_getElem? (i := 178) rfl))) (mvT hZ (hw _ (List.mem_of_getElem? (i := 179) rfl))) (mvT hZ (hw _ (List.mem_of_getElem? (i := 2) rfl))) (mvT hZ (hw _ (List.mem_of_getElem? (i := 180) rfl))) (by decide) (backOf (W := 0) (rm35 l Z a0 hw [] r12 ((4 : Int32) + zz2) b60 rb12 kb12 zz12 vv12 bb60 kb60 (6 : Int32) [(.int (58 : Int32)), (.int (105 : Int32)), (.int (97 : Int32)), (.int (109 : Int32)), (.int (58 : Int32)), (.int (58 : Int32))] cs fo h60 n0 (Nat.le_trans Z0 K66.1) F62 F63 F64 F65 hl12 Ex60 Fc60 Fv60 V60 (by decide) SC hcs O67 SF hfo (by omega) (by omega) ho68m) hZ (hw _ (List.mem_of_getElem? (i := 180) rfl)) (hw _ (List.mem_of_getElem? (i := 2) rfl)) (by decide) (by decide)) (g := (mkF m 104 #[.val (.int p0), .val (.int p1), .val (.int p2), .val (.ref r2), .val (.ref r4), .val (.ref r8), .val (.ref r12), .val (.int zz2), .val (.int zz4), .val (.int zz8)] [(.ref b60), (.int ((4 : Int32) + zz2)), (.ref r12)])) rfl (by rw [hml]; rfl) (argsL := [(.ref r12), (.int ((4 : Int32) + zz2)), (.ref b60)]) (rest := []) (lenOf own_pd24 rfl) rfl (by show 2 * 0 + _ ≤ _; exact Nat.le_of_eq rfl) (hb hby at_104) (fun _ _ => ⟨rfl, e60, (by decide : 43 + 0 ≤ _), (by decide : 322 + 0 ≤ _)⟩)
  dsimp only [Pt.U, Pt.locs, Pt.cells, Pt.slots] at X61 l61 y61 z61 st61 hQ61
  subst l61 y61 z61
  obtain ⟨rfl, N61q, e61⟩ := hQ61
  have N61 := Fr.app N53 N61q
  have F70 := ((F31.ext E44).ext E60)
  have F71 := ((F32.ext E44).ext E60)
  have F72 := ((F33.ext E44).ext E60)
  have F73 := ((F34.ext E44).ext E60)
  have ho74a := own_add (10 : Int32) zz2 (by omega)
  have ho74A : ([(.int (97 : Int32)), (.int (114 : Int32)), (.int (110 : Int32)), (.int (58 : Int32))] ++ (vv2 ++ [(.int (58 : Int32)), (.int (105 : Int32)), (.int (97 : Int32)), (.int (109 : Int32)), (.int (58 : Int32)), (.int (58 : Int32))]) : List Value).length = (((10 : Int32) + zz2)).toNatClampNeg := own_lenA (by omega) (by simp only [List.length_append, List.length_cons, List.length_nil, hl2, hl4, hl8]; omega)
  have ho74m : ∀ j : Nat, j < (zz4).toNatClampNeg → vv12.getD ((((10 : Int32) + zz2)).toNatClampNeg + j) (.int (0 : Int32)) = (vv4 : List Value).getD j (.int (0 : Int32)) := own_part (A := [(.int (97 : Int32)), (.int (114 : Int32)), (.int (110 : Int32)), (.int (58 : Int32))] ++ (vv2 ++ [(.int (58 : Int32)), (.int (105 : Int32)), (.int (97 : Int32)), (.int (109 : Int32)), (.int (58 : Int32)), (.int (58 : Int32))])) (B := [(.int (58 : Int32)), (.int (114 : Int32)), (.int (111 : Int32)), (.int (108 : Int32)), (.int (101 : Int32)), (.int (47 : Int32))] ++ vv8) (by first | (rw [hv12]; done) | (rw [hv12]; simp only [List.append_assoc, List.nil_append, List.cons_append, List.append_nil])) ho74A hl4
  obtain ⟨_, _, ⟨T69, L69, kk69, n69⟩, -, X69, ⟨Lc69, hQ69, l69, y69, z69⟩, st69⟩ := Jvm.LawKit.callS X61 hx (y := (⟨"com/example/issuer/issuer/identity/CallerRoleArnPinLaw", "lit", "(Ljava/lang/String;ILjava/lang/String;)Z"⟩ : MethodName)) hown (mvT hZ (hw _ (List.mem_of_getElem? (i := 178) rfl))) (mvT hZ (hw _ (List.mem_of_getElem? (i := 179) rfl))) (mvT hZ (hw _ (List.mem_of_getElem? (i := 2) rfl))) (mvT hZ (hw _ (List.mem_of_getElem? (i := 180) rfl))) (by decide) (backOf (W := 0) (rm35 l Z a0 hw [] r12 ((10 : Int32) + zz2) r4 rb12 kb12 zz12 vv12 rb4 kb4 zz4 vv4 cs fo h60 n0 (Nat.le_trans Z0 K66.1) F62 F63 F64 F65 hl12 F70 F71 F72 F73 hl4 SC hcs O67 SF hfo (by omega) (by omega) ho74m) hZ (hw _ (List.mem_of_getElem? (i := 180) rfl)) (hw _ (List.mem_of_getElem? (i := 2) rfl)) (by decide) (by decide)) (g := (mkF m 119 #[.val (.int p0), .val (.int p1), .val (.int p2), .val (.ref r2), .val (.ref r4), .val (.ref r8), .val (.ref r12), .val (.int zz2), .val (.int zz4), .val (.int zz8)] [(.ref r4), (.int ((10 : Int32) + zz2)), (.ref r12)])) rfl (by rw [hml]; rfl) (argsL := [(.ref r12), (.int ((10 : Int32) + zz2)), (.ref r4)]) (rest := []) (lenOf own_pd24 rfl) rfl (by show 2 * 0 + _ ≤ _; exact Nat.le_of_eq rfl) (hb hby at_119) (fun _ _ => ⟨rfl, e61, (by decide : 43 + 0 ≤ _), (by decide : 322 + 0 ≤ _)⟩)
  dsimp only [Pt.U, Pt.locs, Pt.cells, Pt.slots] at X69 l69 y69 z69 st69 hQ69
  subst l69 y69 z69
  obtain ⟨rfl, N69q, e69⟩ := hQ69
  have N69 := Fr.app N61 N69q
  have k75 : own_To p e below T69 (mkF m 129 #[.val (.int p0), .val (.int p1), .val (.int p2), .val (.ref r2), .val (.ref r4), .val (.ref r8), .val (.ref r12), .val (.int zz2), .val (.int zz4), .val (.int zz8)] [(.int (10 : Int32)), (.ref r12)]) s₁ (mkF m 0 #[.val (.int p0), .val (.int p1), .val (.int p2), .unset, .unset, .unset, .unset, .unset, .unset, .unset] []) := fun t q => k59 t (by
    refine st60 _ ?_
    show Steps p.tables e below (T60.setTop (mkF m 104 #[.val (.int p0), .val (.int p1), .val (.int p2), .val (.ref r2), .val (.ref r4), .val (.ref r8), .val (.ref r12), .val (.int zz2), .val (.int zz4), .val (.int zz8)] [(.ref b60), (.int ((4 : Int32) + zz2)), (.ref r12)])) _
    refine st61 _ ?_
    show Steps p.tables e below (T61.setTop (mkF m 107 #[.val (.int p0), .val (.int p1), .val (.int p2), .val (.ref r2), .val (.ref r4), .val (.ref r8), .val (.ref r12), .val (.int zz2), .val (.int zz4), .val (.int zz8)] [(.int (1 : Int32))])) _
    refine XS.ifNo X61.here hx rfl (hb hby at_107) rfl ((if0 _ _).trans (feq (by decide)).1) ?_
    show Steps p.tables e below (T61.setTop (mkF m 110 #[.val (.int p0), .val (.int p1), .val (.int p2), .val (.ref r2), .val (.ref r4), .val (.ref r8), .val (.ref r12), .val (.int zz2), .val (.int zz4), .val (.int zz8)] [])) _
    refine XS.aload X61.here hx rfl (hb hby at_110) rfl rfl ?_
    show Steps p.tables e below (T61.setTop (mkF m 112 #[.val (.int p0), .val (.int p1), .val (.int p2), .val (.ref r2), .val (.ref r4), .val (.ref r8), .val (.ref r12), .val (.int zz2), .val (.int zz4), .val (.int zz8)] [(.ref r12)])) _
    refine XS.bipush X61.here hx rfl (hb hby at_112) ?_
    show Steps p.tables e below (T61.setTop (mkF m 114 #[.val (.int p0), .val (.int p1), .val (.int p2), .val (.ref r2), .val (.ref r4), .val (.ref r8), .val (.ref r12), .val (.int zz2), .val (.int zz4), .val (.int zz8)] [(.int (10 : Int32)), (.ref r12)])) _
    refine XS.iload X61.here hx rfl (hb hby at_114) rfl ?_
    show Steps p.tables e below (T61.setTop (mkF m 116 #[.val (.int p0), .val (.int p1), .val (.int p2), .val (.ref r2), .val (.ref r4), .val (.ref r8), .val (.ref r12), .val (.int zz2), .val (.int zz4), .val (.int zz8)] [(.int zz2), (.int (10 : Int32)), (.ref r12)])) _
    refine XS.iadd X61.here hx rfl (hb hby at_116) rfl ?_
    show Steps p.tables e below (T61.setTop (mkF m 117 #[.val (.int p0), .val (.int p1), .val (.int p2), .val (.ref r2), .val (.ref r4), .val (.ref r8), .val (.ref r12), .val (.int zz2), .val (.int zz4), .val (.int zz8)] [(.int ((10 : Int32) + zz2)), (.ref r12)])) _
    refine XS.aload X61.here hx rfl (hb hby at_117) rfl rfl ?_
    show Steps p.tables e below (T61.setTop (mkF m 119 #[.val (.int p0), .val (.int p1), .val (.int p2), .val (.ref r2), .val (.ref r4), .val (.ref r8), .val (.ref r12), .val (.int zz2), .val (.int zz4), .val (.int zz8)] [(.ref r4), (.int ((10 : Int32) + zz2)), (.ref r12)])) _
    refine st69 _ ?_
    show Steps p.tables e below (T69.setTop (mkF m 122 #[.val (.int p0), .val (.int p1), .val (.int p2), .val (.ref r2), .val (.ref r4), .val (.ref r8), .val (.ref r12), .val (.int zz2), .val (.int zz4), .val (.int zz8)] [(.int (1 : Int32))])) _
    refine XS.ifNo X69.here hx rfl (hb hby at_122) rfl ((if0 _ _).trans (feq (by decide)).1) ?_
    show Steps p.tables e below (T69.setTop (mkF m 125 #[.val (.int p0), .val (.int p1), .val (.int p2), .val (.ref r2), .val (.ref r4), .val (.ref r8), .val (.ref r12), .val (.int zz2), .val (.int zz4), .val (.int zz8)] [])) _
    refine XS.aload X69.here hx rfl (hb hby at_125) rfl rfl ?_
    show Steps p.tables e below (T69.setTop (mkF m 127 #[.val (.int p0), .val (.int p1), .val (.int p2), .val (.ref r2), .val (.ref r4), .val (.ref r8), .val (.ref r12), .val (.int zz2), .val (.int zz4), .val (.int zz8)] [(.ref r12)])) _
    refine XS.bipush X69.here hx rfl (hb hby at_127) ?_
    show Steps p.tables e below (T69.setTop (mkF m 129 #[.val (.int p0), .val (.int p1), .val (.int p2), .val (.ref r2), .val (.ref r4), .val (.ref r8), .val (.ref r12), .val (.int zz2), .val (.int zz4), .val (.int zz8)] [(.int (10 : Int32)), (.ref r12)])) _
    exact q)
  have k76 : own_To p e below T69 (mkF m 135 #[.val (.int p0), .val (.int p1), .val (.int p2), .val (.ref r2), .val (.ref r4), .val (.ref r8), .val (.ref r12), .val (.int zz2), .val (.int zz4), .val (.int zz8)] [(.int (((10 : Int32) + zz2) + zz4)), (.ref r12)]) s₁ (mkF m 0 #[.val (.int p0), .val (.int p1), .val (.int p2), .unset, .unset, .unset, .unset, .unset, .unset, .unset] []) := fun t q => k75 t (by
    refine XS.iload X69.here hx rfl (hb hby at_129) rfl ?_
    show Steps p.tables e below (T69.setTop (mkF m 131 #[.val (.int p0), .val (.int p1), .val (.int p2), .val (.ref r2), .val (.ref r4), .val (.ref r8), .val (.ref r12), .val (.int zz2), .val (.int zz4), .val (.int zz8)] [(.int zz2), (.int (10 : Int32)), (.ref r12)])) _
    refine XS.iadd X69.here hx rfl (hb hby at_131) rfl ?_
    show Steps p.tables e below (T69.setTop (mkF m 132 #[.val (.int p0), .val (.int p1), .val (.int p2), .val (.ref r2), .val (.ref r4), .val (.ref r8), .val (.ref r12), .val (.int zz2), .val (.int zz4), .val (.int zz8)] [(.int ((10 : Int32) + zz2)), (.ref r12)])) _
    refine XS.iload X69.here hx rfl (hb hby at_132) rfl ?_
    show Steps p.tables e below (T69.setTop (mkF m 134 #[.val (.int p0), .val (.int p1), .val (.int p2), .val (.ref r2), .val (.ref r4), .val (.ref r8), .val (.ref r12), .val (.int zz2), .val (.int zz4), .val (.int zz8)] [(.int zz4), (.int ((10 : Int32) + zz2)), (.ref r12)])) _
    refine XS.iadd X69.here hx rfl (hb hby at_134) rfl ?_
    show Steps p.tables e below (T69.setTop (mkF m 135 #[.val (.int p0), .val (.int p1), .val (.int p2), .val (.ref r2), .val (.ref r4), .val (.ref r8), .val (.ref r12), .val (.int zz2), .val (.int zz4), .val (.int zz8)] [(.int (((10 : Int32) + zz2) + zz4)), (.ref r12)])) _
    exact q)
  obtain ⟨b77, T77, h77, kk77, bb77, kb77, X77, e77, E77, hS77, hk77, hZ77, hown77, Ex77, Fc77, Fv77, V77, -, -, hC77, -, -, st77⟩ := ldcCH (vm0 := T60.vm) X69 hx hZ hown (hw _ (List.mem_of_getElem? (i := 204) rfl)) hstr e69 hS60 hk60 hEL (List.mem_of_getElem? (i := 7) rfl) CHl60 (vs := [(.int (58 : Int32)), (.int (114 : Int32)), (.int (111 : Int32)), (.int (108 : Int32)), (.int (101 : Int32)), (.int (47 : Int32))]) (z := (6 : Int32)) ⟨by decide, rfl⟩ (by decide) rfl (g := (mkF m 135 #[.val (.int p0), .val (.int p1), .val (.int p2), .val (.ref r2), .val (.ref r4), .val (.ref r8), .val (.ref r12), .val (.int zz2), .val (.int zz4), .val (.int zz8)] [(.int (((10 : Int32) + zz2) + zz4)), (.ref r12)])) rfl (hb hby at_135) (n := 24) (by decide) (by decide) (by decide) (by decide)
  have hZ := hZ77
  have hown := hown77
  have CRl77 := CRl60.trans hC77
  have CHl77 := CRl77.1
  have F79 := (F62.ext E77)
  have F80 := (F63.ext E77)
  have F81 := (F64.ext E77)
  have F82 := (F65.ext E77)
  have K83 : Keep h0 h77 [] := (K66.ext E77)
  have O84 : Old Z n0 h77 := (O67.ext E77)
  have ho85b := own_add ((10 : Int32) + zz2) zz4 (by rw [own_add (10 : Int32) zz2 (by omega)]; omega)
  have ho85a := own_add (10 : Int32) zz2 (by omega)
  have ho85A : ([(.int (97 : Int32)), (.int (114 : Int32)), (.int (110 : Int32)), (.int (58 : Int32))] ++ (vv2 ++ ([(.int (58 : Int32)), (.int (105 : Int32)), (.int (97 : Int32)), (.int (109 : Int32)), (.int (58 : Int32)), (.int (58 : Int32))] ++ vv4)) : List Value).length = ((((10 : Int32) + zz2) + zz4)).toNatClampNeg := own_lenA (by omega) (by simp only [List.length_append, List.length_cons, List.length_nil, hl2, hl4, hl8]; omega)
  have ho85m : ∀ j : Nat, j < ((6 : Int32)).toNatClampNeg → vv12.getD (((((10 : Int32) + zz2) + zz4)).toNatClampNeg + j) (.int (0 : Int32)) = ([(.int (58 : Int32)), (.int (114 : Int32)), (.int (111 : Int32)), (.int (108 : Int32)), (.int (101 : Int32)), (.int (47 : Int32))] : List Value).getD j (.int (0 : Int32)) := own_part (A := [(.int (97 : Int32)), (.int (114 : Int32)), (.int (110 : Int32)), (.int (58 : Int32))] ++ (vv2 ++ ([(.int (58 : Int32)), (.int (105 : Int32)), (.int (97 : Int32)), (.int (109 : Int32)), (.int (58 : Int32)), (.int (58 : Int32))] ++ vv4))) (B := vv8) (by first | (rw [hv12]; done) | (rw [hv12]; simp only [List.append_assoc, List.nil_append, List.cons_append, List.append_nil])) ho85A (by decide)
  obtain ⟨_, _, ⟨T78, L78, kk78, n78⟩, -, X78, ⟨Lc78, hQ78, l78, y78, z78⟩, st78⟩ := Jvm.LawKit.callS X77 hx (y := (⟨"com/example/issuer/issuer/identity/CallerRoleArnPinLaw", "lit", "(Ljava/lang/String;ILjava/lang/String;)Z"⟩ : MethodName)) hown (mvT hZ (hw _ (List.mem_of_getElem? (i := 178) rfl))) (mvT hZ (hw _ (List.mem_of_getElem? (i := 179) rfl))) (mvT hZ (hw _ (List.mem_of_getElem? (i := 2) rfl))) (mvT hZ (hw _ (List.mem_of_getElem? (i := 180) rfl))) (by decide) (backOf (W := 0) (rm35 l Z a0 hw [] r12 (((10 : Int32) + zz2) + zz4) b77 rb12 kb12 zz12 vv12 bb77 kb77 (6 : Int32) [(.int (58 : Int32)), (.int (114 : Int32)), (.int (111 : Int32)), (.int (108 : Int32)), (.int (101 : Int32)), (.int (47 : Int32))] cs fo h77 n0 (Nat.le_trans Z0 K83.1) F79 F80 F81 F82 hl12 Ex77 Fc77 Fv77 V77 (by decide) SC hcs O84 SF hfo (by omega) (by omega) ho85m) hZ (hw _ (List.mem_of_getElem? (i := 180) rfl)) (hw _ (List.mem_of_getElem? (i := 2) rfl)) (by decide) (by decide)) (g := (mkF m 137 #[.val (.int p0), .val (.int p1), .val (.int p2), .val (.ref r2), .val (.ref r4), .val (.ref r8), .val (.ref r12), .val (.int zz2), .val (.int zz4), .val (.int zz8)] [(.ref b77), (.int (((10 : Int32) + zz2) + zz4)), (.ref r12)])) rfl (by rw [hml]; rfl) (argsL := [(.ref r12), (.int (((10 : Int32) + zz2) + zz4)), (.ref b77)]) (rest := []) (lenOf own_pd24 rfl) rfl (by show 2 * 0 + _ ≤ _; exact Nat.le_of_eq rfl) (hb hby at_137) (fun _ _ => ⟨rfl, e77, (by decide : 45 + 0 ≤ _), (by decide : 350 + 0 ≤ _)⟩)
  dsimp only [Pt.U, Pt.locs, Pt.cells, Pt.slots] at X78 l78 y78 z78 st78 hQ78
  subst l78 y78 z78
  obtain ⟨rfl, N78q, e78⟩ := hQ78
  have N78 := Fr.app N69 N78q
  have F87 := (((F36.ext E44).ext E60).ext E77)
  have F88 := (((F37.ext E44).ext E60).ext E77)
  have F89 := (((F38.ext E44).ext E60).ext E77)
  have F90 := (((F39.ext E44).ext E60).ext E77)
  have ho91b := own_add ((16 : Int32) + zz2) zz4 (by rw [own_add (16 : Int32) zz2 (by omega)]; omega)
  have ho91a := own_add (16 : Int32) zz2 (by omega)
  have ho91A : ([(.int (97 : Int32)), (.int (114 : Int32)), (.int (110 : Int32)), (.int (58 : Int32))] ++ (vv2 ++ ([(.int (58 : Int32)), (.int (105 : Int32)), (.int (97 : Int32)), (.int (109 : Int32)), (.int (58 : Int32)), (.int (58 : Int32))] ++ (vv4 ++ [(.int (58 : Int32)), (.int (114 : Int32)), (.int (111 : Int32)), (.int (108 : Int32)), (.int (101 : Int32)), (.int (47 : Int32))]))) : List Value).length = ((((16 : Int32) + zz2) + zz4)).toNatClampNeg := own_lenA (by omega) (by simp only [List.length_append, List.length_cons, List.length_nil, hl2, hl4, hl8]; omega)
  have ho91m : ∀ j : Nat, j < (zz8).toNatClampNeg → vv12.getD (((((16 : Int32) + zz2) + zz4)).toNatClampNeg + j) (.int (0 : Int32)) = (vv8 : List Value).getD j (.int (0 : Int32)) := own_part (A := [(.int (97 : Int32)), (.int (114 : Int32)), (.int (110 : Int32)), (.int (58 : Int32))] ++ (vv2 ++ ([(.int (58 : Int32)), (.int (105 : Int32)), (.int (97 : Int32)), (.int (109 : Int32)), (.int (58 : Int32)), (.int (58 : Int32))] ++ (vv4 ++ [(.int (58 : Int32)), (.int (114 : Int32)), (.int (111 : Int32)), (.int (108 : Int32)), (.int (101 : Int32)), (.int (47 : Int32))])))) (B := []) (by first | (rw [hv12]; done) | (rw [hv12]; simp only [List.append_assoc, List.nil_append, List.cons_append, List.append_nil])) ho91A hl8
  obtain ⟨_, _, ⟨T86, L86, kk86, n86⟩, -, X86, ⟨Lc86, hQ86, l86, y86, z86⟩, st86⟩ := Jvm.LawKit.callS X78 hx (y := (⟨"com/example/issuer/issuer/identity/CallerRoleArnPinLaw", "lit", "(Ljava/lang/String;ILjava/lang/String;)Z"⟩ : MethodName)) hown (mvT hZ (hw _ (List.mem_of_getElem? (i := 178) rfl))) (mvT hZ (hw _ (List.mem_of_getElem? (i := 179) rfl))) (mvT hZ (hw _ (List.mem_of_getElem? (i := 2) rfl))) (mvT hZ (hw _ (List.mem_of_getElem? (i := 180) rfl))) (by decide) (backOf (W := 0) (rm35 l Z a0 hw [] r12 (((16 : Int32) + zz2) + zz4) r8 rb12 kb12 zz12 vv12 rb8 kb8 zz8 vv8 cs fo h77 n0 (Nat.le_trans Z0 K83.1) F79 F80 F81 F82 hl12 F87 F88 F89 F90 hl8 SC hcs O84 SF hfo (by omega) (by omega) ho91m) hZ (hw _ (List.mem_of_getElem? (i := 180) rfl)) (hw _ (List.mem_of_getElem? (i := 2) rfl)) (by decide) (by decide)) (g := (mkF m 155 #[.val (.int p0), .val (.int p1), .val (.int p2), .val (.ref r2), .val (.ref r4), .val (.ref r8), .val (.ref r12), .val (.int zz2), .val (.int zz4), .val (.int zz8)] [(.ref r8), (.int (((16 : Int32) + zz2) + zz4)), (.ref r12)])) rfl (by rw [hml]; rfl) (argsL := [(.ref r12), (.int (((16 : Int32) + zz2) + zz4)), (.ref r8)]) (rest := []) (lenOf own_pd24 rfl) rfl (by show 2 * 0 + _ ≤ _; exact Nat.le_of_eq rfl) (hb hby at_155) (fun _ _ => ⟨rfl, e78, (by decide : 45 + 0 ≤ _), (by decide : 350 + 0 ≤ _)⟩)
  dsimp only [Pt.U, Pt.locs, Pt.cells, Pt.slots] at X86 l86 y86 z86 st86 hQ86
  subst l86 y86 z86
  obtain ⟨rfl, N86q, e86⟩ := hQ86
  have N86 := Fr.app N78 N86q
  have k92 : own_To p e below T86 (mkF m 161 #[.val (.int p0), .val (.int p1), .val (.int p2), .val (.ref r2), .val (.ref r4), .val (.ref r8), .val (.ref r12), .val (.int zz2), .val (.int zz4), .val (.int zz8)] []) s₁ (mkF m 0 #[.val (.int p0), .val (.int p1), .val (.int p2), .unset, .unset, .unset, .unset, .unset, .unset, .unset] []) := fun t q => k76 t (by
    refine st77 _ ?_
    show Steps p.tables e below (T77.setTop (mkF m 137 #[.val (.int p0), .val (.int p1), .val (.int p2), .val (.ref r2), .val (.ref r4), .val (.ref r8), .val (.ref r12), .val (.int zz2), .val (.int zz4), .val (.int zz8)] [(.ref b77), (.int (((10 : Int32) + zz2) + zz4)), (.ref r12)])) _
    refine st78 _ ?_
    show Steps p.tables e below (T78.setTop (mkF m 140 #[.val (.int p0), .val (.int p1), .val (.int p2), .val (.ref r2), .val (.ref r4), .val (.ref r8), .val (.ref r12), .val (.int zz2), .val (.int zz4), .val (.int zz8)] [(.int (1 : Int32))])) _
    refine XS.ifNo X78.here hx rfl (hb hby at_140) rfl ((if0 _ _).trans (feq (by decide)).1) ?_
    show Steps p.tables e below (T78.setTop (mkF m 143 #[.val (.int p0), .val (.int p1), .val (.int p2), .val (.ref r2), .val (.ref r4), .val (.ref r8), .val (.ref r12), .val (.int zz2), .val (.int zz4), .val (.int zz8)] [])) _
    refine XS.aload X78.here hx rfl (hb hby at_143) rfl rfl ?_
    show Steps p.tables e below (T78.setTop (mkF m 145 #[.val (.int p0), .val (.int p1), .val (.int p2), .val (.ref r2), .val (.ref r4), .val (.ref r8), .val (.ref r12), .val (.int zz2), .val (.int zz4), .val (.int zz8)] [(.ref r12)])) _
    refine XS.bipush X78.here hx rfl (hb hby at_145) ?_
    show Steps p.tables e below (T78.setTop (mkF m 147 #[.val (.int p0), .val (.int p1), .val (.int p2), .val (.ref r2), .val (.ref r4), .val (.ref r8), .val (.ref r12), .val (.int zz2), .val (.int zz4), .val (.int zz8)] [(.int (16 : Int32)), (.ref r12)])) _
    refine XS.iload X78.here hx rfl (hb hby at_147) rfl ?_
    show Steps p.tables e below (T78.setTop (mkF m 149 #[.val (.int p0), .val (.int p1), .val (.int p2), .val (.ref r2), .val (.ref r4), .val (.ref r8), .val (.ref r12), .val (.int zz2), .val (.int zz4), .val (.int zz8)] [(.int zz2), (.int (16 : Int32)), (.ref r12)])) _
    refine XS.iadd X78.here hx rfl (hb hby at_149) rfl ?_
    show Steps p.tables e below (T78.setTop (mkF m 150 #[.val (.int p0), .val (.int p1), .val (.int p2), .val (.ref r2), .val (.ref r4), .val (.ref r8), .val (.ref r12), .val (.int zz2), .val (.int zz4), .val (.int zz8)] [(.int ((16 : Int32) + zz2)), (.ref r12)])) _
    refine XS.iload X78.here hx rfl (hb hby at_150) rfl ?_
    show Steps p.tables e below (T78.setTop (mkF m 152 #[.val (.int p0), .val (.int p1), .val (.int p2), .val (.ref r2), .val (.ref r4), .val (.ref r8), .val (.ref r12), .val (.int zz2), .val (.int zz4), .val (.int zz8)] [(.int zz4), (.int ((16 : Int32) + zz2)), (.ref r12)])) _
    refine XS.iadd X78.here hx rfl (hb hby at_152) rfl ?_
    show Steps p.tables e below (T78.setTop (mkF m 153 #[.val (.int p0), .val (.int p1), .val (.int p2), .val (.ref r2), .val (.ref r4), .val (.ref r8), .val (.ref r12), .val (.int zz2), .val (.int zz4), .val (.int zz8)] [(.int (((16 : Int32) + zz2) + zz4)), (.ref r12)])) _
    refine XS.aload X78.here hx rfl (hb hby at_153) rfl rfl ?_
    show Steps p.tables e below (T78.setTop (mkF m 155 #[.val (.int p0), .val (.int p1), .val (.int p2), .val (.ref r2), .val (.ref r4), .val (.ref r8), .val (.ref r12), .val (.int zz2), .val (.int zz4), .val (.int zz8)] [(.ref r8), (.int (((16 : Int32) + zz2) + zz4)), (.ref r12)])) _
    refine st86 _ ?_
    show Steps p.tables e below (T86.setTop (mkF m 158 #[.val (.int p0), .val (.int p1), .val (.int p2), .val (.ref r2), .val (.ref r4), .val (.ref r8), .val (.ref r12), .val (.int zz2), .val (.int zz4), .val (.int zz8)] [(.int (1 : Int32))])) _
    refine XS.ifNo X86.here hx rfl (hb hby at_158) rfl ((if0 _ _).trans (feq (by decide)).1) ?_
    show Steps p.tables e below (T86.setTop (mkF m 161 #[.val (.int p0), .val (.int p1), .val (.int p2), .val (.ref r2), .val (.ref r4), .val (.ref r8), .val (.ref r12), .val (.int zz2), .val (.int zz4), .val (.int zz8)] [])) _
    exact q)
  have k93 : own_To p e below T86 (mkF m 166 #[.val (.int p0), .val (.int p1), .val (.int p2), .val (.ref r2), .val (.ref r4), .val (.ref r8), .val (.ref r12), .val (.int zz2), .val (.int zz4), .val (.int zz8)] [(.int (1 : Int32))]) s₁ (mkF m 0 #[.val (.int p0), .val (.int p1), .val (.int p2), .unset, .unset, .unset, .unset, .unset, .unset, .unset] []) := fun t q => k92 t (by
    refine XS.iconst X86.here hx rfl (hb hby at_161) ?_
    show Steps p.tables e below (T86.setTop (mkF m 162 #[.val (.int p0), .val (.int p1), .val (.int p2), .val (.ref r2), .val (.ref r4), .val (.ref r8), .val (.ref r12), .val (.int zz2), .val (.int zz4), .val (.int zz8)] [(.int (1 : Int32))])) _
    refine XS.goto X86.here hx rfl (pc0 := 162) (pc' := 166) rfl (hb hby at_162) (by decide) (by decide) ?_
    show Steps p.tables e below (T86.setTop (mkF m 166 #[.val (.int p0), .val (.int p1), .val (.int p2), .val (.ref r2), .val (.ref r4), .val (.ref r8), .val (.ref r12), .val (.int zz2), .val (.int zz4), .val (.int zz8)] [(.int (1 : Int32))])) _
    exact q)
  have hCe := CRl77.trans (CHv.at (vm0 := T77.vm) X86 hZ hEL CHl77)
  obtain ⟨fs, hr, hrun, hended, hEnd⟩ := Stand.leaveW (s := s) (vm₁ := T77.vm) X86 hS77 (by rw [e86]; exact hk77) (v := some (.int (1 : Int32))) (fun h => by rw [Bd.returns] at h; cases h)
  refine ⟨_, _, k0 _ (k93 _ ?_), hrun, hended, _, _, rfl, ?_, ?_, hEnd.1, hEnd.2.1, hEnd.2.2.1, hEnd.2.2.2.mono (by decide) (by decide)⟩
  · show Steps p.tables e below (T86.setTop (mkF m 166 #[.val (.int p0), .val (.int p1), .val (.int p2), .val (.ref r2), .val (.ref r4), .val (.ref r8), .val (.ref r12), .val (.int zz2), .val (.int zz4), .val (.int zz8)] [(.int (1 : Int32))])) _
    exact retN X86 hx (t := .boolean) Bd.returns (by simp) (hb hby at_166) hr
  · show Q0 Z p0 p1 p2 cs fo h0 n0 _ T86.heap _
    rw [e86]
    exact ⟨rfl, N86⟩
  · show CHr Z own_EL s.vm s.heap T86.vm T86.heap
    rw [hh, e86]; exact hCe
set_option maxRecDepth 65536 in
set_option maxHeartbeats 40000000 in
theorem comes_1 {Post : Tables → Env → Array Value → State → Outcome → State → Prop} (hpost : ∀ tb e args s v u, (limb_1_1.after args s (.returned v) u = true ∧ limb_1_2.after args s (.returned v) u = true ∧ True) → ReturnedEndW s (.returned v) u (Jvm.fieldLocs frame_1_writes args s ++ Jvm.arrayLocs frame_1_arrays args s ++ Jvm.staticLocs frame_1_statics s) 64 9600 → Post tb e args s (.returned v) u) :
    ArmFor flags0 classFile x code maxLocals ret World_1 tables_1 room_1 Calls_1 rest_1 Pre_1 Post := by
  intro l hfl _ _ p e ha hc hk s m args below hf hA hF happ hP
  obtain ⟨hcalls, hrest, hpre⟩ := hP
  obtain ⟨-, -, -, hnamed, -, -, -, hat⟩ := (Spec.applies_iff hf).mp happ
  obtain ⟨hg, hn⟩ := and_e (Cond.before_iff.mp (show (Jvm.Cond.and given_1 narrow_1).before args s = true from hpre))
  obtain ⟨hgc, hg0⟩ := and_e hg
  obtain ⟨ga0, hg1⟩ := and_e hg0
  obtain ⟨ga1, hg2⟩ := and_e hg1
  obtain ⟨w0, w1, w2, rfl⟩ : ∃ w0 w1 w2 : Value, args = #[w0, w1, w2] := by
    have hs : args.size = 3 := by simpa [Cond.value, given_1] using hgc
    obtain ⟨L⟩ := args
    match L, hs with
    | [w0, w1, w2], _ => exact ⟨w0, w1, w2, rfl⟩
  have hw := fun d (hd : d ∈ tables_1) => atoms_spec (ws := Jvm.Cond.code x code maxLocals ret :: tables_1) hat d (List.mem_cons_of_mem _ hd)
  have hfit : Fit s := fun {y c} hc i hi => by
    obtain ⟨ha, rfl⟩ := Array.getElem?_eq_some_iff.mp hc
    have q := List.all_eq_true.mp ((Array.all_eq_true_iff_forall_mem.mp hF) _ (Array.getElem_mem ha)) i (List.mem_range.mpr hi)
    simpa [Array.getElem?_eq_getElem hi] using q
  obtain ⟨hsets, hown0⟩ := atoms_of _ (rest_1_c_eq ▸ (show rest_1_c.before _ s = true from hrest))
  have hr0 := Cond.before_iff.mp hown0
  obtain ⟨i0, ei0⟩ := is_v ga0
  obtain rfl : w0 = (.int i0) := Option.some.inj ei0
  obtain ⟨i1, ei1⟩ := is_v ga1
  obtain rfl : w1 = (.int i1) := Option.some.inj ei1
  obtain ⟨i2, ei2⟩ := is_v hg2
  obtain rfl : w2 = (.int i2) := Option.some.inj ei2
  obtain ⟨cs, ecs⟩ := is_v (Cond.before_iff.mp (hsets _ (List.mem_of_getElem? (i := 1) rfl)))
  have SC := Sta.start ecs (Or.inl (hsets _ (List.mem_of_getElem? (i := 0) rfl)))
  have hcs : ¬ cs = (0 : Int32) := gotF (Cond.eq_ints ecs (Term.int_eval 0)) (by have q := not_v (Cond.before_iff.mp (hsets _ (List.mem_of_getElem? (i := 2) rfl))); exact q)
  obtain ⟨fo, efo, hfr⟩ := isR_v (Cond.before_iff.mp (hsets _ (List.mem_of_getElem? (i := 8) rfl)))
  have SF := Sta.start efo (Or.inl (hsets _ (List.mem_of_getElem? (i := 7) rfl)))
  have hfo : fo = .null ∨ ∃ f, fo = .ref f := by cases fo <;> simp [Value.isRef] at hfr <;> simp
  have hEL := own_EW s _ hw
  have hCH : CHv s own_EL s.vm s.heap := CHv.start hEL (fun p hp => hcalls.1 p hp) (hsets _ (List.mem_of_getElem? (i := 2) rfl)) (hw _ (List.mem_of_getElem? (i := 19) rfl)) (hw _ (List.mem_of_getElem? (i := 5) rfl))
  obtain ⟨n, o, h1, h2, h3, _, L, rfl, ⟨rfl, N⟩, -, hq⟩ := rm0 l s _ hw tables_1 i0 i1 i2 cs fo s.heap s.heap.size (Nat.le_refl _) SC hcs (Old.start s) SF hfo hEL p e ha hc hk s m _ below hf ((Spec.applies_iff_loose hf).mp happ).1 ⟨rfl, State.Warmed39.refl s, rfl, hCH⟩ trivial
  refine ⟨n, _, h1, h2, h3, hpost _ _ _ _ _ _ ⟨Cond.after_iff.mpr rfl, Cond.after_iff.mpr (eq_i res_at (Term.int_eval (1)) rfl), trivial⟩ ⟨hq.1, hq.2.1, hq.2.2.1, (hq.2.2.2.sift fun y hy => Or.inr (N y hy)).mono (by decide) (by decide)⟩⟩
theorem main_1_1 : Claimed_1_1 := comes_1 fun _ _ _ _ _ _ h hF => ⟨h.1, hF⟩
theorem main_1_2 : Claimed_1_2 := comes_1 fun _ _ _ _ _ _ h hF => ⟨h.2.1, hF⟩
end Jvm.Pilot.@@N@@
namespace Jvm.Pilot.@@N@@
open Jvm Jvm.ClassFile Sem Op Lib Jvm.Free Jvm.Stand Jvm.Pilot.@@N@@.Jvm.D
/-! MADE BY PROGRAM (witnessworld.py) out of the Statement's table words and the real class files: 26 classes; the members and pool entries that the words name. The judged class is class 1, her method 1. -/
namespace start1
open Jvm.ClassFile
def u (s : String) : CpInfo := .utf8 (stringToUtf16 s)
/-- a pool by its gaps: so many unusable entries, then the entry; so many at the end -/
def gap : Nat → List CpInfo → List CpInfo
  | 0, r => r
  | n + 1, r => .unusable :: gap n r
def poolList (es : List (Nat × CpInfo)) (last : Nat) : List CpInfo := es.foldr (fun e r => gap e.1 (e.2 :: r)) (gap last [])
def pool (es : List (Nat × CpInfo)) (last : Nat) : Array CpInfo := ⟨poolList es last⟩
def fileOf (pool : Array CpInfo) (this : Nat) (attrs : Array Attribute := #[]) (ms : Array MethodInfo := #[]) (fl : Nat := 33) (sup : Nat := 0) (ifs : Array Nat := #[]) (fds : Array FieldInfo := #[]) : ClassFile where
  minorVersion := 0
  majorVersion := 65
  constantPool := pool
  accessFlags := fl
  thisClass := this
  superClass := sup
  interfaces := ifs
  fields := fds
  methods := ms
  attributes := attrs
def plain (name : String) (sup : Option ClassId) : Class where
  name := name
  kind := .ordinary
  loader := none
  accessFlags := 33
  super := sup
  interfaces := #[]
  cf := none
  fields := #[]
  methods := #[]
  instanceTypes := #[]
  staticTypes := #[]
  resolved := #[]
  callSites := []
  init := .initialized
  statics := none
  mirror := none

def pool0 : Array CpInfo := pool [(5, u "<init>"), (0, u "()V"), (1, .class_ 10), (1, u "java/lang/Object"), (85, u "clone"), (0, u "()Ljava/lang/Object;")] 26

def k0c0 : Code := { maxStack := 0, maxLocals := 1, code := object_method_1_code, exceptionTable := #[], attributes := #[] }
def k0m0 : Method := { name := "<init>", desc := "()V", sig := { parameters := [], returnType := none }, accessFlags := 1, code := some k0c0 }
def k0m1 : Method := { name := "clone", desc := "()Ljava/lang/Object;", sig := { parameters := [], returnType := some (.object "java/lang/Object") }, accessFlags := 260, code := none }
/-- java/lang/Object -/
def k0 : Class := { plain "java/lang/Object" none with
  accessFlags := 33
  interfaces := #[]
  cf := some (fileOf pool0 8 #[] #[{ accessFlags := 1, nameIndex := 5, descriptorIndex := 6, attributes := #[] }, { accessFlags := 260, nameIndex := 96, descriptorIndex := 97, attributes := #[] }] 33 0 #[] #[])
  fields := #[]
  methods := #[k0m0, k0m1]
  instanceTypes := #[]
  staticTypes := #[]
  resolved := Array.replicate 124 none
  statics := none }

def pool1 : Array CpInfo := pool [(2, .class_ 4), (1, u "java/lang/Object"), (0, u "<init>"), (0, u "()V"), (0, .methodref 8 9), (0, .class_ 10), (0, .nameAndType 11 12), (0, u "com/example/issuer/issuer/identity/CallerRoleArnPinLaw"), (0, u "mk"), (0, u "(I)Ljava/lang/String;"), (0, .methodref 14 15), (0, .class_ 16), (0, .nameAndType 17 18), (0, u "com/example/issuer/issuer/identity/Caller"), (0, u "roleArn"), (0, u "(Ljava/lang/String;Ljava/lang/String;Ljava/lang/String;)Ljava/lang/String;"), (0, .methodref 20 21), (0, .class_ 22), (0, .nameAndType 23 24), (0, u "java/lang/String"), (0, u "length"), (0, u "()I"), (0, .string 26), (0, u "arn:"), (0, .methodref 8 28), (0, .nameAndType 29 30), (0, u "lit"), (0, u "(Ljava/lang/String;ILjava/lang/String;)Z"), (0, .string 32), (0, u ":iam::"), (0, .string 34), (0, u ":role/"), (0, .methodref 20 36), (0, .nameAndType 5 37), (0, u "([C)V"), (0, .methodref 20 39), (0, .nameAndType 40 41), (0, u "valueOf"), (0, u "(C)Ljava/lang/String;"), (0, .methodref 20 43), (0, .nameAndType 44 45), (0, u "charAt"), (0, u "(I)C"), (2, u "law"), (0, u "(III)Z")] 3

def k1m0 : Method := { name := "<init>", desc := "()V", sig := { parameters := [], returnType := none }, accessFlags := 1, code := none }
def k1c1 : Code := { maxStack := 3, maxLocals := 10, code := code, exceptionTable := #[], attributes := #[] }
def k1m1 : Method := { name := "law", desc := "(III)Z", sig := { parameters := [.int, .int, .int], returnType := some .boolean }, accessFlags := 9, code := some k1c1 }
def k1c2 : Code := { maxStack := 6, maxLocals := 4, code := method_3_code, exceptionTable := #[], attributes := #[] }
def k1m2 : Method := { name := "mk", desc := "(I)Ljava/lang/String;", sig := { parameters := [.int], returnType := some (.object "java/lang/String") }, accessFlags := 10, code := some k1c2 }
def k1c3 : Code := { maxStack := 3, maxLocals := 4, code := method_4_code, exceptionTable := #[], attributes := #[] }
def k1m3 : Method := { name := "lit", desc := "(Ljava/lang/String;ILjava/lang/String;)Z", sig := { parameters := [(.object "java/lang/String"), .int, (.object "java/lang/String")], returnType := some .boolean }, accessFlags := 10, code := some k1c3 }
/-- com/example/issuer/issuer/identity/CallerRoleArnPinLaw -/
def k1 : Class := { plain "com/example/issuer/issuer/identity/CallerRoleArnPinLaw" (some 0) with
  accessFlags := 49
  interfaces := #[]
  cf := some (fileOf pool1 8 #[] #[{ accessFlags := 1, nameIndex := 5, descriptorIndex := 6, attributes := #[] }, { accessFlags := 9, nameIndex := 48, descriptorIndex := 49, attributes := #[] }, { accessFlags := 10, nameIndex := 11, descriptorIndex := 12, attributes := #[] }, { accessFlags := 10, nameIndex := 29, descriptorIndex := 30, attributes := #[] }] 49 2 #[] #[])
  fields := #[]
  methods := #[k1m0, k1m1, k1m2, k1m3]
  instanceTypes := #[]
  staticTypes := #[]
  resolved := Array.replicate 53 none
  statics := none }

def pool2 : Array CpInfo := pool [(1, .class_ 2), (0, u "java/io/Serializable"), (0, .class_ 4), (0, u "java/lang/Object")] 2

/-- java/io/Serializable -/
def k2 : Class := { plain "java/io/Serializable" (some 0) with
  accessFlags := 1537
  interfaces := #[]
  cf := some (fileOf pool2 1 #[] #[] 1537 3 #[] #[])
  fields := #[]
  methods := #[]
  instanceTypes := #[]
  staticTypes := #[]
  resolved := Array.replicate 7 none
  statics := none }

def pool3 : Array CpInfo := pool [(1, .class_ 2), (0, u "java/lang/Comparable"), (0, .class_ 4), (0, u "java/lang/Object")] 7

/-- java/lang/Comparable -/
def k3 : Class := { plain "java/lang/Comparable" (some 0) with
  accessFlags := 1537
  interfaces := #[]
  cf := some (fileOf pool3 1 #[] #[] 1537 3 #[] #[])
  fields := #[]
  methods := #[]
  instanceTypes := #[]
  staticTypes := #[]
  resolved := Array.replicate 12 none
  statics := none }

def pool4 : Array CpInfo := pool [(2, .class_ 4), (1, u "java/lang/CharSequence"), (42, .class_ 48), (0, u "java/lang/CharSequence$1CodePointIterator"), (10, .class_ 60), (0, u "java/lang/CharSequence$1CharIterator"), (5, .class_ 67), (0, u "java/lang/Object")] 63

/-- java/lang/CharSequence -/
def k4 : Class := { plain "java/lang/CharSequence" (some 0) with
  accessFlags := 1537
  interfaces := #[]
  cf := some (fileOf pool4 2 #[.nestMembers #[47, 59]] #[] 1537 66 #[] #[])
  fields := #[]
  methods := #[]
  instanceTypes := #[]
  staticTypes := #[]
  resolved := Array.replicate 131 none
  statics := none }

def pool5 : Array CpInfo := pool [(1, .class_ 2), (0, u "java/lang/constant/Constable"), (0, .class_ 4), (0, u "java/lang/Object")] 6

/-- java/lang/constant/Constable -/
def k5 : Class := { plain "java/lang/constant/Constable" (some 0) with
  accessFlags := 1537
  interfaces := #[]
  cf := some (fileOf pool5 1 #[] #[] 1537 3 #[] #[])
  fields := #[]
  methods := #[]
  instanceTypes := #[]
  staticTypes := #[]
  resolved := Array.replicate 11 none
  statics := none }

def pool6 : Array CpInfo := pool [(1, .class_ 2), (0, u "java/lang/constant/ConstantDesc"), (0, .class_ 4), (0, u "java/lang/Object")] 32

/-- java/lang/constant/ConstantDesc -/
def k6 : Class := { plain "java/lang/constant/ConstantDesc" (some 0) with
  accessFlags := 1537
  interfaces := #[]
  cf := some (fileOf pool6 1 #[] #[] 1537 3 #[] #[])
  fields := #[]
  methods := #[]
  instanceTypes := #[]
  staticTypes := #[]
  resolved := Array.replicate 37 none
  statics := none }

def pool7 : Array CpInfo := pool [(1, .methodref 2 3), (0, .class_ 4), (0, .nameAndType 5 6), (0, u "java/lang/Object"), (0, u "<init>"), (0, u "()V"), (0, .string 8), (0, u ""), (0, .fieldref 10 11), (0, .class_ 12), (0, .nameAndType 13 14), (0, u "java/lang/String"), (0, u "value"), (0, u "[B"), (0, .fieldref 10 16), (0, .nameAndType 17 18), (0, u "coder"), (0, u "B"), (2, u "hash"), (0, u "I"), (2, u "hashIsZero"), (0, u "Z"), (0, .methodref 10 28), (0, .nameAndType 5 29), (0, u "([CIILjava/lang/Void;)V"), (8, .fieldref 10 39), (0, .nameAndType 40 26), (0, u "COMPACT_STRINGS"), (1, .class_ 44), (1, u "java/lang/StringUTF16"), (0, u "compress"), (1, .methodref 42 48), (0, .nameAndType 49 50), (0, u "coderFromArrayLen"), (0, u "([BI)B"), (2, u "toBytes"), (0, .methodref 55 56), (0, .class_ 57), (0, .nameAndType 58 59), (0, u "java/util/Arrays"), (0, u "copyOfRange"), (0, u "([BII)[B"), (47, .class_ 109), (1, u "java/lang/StringLatin1"), (32, u "()Z"), (34, .methodref 42 178), (0, .nameAndType 45 179), (0, u "([CII)[B"), (13, .class_ 195), (1, u "java/lang/System"), (13, .methodref 10 210), (0, .nameAndType 5 211), (0, u "([BB)V"), (0, .methodref 193 213), (0, .nameAndType 214 215), (0, u "arraycopy"), (0, u "(Ljava/lang/Object;ILjava/lang/Object;II)V"), (118, u "()I"), (0, .methodref 10 336), (0, .nameAndType 17 337), (0, u "()B"), (2, u "()[B"), (22, u "([BI)C"), (5, u "(C)Z"), (21, u "(II)V"), (35, u "(I)C"), (61, .methodref 10 490), (0, .nameAndType 5 491), (0, u "(Ljava/lang/AbstractStringBuilder;Ljava/lang/Void;)V"), (0, .methodref 10 493), (0, .nameAndType 494 142), (0, u "isLatin1"), (0, .methodref 107 496), (0, .nameAndType 497 363), (0, u "charAt"), (3, u "checkIndex"), (4, .nameAndType 507 334), (0, u "length"), (24, u "getBytes"), (16, .methodref 550 506), (0, .class_ 551), (0, u "java/lang/AbstractStringBuilder"), (0, .methodref 550 553), (0, .nameAndType 554 340), (0, u "getValue"), (20, .class_ 576), (0, u "java/lang/CharSequence"), (22, u "CASE_INSENSITIVE_ORDER"), (0, u "Ljava/util/Comparator;"), (181, u "valueOf"), (0, u "(C)Ljava/lang/String;"), (37, u "([BIB)V"), (188, u "([C)V"), (4, .methodref 107 1016), (0, .nameAndType 1017 369), (0, u "canEncode"), (0, .methodref 107 1019), (0, .nameAndType 53 1020), (0, u "(C)[B"), (26, .methodref 550 493), (5, .fieldref 1054 1055), (0, .class_ 1056), (0, .nameAndType 1057 1058), (0, u "jdk/internal/util/Preconditions"), (0, u "SIOOBE_FORMATTER"), (0, u "Ljava/util/function/BiFunction;"), (0, .methodref 1054 1060), (0, .nameAndType 501 1061), (0, u "(IILjava/util/function/BiFunction;)I"), (39, u "serialPersistentFields"), (0, u "[Ljava/io/ObjectStreamField;"), (0, .class_ 1104), (0, u "java/lang/String$CaseInsensitiveComparator"), (1, .class_ 1107), (0, u "java/io/Serializable"), (0, .class_ 1109), (0, u "java/lang/Comparable"), (0, .class_ 1111), (0, u "java/lang/constant/Constable"), (0, .class_ 1113), (0, u "java/lang/constant/ConstantDesc"), (2, u "serialVersionUID"), (0, u "J"), (3, u "REPL"), (0, u "C"), (2, u "LATIN1"), (1, u "UTF16"), (105, u "(Ljava/lang/StringBuilder;)V")] 217

def k7m0 : Method := { name := "<init>", desc := "()V", sig := { parameters := [], returnType := none }, accessFlags := 1, code := none }
def k7c1 : Code := { maxStack := 5, maxLocals := 2, code := jdk_42_method_3_code, exceptionTable := #[], attributes := #[] }
def k7m1 : Method := { name := "<init>", desc := "([C)V", sig := { parameters := [(.array .char)], returnType := none }, accessFlags := 1, code := some k7c1 }
def k7c2 : Code := { maxStack := 3, maxLocals := 2, code := jdk_42_method_53_code, exceptionTable := #[], attributes := #[] }
def k7m2 : Method := { name := "<init>", desc := "(Ljava/lang/StringBuilder;)V", sig := { parameters := [(.object "java/lang/StringBuilder")], returnType := none }, accessFlags := 1, code := some k7c2 }
def k7c3 : Code := { maxStack := 2, maxLocals := 1, code := jdk_42_method_54_code, exceptionTable := #[], attributes := #[] }
def k7m3 : Method := { name := "length", desc := "()I", sig := { parameters := [], returnType := some .int }, accessFlags := 1, code := some k7c3 }
def k7c4 : Code := { maxStack := 2, maxLocals := 2, code := jdk_42_method_56_code, exceptionTable := #[], attributes := #[] }
def k7m4 : Method := { name := "charAt", desc := "(I)C", sig := { parameters := [.int], returnType := some .char }, accessFlags := 1, code := some k7c4 }
def k7c5 : Code := { maxStack := 4, maxLocals := 1, code := jdk_42_method_139_code, exceptionTable := #[], attributes := #[] }
def k7m5 : Method := { name := "valueOf", desc := "(C)Ljava/lang/String;", sig := { parameters := [.char], returnType := some (.object "java/lang/String") }, accessFlags := 9, code := some k7c5 }
def k7c6 : Code := { maxStack := 5, maxLocals := 4, code := jdk_42_method_147_code, exceptionTable := #[], attributes := #[] }
def k7m6 : Method := { name := "getBytes", desc := "([BIB)V", sig := { parameters := [(.array .byte), .int, .byte], returnType := none }, accessFlags := 0, code := some k7c6 }
def k7c7 : Code := { maxStack := 4, maxLocals := 6, code := jdk_42_method_149_code, exceptionTable := #[], attributes := #[] }
def k7m7 : Method := { name := "<init>", desc := "([CIILjava/lang/Void;)V", sig := { parameters := [(.array .char), .int, .int, (.object "java/lang/Void")], returnType := none }, accessFlags := 2, code := some k7c7 }
def k7c8 : Code := { maxStack := 5, maxLocals := 5, code := jdk_42_method_150_code, exceptionTable := #[], attributes := #[] }
def k7m8 : Method := { name := "<init>", desc := "(Ljava/lang/AbstractStringBuilder;Ljava/lang/Void;)V", sig := { parameters := [(.object "java/lang/AbstractStringBuilder"), (.object "java/lang/Void")], returnType := none }, accessFlags := 0, code := some k7c8 }
def k7c9 : Code := { maxStack := 2, maxLocals := 3, code := jdk_42_method_151_code, exceptionTable := #[], attributes := #[] }
def k7m9 : Method := { name := "<init>", desc := "([BB)V", sig := { parameters := [(.array .byte), .byte], returnType := none }, accessFlags := 0, code := some k7c9 }
def k7c10 : Code := { maxStack := 1, maxLocals := 1, code := jdk_42_method_152_code, exceptionTable := #[], attributes := #[] }
def k7m10 : Method := { name := "coder", desc := "()B", sig := { parameters := [], returnType := some .byte }, accessFlags := 0, code := some k7c10 }
def k7c11 : Code := { maxStack := 1, maxLocals := 1, code := jdk_42_method_154_code, exceptionTable := #[], attributes := #[] }
def k7m11 : Method := { name := "isLatin1", desc := "()Z", sig := { parameters := [], returnType := some .boolean }, accessFlags := 0, code := some k7c11 }
def k7c12 : Code := { maxStack := 3, maxLocals := 2, code := jdk_42_method_155_code, exceptionTable := #[], attributes := #[] }
def k7m12 : Method := { name := "checkIndex", desc := "(II)V", sig := { parameters := [.int, .int], returnType := none }, accessFlags := 8, code := some k7c12 }
/-- java/lang/String -/
def k7 : Class := { plain "java/lang/String" (some 0) with
  accessFlags := 49
  interfaces := #[2, 3, 4, 5, 6]
  cf := some (fileOf pool7 10 #[.nestMembers #[1103]] #[{ accessFlags := 1, nameIndex := 5, descriptorIndex := 6, attributes := #[] }, { accessFlags := 1, nameIndex := 5, descriptorIndex := 1010, attributes := #[] }, { accessFlags := 1, nameIndex := 5, descriptorIndex := 1233, attributes := #[] }, { accessFlags := 1, nameIndex := 507, descriptorIndex := 334, attributes := #[] }, { accessFlags := 1, nameIndex := 497, descriptorIndex := 427, attributes := #[] }, { accessFlags := 9, nameIndex := 782, descriptorIndex := 783, attributes := #[] }, { accessFlags := 0, nameIndex := 532, descriptorIndex := 821, attributes := #[] }, { accessFlags := 2, nameIndex := 5, descriptorIndex := 29, attributes := #[] }, { accessFlags := 0, nameIndex := 5, descriptorIndex := 491, attributes := #[] }, { accessFlags := 0, nameIndex := 5, descriptorIndex := 211, attributes := #[] }, { accessFlags := 0, nameIndex := 17, descriptorIndex := 337, attributes := #[] }, { accessFlags := 0, nameIndex := 494, descriptorIndex := 142, attributes := #[] }, { accessFlags := 8, nameIndex := 501, descriptorIndex := 391, attributes := #[] }] 49 2 #[1106, 1108, 575, 1110, 1112] #[{ accessFlags := 18, nameIndex := 13, descriptorIndex := 14, attributes := #[] }, { accessFlags := 18, nameIndex := 17, descriptorIndex := 18, attributes := #[] }, { accessFlags := 2, nameIndex := 21, descriptorIndex := 22, attributes := #[] }, { accessFlags := 2, nameIndex := 25, descriptorIndex := 26, attributes := #[] }, { accessFlags := 26, nameIndex := 1116, descriptorIndex := 1117, attributes := #[] }, { accessFlags := 24, nameIndex := 40, descriptorIndex := 26, attributes := #[] }, { accessFlags := 26, nameIndex := 1101, descriptorIndex := 1102, attributes := #[] }, { accessFlags := 26, nameIndex := 1121, descriptorIndex := 1122, attributes := #[] }, { accessFlags := 25, nameIndex := 599, descriptorIndex := 600, attributes := #[] }, { accessFlags := 24, nameIndex := 1125, descriptorIndex := 18, attributes := #[] }, { accessFlags := 24, nameIndex := 1127, descriptorIndex := 18, attributes := #[] }])
  fields := #[{ name := "value", type := (.array .byte), accessFlags := 18, slot := 0, constantValue := 0 }, { name := "coder", type := .byte, accessFlags := 18, slot := 1, constantValue := 0 }, { name := "hash", type := .int, accessFlags := 2, slot := 2, constantValue := 0 }, { name := "hashIsZero", type := .boolean, accessFlags := 2, slot := 3, constantValue := 0 }, { name := "serialVersionUID", type := .long, accessFlags := 26, slot := 0, constantValue := 0 }, { name := "COMPACT_STRINGS", type := .boolean, accessFlags := 24, slot := 1, constantValue := 0 }, { name := "serialPersistentFields", type := (.array (.object "java/io/ObjectStreamField")), accessFlags := 26, slot := 2, constantValue := 0 }, { name := "REPL", type := .char, accessFlags := 26, slot := 3, constantValue := 0 }, { name := "CASE_INSENSITIVE_ORDER", type := (.object "java/util/Comparator"), accessFlags := 25, slot := 4, constantValue := 0 }, { name := "LATIN1", type := .byte, accessFlags := 24, slot := 5, constantValue := 0 }, { name := "UTF16", type := .byte, accessFlags := 24, slot := 6, constantValue := 0 }]
  methods := #[k7m0, k7m1, k7m2, k7m3, k7m4, k7m5, k7m6, k7m7, k7m8, k7m9, k7m10, k7m11, k7m12]
  instanceTypes := #[(.array .byte), .byte, .int, .boolean]
  staticTypes := #[.long, .boolean, (.array (.object "java/io/ObjectStreamField")), .char, (.object "java/util/Comparator"), .byte, .byte]
  resolved := Array.replicate 1451 none
  statics := some 0 }

def pool8 : Array CpInfo := pool [(6, .class_ 8), (1, u "java/lang/Object"), (0, u "<init>"), (0, u "()V"), (1, .class_ 14), (1, u "java/lang/StringUTF16"), (31, u "$assertionsDisabled"), (0, u "Z"), (13, u "HI_BYTE_SHIFT"), (0, u "I"), (2, u "LO_BYTE_SHIFT"), (49, .methodref 12 116), (0, .nameAndType 117 118), (0, u "compress"), (0, u "([CI[BII)I"), (3, u "([CII)[B"), (138, u "coderFromArrayLen"), (0, u "([BI)B"), (106, .class_ 371), (1, u "java/lang/StringUTF16$LinesSpliterator"), (58, u "MAX_LENGTH"), (196, .class_ 628), (0, u "java/lang/StringUTF16$CodePointsSpliterator"), (0, .class_ 630), (0, u "java/lang/StringUTF16$CharsSpliterator")] 4

def k8m0 : Method := { name := "<init>", desc := "()V", sig := { parameters := [], returnType := none }, accessFlags := 0, code := none }
def k8c1 : Code := { maxStack := 2, maxLocals := 2, code := jdk_52_method_15_code, exceptionTable := #[], attributes := #[] }
def k8m1 : Method := { name := "coderFromArrayLen", desc := "([BI)B", sig := { parameters := [(.array .byte), .int], returnType := some .byte }, accessFlags := 8, code := some k8c1 }
def k8c2 : Code := { maxStack := 5, maxLocals := 6, code := jdk_52_method_16_code, exceptionTable := #[], attributes := #[] }
def k8m2 : Method := { name := "compress", desc := "([CII)[B", sig := { parameters := [(.array .char), .int, .int], returnType := some (.array .byte) }, accessFlags := 9, code := some k8c2 }
def k8c3 : Code := { maxStack := 3, maxLocals := 7, code := jdk_52_method_21_code, exceptionTable := #[], attributes := #[] }
def k8m3 : Method := { name := "compress", desc := "([CI[BII)I", sig := { parameters := [(.array .char), .int, (.array .byte), .int, .int], returnType := some .int }, accessFlags := 9, code := some k8c3 }
/-- java/lang/StringUTF16 -/
def k8 : Class := { plain "java/lang/StringUTF16" (some 0) with
  accessFlags := 48
  interfaces := #[]
  cf := some (fileOf pool8 12 #[.nestMembers #[627, 629, 369]] #[{ accessFlags := 0, nameIndex := 9, descriptorIndex := 10, attributes := #[] }, { accessFlags := 8, nameIndex := 261, descriptorIndex := 262, attributes := #[] }, { accessFlags := 9, nameIndex := 117, descriptorIndex := 122, attributes := #[] }, { accessFlags := 9, nameIndex := 117, descriptorIndex := 118, attributes := #[] }] 48 6 #[] #[{ accessFlags := 26, nameIndex := 61, descriptorIndex := 62, attributes := #[] }, { accessFlags := 26, nameIndex := 65, descriptorIndex := 62, attributes := #[] }, { accessFlags := 24, nameIndex := 430, descriptorIndex := 62, attributes := #[] }, { accessFlags := 4120, nameIndex := 46, descriptorIndex := 47, attributes := #[] }])
  fields := #[{ name := "HI_BYTE_SHIFT", type := .int, accessFlags := 26, slot := 0, constantValue := 0 }, { name := "LO_BYTE_SHIFT", type := .int, accessFlags := 26, slot := 1, constantValue := 0 }, { name := "MAX_LENGTH", type := .int, accessFlags := 24, slot := 2, constantValue := 0 }, { name := "$assertionsDisabled", type := .boolean, accessFlags := 4120, slot := 3, constantValue := 0 }]
  methods := #[k8m0, k8m1, k8m2, k8m3]
  instanceTypes := #[]
  staticTypes := #[.int, .int, .int, .boolean]
  resolved := Array.replicate 635 none
  statics := none }

def pool9 : Array CpInfo := pool [(2, .class_ 4), (0, .nameAndType 5 6), (0, u "java/lang/Object"), (0, u "<init>"), (0, u "()V"), (1, .class_ 10), (1, u "com/example/issuer/issuer/identity/Caller"), (0, u "kind"), (0, u "Lcom/example/issuer/issuer/identity/Caller$Kind;"), (2, u "partition"), (0, u "Ljava/lang/String;"), (2, u "account"), (2, u "name"), (2, u "arn"), (2, u "userId"), (2, u "temporary"), (0, u "Z"), (2, u "multiFactorAuthenticated"), (2, u "roleName"), (2, u "roleId"), (2, u "chained"), (1, .class_ 48), (1, u "com/example/issuer/issuer/identity/Caller$Kind"), (1, .string 51), (0, u "iam"), (2, .methodref 8 55), (0, .nameAndType 25 56), (0, u "(Ljava/lang/String;Ljava/lang/String;Ljava/lang/String;Ljava/lang/String;)Ljava/lang/String;"), (6, .class_ 64), (0, u "java/lang/StringBuilder"), (0, .methodref 63 3), (2, .methodref 63 69), (0, .nameAndType 70 71), (0, u "append"), (0, u "(Ljava/lang/String;)Ljava/lang/StringBuilder;"), (0, .methodref 63 73), (0, .nameAndType 74 75), (0, u "toString"), (0, u "()Ljava/lang/String;"), (7, .string 84), (0, u ":"), (7, .string 93), (0, u "role/"), (12, u "roleArn"), (0, u "(Ljava/lang/String;Ljava/lang/String;Ljava/lang/String;)Ljava/lang/String;"), (0, .string 109), (0, u "arn:"), (0, .string 111), (0, u "::")] 33

def k9c0 : Code := { maxStack := 5, maxLocals := 3, code := prog_27_method_6_code, exceptionTable := #[], attributes := #[] }
def k9m0 : Method := { name := "roleArn", desc := "(Ljava/lang/String;Ljava/lang/String;Ljava/lang/String;)Ljava/lang/String;", sig := { parameters := [(.object "java/lang/String"), (.object "java/lang/String"), (.object "java/lang/String")], returnType := some (.object "java/lang/String") }, accessFlags := 9, code := some k9c0 }
def k9c1 : Code := { maxStack := 2, maxLocals := 4, code := prog_27_method_21_code, exceptionTable := #[], attributes := #[] }
def k9m1 : Method := { name := "arn", desc := "(Ljava/lang/String;Ljava/lang/String;Ljava/lang/String;Ljava/lang/String;)Ljava/lang/String;", sig := { parameters := [(.object "java/lang/String"), (.object "java/lang/String"), (.object "java/lang/String"), (.object "java/lang/String")], returnType := some (.object "java/lang/String") }, accessFlags := 8, code := some k9c1 }
/-- com/example/issuer/issuer/identity/Caller -/
def k9 : Class := { plain "com/example/issuer/issuer/identity/Caller" (some 0) with
  accessFlags := 49
  interfaces := #[]
  cf := some (fileOf pool9 8 #[.nestMembers #[46]] #[{ accessFlags := 9, nameIndex := 106, descriptorIndex := 107, attributes := #[] }, { accessFlags := 8, nameIndex := 25, descriptorIndex := 56, attributes := #[] }] 49 2 #[] #[{ accessFlags := 18, nameIndex := 11, descriptorIndex := 12, attributes := #[] }, { accessFlags := 18, nameIndex := 15, descriptorIndex := 16, attributes := #[] }, { accessFlags := 18, nameIndex := 19, descriptorIndex := 16, attributes := #[] }, { accessFlags := 18, nameIndex := 22, descriptorIndex := 16, attributes := #[] }, { accessFlags := 18, nameIndex := 25, descriptorIndex := 16, attributes := #[] }, { accessFlags := 18, nameIndex := 28, descriptorIndex := 16, attributes := #[] }, { accessFlags := 18, nameIndex := 31, descriptorIndex := 32, attributes := #[] }, { accessFlags := 18, nameIndex := 35, descriptorIndex := 32, attributes := #[] }, { accessFlags := 18, nameIndex := 38, descriptorIndex := 16, attributes := #[] }, { accessFlags := 18, nameIndex := 41, descriptorIndex := 16, attributes := #[] }, { accessFlags := 18, nameIndex := 44, descriptorIndex := 32, attributes := #[] }])
  fields := #[{ name := "kind", type := (.object "com/example/issuer/issuer/identity/Caller$Kind"), accessFlags := 18, slot := 0, constantValue := 0 }, { name := "partition", type := (.object "java/lang/String"), accessFlags := 18, slot := 1, constantValue := 0 }, { name := "account", type := (.object "java/lang/String"), accessFlags := 18, slot := 2, constantValue := 0 }, { name := "name", type := (.object "java/lang/String"), accessFlags := 18, slot := 3, constantValue := 0 }, { name := "arn", type := (.object "java/lang/String"), accessFlags := 18, slot := 4, constantValue := 0 }, { name := "userId", type := (.object "java/lang/String"), accessFlags := 18, slot := 5, constantValue := 0 }, { name := "temporary", type := .boolean, accessFlags := 18, slot := 6, constantValue := 0 }, { name := "multiFactorAuthenticated", type := .boolean, accessFlags := 18, slot := 7, constantValue := 0 }, { name := "roleName", type := (.object "java/lang/String"), accessFlags := 18, slot := 8, constantValue := 0 }, { name := "roleId", type := (.object "java/lang/String"), accessFlags := 18, slot := 9, constantValue := 0 }, { name := "chained", type := .boolean, accessFlags := 18, slot := 10, constantValue := 0 }]
  methods := #[k9m0, k9m1]
  instanceTypes := #[(.object "com/example/issuer/issuer/identity/Caller$Kind"), (.object "java/lang/String"), (.object "java/lang/String"), (.object "java/lang/String"), (.object "java/lang/String"), (.object "java/lang/String"), .boolean, .boolean, (.object "java/lang/String"), (.object "java/lang/String"), .boolean]
  staticTypes := #[]
  resolved := Array.replicate 145 none
  statics := none }

def pool10 : Array CpInfo := pool [(1, .class_ 2), (0, u "java/lang/Appendable"), (0, .class_ 4), (0, u "java/lang/Object")] 9

/-- java/lang/Appendable -/
def k10 : Class := { plain "java/lang/Appendable" (some 0) with
  accessFlags := 1537
  interfaces := #[]
  cf := some (fileOf pool10 1 #[] #[] 1537 3 #[] #[])
  fields := #[]
  methods := #[]
  instanceTypes := #[]
  staticTypes := #[]
  resolved := Array.replicate 14 none
  statics := none }

def pool11 : Array CpInfo := pool [(1, .class_ 2), (0, u "java/lang/String"), (0, .methodref 4 5), (0, .class_ 6), (0, .nameAndType 7 8), (0, u "java/lang/Object"), (0, u "<init>"), (0, u "()V"), (1, .class_ 12), (1, u "java/lang/AbstractStringBuilder"), (0, u "EMPTYVALUE"), (0, u "[B"), (0, .fieldref 10 16), (0, .nameAndType 17 14), (0, u "value"), (0, .fieldref 1 19), (0, .nameAndType 20 21), (0, u "COMPACT_STRINGS"), (0, u "Z"), (0, .fieldref 10 23), (0, .nameAndType 24 25), (0, u "coder"), (0, u "B"), (6, .methodref 1 33), (0, .nameAndType 34 35), (0, u "length"), (0, u "()I"), (3, .integer 2147483647), (0, .methodref 1 41), (0, .nameAndType 24 42), (0, u "()B"), (2, u "append"), (0, u "(Ljava/lang/String;)Ljava/lang/AbstractStringBuilder;"), (1, .class_ 49), (0, u "java/lang/CharSequence"), (19, u "(Ljava/lang/String;)V"), (5, u "maybeLatin1"), (3, .fieldref 10 80), (0, .nameAndType 81 82), (0, u "count"), (0, u "I"), (2, u "isLatin1"), (0, u "()Z"), (13, .methodref 10 101), (0, .nameAndType 102 103), (0, u "ensureCapacityInternal"), (0, u "(I)V"), (0, .methodref 10 105), (0, .nameAndType 106 107), (0, u "newCapacity"), (0, u "(I)I"), (0, .methodref 109 110), (0, .class_ 111), (0, .nameAndType 112 113), (0, u "java/util/Arrays"), (0, u "copyOf"), (0, u "([BI)[B"), (0, .methodref 115 116), (0, .class_ 117), (0, .nameAndType 118 119), (0, u "jdk/internal/util/ArraysSupport"), (0, u "newLength"), (0, u "(III)I"), (88, .methodref 10 209), (0, .nameAndType 210 211), (0, u "putStringAt"), (0, u "(ILjava/lang/String;)V"), (5, u "inflateIfNeededFor"), (2, .nameAndType 221 222), (0, u "getBytes"), (0, u "([BIB)V"), (174, .methodref 10 398), (0, .nameAndType 217 69), (0, .methodref 1 220), (3, u "()[B"), (40, .class_ 445), (0, u "java/lang/Appendable"), (106, u "getValue")] 56

def k11m0 : Method := { name := "<init>", desc := "()V", sig := { parameters := [], returnType := none }, accessFlags := 0, code := none }
def k11c1 : Code := { maxStack := 2, maxLocals := 2, code := jdk_68_method_2_code, exceptionTable := #[], attributes := #[] }
def k11m1 : Method := { name := "<init>", desc := "(I)V", sig := { parameters := [.int], returnType := none }, accessFlags := 0, code := some k11c1 }
def k11c2 : Code := { maxStack := 1, maxLocals := 1, code := jdk_68_method_6_code, exceptionTable := #[], attributes := #[] }
def k11m2 : Method := { name := "length", desc := "()I", sig := { parameters := [], returnType := some .int }, accessFlags := 1, code := some k11c2 }
def k11c3 : Code := { maxStack := 4, maxLocals := 3, code := jdk_68_method_9_code, exceptionTable := #[], attributes := #[] }
def k11m3 : Method := { name := "ensureCapacityInternal", desc := "(I)V", sig := { parameters := [.int], returnType := none }, accessFlags := 2, code := some k11c3 }
def k11c4 : Code := { maxStack := 5, maxLocals := 6, code := jdk_68_method_10_code, exceptionTable := #[], attributes := #[] }
def k11m4 : Method := { name := "newCapacity", desc := "(I)I", sig := { parameters := [.int], returnType := some .int }, accessFlags := 2, code := some k11c4 }
def k11c5 : Code := { maxStack := 3, maxLocals := 3, code := jdk_68_method_22_code, exceptionTable := #[], attributes := #[] }
def k11m5 : Method := { name := "append", desc := "(Ljava/lang/String;)Ljava/lang/AbstractStringBuilder;", sig := { parameters := [(.object "java/lang/String")], returnType := some (.object "java/lang/AbstractStringBuilder") }, accessFlags := 1, code := some k11c5 }
def k11c6 : Code := { maxStack := 1, maxLocals := 1, code := jdk_68_method_64_code, exceptionTable := #[], attributes := #[] }
def k11m6 : Method := { name := "getValue", desc := "()[B", sig := { parameters := [], returnType := some (.array .byte) }, accessFlags := 16, code := some k11c6 }
def k11c7 : Code := { maxStack := 1, maxLocals := 1, code := jdk_68_method_68_code, exceptionTable := #[], attributes := #[] }
def k11m7 : Method := { name := "isLatin1", desc := "()Z", sig := { parameters := [], returnType := some .boolean }, accessFlags := 16, code := some k11c7 }
def k11c8 : Code := { maxStack := 2, maxLocals := 2, code := jdk_68_method_71_code, exceptionTable := #[], attributes := #[] }
def k11m8 : Method := { name := "inflateIfNeededFor", desc := "(Ljava/lang/String;)V", sig := { parameters := [(.object "java/lang/String")], returnType := none }, accessFlags := 2, code := some k11c8 }
def k11c9 : Code := { maxStack := 4, maxLocals := 3, code := jdk_68_method_73_code, exceptionTable := #[], attributes := #[] }
def k11m9 : Method := { name := "putStringAt", desc := "(ILjava/lang/String;)V", sig := { parameters := [.int, (.object "java/lang/String")], returnType := none }, accessFlags := 2, code := some k11c9 }
/-- java/lang/AbstractStringBuilder -/
def k11 : Class := { plain "java/lang/AbstractStringBuilder" (some 0) with
  accessFlags := 1056
  interfaces := #[10, 4]
  cf := some (fileOf pool11 10 #[] #[{ accessFlags := 0, nameIndex := 7, descriptorIndex := 8, attributes := #[] }, { accessFlags := 0, nameIndex := 7, descriptorIndex := 103, attributes := #[] }, { accessFlags := 1, nameIndex := 34, descriptorIndex := 35, attributes := #[] }, { accessFlags := 2, nameIndex := 102, descriptorIndex := 103, attributes := #[] }, { accessFlags := 2, nameIndex := 106, descriptorIndex := 107, attributes := #[] }, { accessFlags := 1, nameIndex := 45, descriptorIndex := 46, attributes := #[] }, { accessFlags := 16, nameIndex := 552, descriptorIndex := 403, attributes := #[] }, { accessFlags := 16, nameIndex := 85, descriptorIndex := 86, attributes := #[] }, { accessFlags := 2, nameIndex := 217, descriptorIndex := 69, attributes := #[] }, { accessFlags := 2, nameIndex := 210, descriptorIndex := 211, attributes := #[] }] 1056 4 #[444, 48] #[{ accessFlags := 0, nameIndex := 17, descriptorIndex := 14, attributes := #[] }, { accessFlags := 0, nameIndex := 24, descriptorIndex := 25, attributes := #[] }, { accessFlags := 0, nameIndex := 75, descriptorIndex := 21, attributes := #[] }, { accessFlags := 0, nameIndex := 81, descriptorIndex := 82, attributes := #[] }, { accessFlags := 26, nameIndex := 13, descriptorIndex := 14, attributes := #[] }])
  fields := #[{ name := "value", type := (.array .byte), accessFlags := 0, slot := 0, constantValue := 0 }, { name := "coder", type := .byte, accessFlags := 0, slot := 1, constantValue := 0 }, { name := "maybeLatin1", type := .boolean, accessFlags := 0, slot := 2, constantValue := 0 }, { name := "count", type := .int, accessFlags := 0, slot := 3, constantValue := 0 }, { name := "EMPTYVALUE", type := (.array .byte), accessFlags := 26, slot := 0, constantValue := 0 }]
  methods := #[k11m0, k11m1, k11m2, k11m3, k11m4, k11m5, k11m6, k11m7, k11m8, k11m9]
  instanceTypes := #[(.array .byte), .byte, .boolean, .int]
  staticTypes := #[(.array .byte)]
  resolved := Array.replicate 609 none
  statics := none }

def pool12 : Array CpInfo := pool [(1, .methodref 2 3), (0, .class_ 4), (0, .nameAndType 5 6), (0, u "java/lang/AbstractStringBuilder"), (0, u "<init>"), (0, u "(I)V"), (11, .class_ 20), (1, u "java/lang/String"), (3, .class_ 26), (1, u "java/lang/StringBuilder"), (0, u "append"), (0, u "(Ljava/lang/String;)Ljava/lang/StringBuilder;"), (0, .methodref 2 30), (0, .nameAndType 27 31), (0, u "(Ljava/lang/String;)Ljava/lang/AbstractStringBuilder;"), (105, .methodref 18 138), (0, .nameAndType 5 139), (0, u "(Ljava/lang/StringBuilder;)V"), (5, u "()V"), (10, u "()I"), (186, .methodref 2 344), (0, .nameAndType 345 156), (0, u "length"), (3, .class_ 350), (0, u "java/lang/Appendable"), (0, .class_ 352), (0, u "java/io/Serializable"), (0, .class_ 354), (0, u "java/lang/Comparable"), (0, .class_ 356), (0, u "java/lang/CharSequence"), (0, u "serialVersionUID"), (0, u "J"), (40, u "toString"), (0, u "()Ljava/lang/String;")] 21

def k12c0 : Code := { maxStack := 2, maxLocals := 1, code := jdk_67_method_1_code, exceptionTable := #[], attributes := #[] }
def k12m0 : Method := { name := "<init>", desc := "()V", sig := { parameters := [], returnType := none }, accessFlags := 1, code := some k12c0 }
def k12c1 : Code := { maxStack := 2, maxLocals := 2, code := jdk_67_method_7_code, exceptionTable := #[], attributes := #[] }
def k12m1 : Method := { name := "append", desc := "(Ljava/lang/String;)Ljava/lang/StringBuilder;", sig := { parameters := [(.object "java/lang/String")], returnType := some (.object "java/lang/StringBuilder") }, accessFlags := 1, code := some k12c1 }
def k12c2 : Code := { maxStack := 3, maxLocals := 1, code := jdk_67_method_42_code, exceptionTable := #[], attributes := #[] }
def k12m2 : Method := { name := "toString", desc := "()Ljava/lang/String;", sig := { parameters := [], returnType := some (.object "java/lang/String") }, accessFlags := 1, code := some k12c2 }
def k12c3 : Code := { maxStack := 1, maxLocals := 1, code := jdk_67_method_93_code, exceptionTable := #[], attributes := #[] }
def k12m3 : Method := { name := "length", desc := "()I", sig := { parameters := [], returnType := some .int }, accessFlags := 4161, code := some k12c3 }
/-- java/lang/StringBuilder -/
def k12 : Class := { plain "java/lang/StringBuilder" (some 11) with
  accessFlags := 49
  interfaces := #[10, 2, 3, 4]
  cf := some (fileOf pool12 24 #[] #[{ accessFlags := 1, nameIndex := 5, descriptorIndex := 145, attributes := #[] }, { accessFlags := 1, nameIndex := 27, descriptorIndex := 28, attributes := #[] }, { accessFlags := 1, nameIndex := 399, descriptorIndex := 400, attributes := #[] }, { accessFlags := 4161, nameIndex := 345, descriptorIndex := 156, attributes := #[] }] 49 2 #[349, 351, 353, 355] #[{ accessFlags := 24, nameIndex := 357, descriptorIndex := 358, attributes := #[] }])
  fields := #[{ name := "serialVersionUID", type := .long, accessFlags := 24, slot := 0, constantValue := 0 }]
  methods := #[k12m0, k12m1, k12m2, k12m3]
  instanceTypes := #[(.array .byte), .byte, .boolean, .int]
  staticTypes := #[.long]
  resolved := Array.replicate 422 none
  statics := none }

def pool13 : Array CpInfo := pool [(2, .class_ 4), (1, u "java/lang/Object"), (0, u "<init>"), (0, u "()V"), (1, .class_ 10), (1, u "java/lang/System"), (0, u "allowSecurityManager"), (0, u "I"), (16, u "cons"), (0, u "Ljava/io/Console;"), (77, .class_ 110), (1, u "java/lang/System$CallersHolder"), (43, u "initialErrStream"), (0, u "Ljava/io/PrintStream;"), (19, u "security"), (0, u "Ljava/lang/SecurityManager;"), (31, .class_ 209), (0, u "java/lang/System$1"), (7, u "props"), (0, u "Ljava/util/Properties;"), (2, u "lineSeparator"), (0, u "Ljava/lang/String;"), (96, .class_ 321), (1, u "java/lang/System$LoggerFinder"), (5, .class_ 328), (0, u "java/lang/System$Logger"), (67, u "err"), (2, u "out"), (91, u "notSupportedJnuEncoding"), (15, u "in"), (17, u "initialIn"), (0, u "Ljava/io/InputStream;"), (35, u "bootLayer"), (0, u "Ljava/lang/ModuleLayer;"), (99, .class_ 664), (0, u "java/lang/System$2"), (9, u "NEVER"), (2, u "MAYBE"), (49, u "arraycopy"), (0, u "(Ljava/lang/Object;ILjava/lang/Object;II)V"), (72, .class_ 802), (0, u "java/lang/System$Logger$Level")] 31

def k13m0 : Method := { name := "<init>", desc := "()V", sig := { parameters := [], returnType := none }, accessFlags := 2, code := none }
def k13m1 : Method := { name := "arraycopy", desc := "(Ljava/lang/Object;ILjava/lang/Object;II)V", sig := { parameters := [(.object "java/lang/Object"), .int, (.object "java/lang/Object"), .int, .int], returnType := none }, accessFlags := 265, code := none }
/-- java/lang/System -/
def k13 : Class := { plain "java/lang/System" (some 0) with
  accessFlags := 49
  interfaces := #[]
  cf := some (fileOf pool13 8 #[.nestMembers #[319, 327, 801, 108, 663, 208]] #[{ accessFlags := 2, nameIndex := 5, descriptorIndex := 6, attributes := #[] }, { accessFlags := 265, nameIndex := 727, descriptorIndex := 728, attributes := #[] }] 49 2 #[] #[{ accessFlags := 25, nameIndex := 507, descriptorIndex := 526, attributes := #[] }, { accessFlags := 25, nameIndex := 399, descriptorIndex := 155, attributes := #[] }, { accessFlags := 25, nameIndex := 396, descriptorIndex := 155, attributes := #[] }, { accessFlags := 10, nameIndex := 525, descriptorIndex := 526, attributes := #[] }, { accessFlags := 26, nameIndex := 674, descriptorIndex := 12, attributes := #[] }, { accessFlags := 26, nameIndex := 677, descriptorIndex := 12, attributes := #[] }, { accessFlags := 10, nameIndex := 11, descriptorIndex := 12, attributes := #[] }, { accessFlags := 74, nameIndex := 175, descriptorIndex := 176, attributes := #[] }, { accessFlags := 10, nameIndex := 491, descriptorIndex := 222, attributes := #[] }, { accessFlags := 74, nameIndex := 29, descriptorIndex := 30, attributes := #[] }, { accessFlags := 74, nameIndex := 154, descriptorIndex := 155, attributes := #[] }, { accessFlags := 10, nameIndex := 217, descriptorIndex := 218, attributes := #[] }, { accessFlags := 10, nameIndex := 221, descriptorIndex := 222, attributes := #[] }, { accessFlags := 8, nameIndex := 562, descriptorIndex := 563, attributes := #[] }])
  fields := #[{ name := "in", type := (.object "java/io/InputStream"), accessFlags := 25, slot := 0, constantValue := 0 }, { name := "out", type := (.object "java/io/PrintStream"), accessFlags := 25, slot := 1, constantValue := 0 }, { name := "err", type := (.object "java/io/PrintStream"), accessFlags := 25, slot := 2, constantValue := 0 }, { name := "initialIn", type := (.object "java/io/InputStream"), accessFlags := 10, slot := 3, constantValue := 0 }, { name := "NEVER", type := .int, accessFlags := 26, slot := 4, constantValue := 0 }, { name := "MAYBE", type := .int, accessFlags := 26, slot := 5, constantValue := 0 }, { name := "allowSecurityManager", type := .int, accessFlags := 10, slot := 6, constantValue := 0 }, { name := "security", type := (.object "java/lang/SecurityManager"), accessFlags := 74, slot := 7, constantValue := 0 }, { name := "notSupportedJnuEncoding", type := (.object "java/lang/String"), accessFlags := 10, slot := 8, constantValue := 0 }, { name := "cons", type := (.object "java/io/Console"), accessFlags := 74, slot := 9, constantValue := 0 }, { name := "initialErrStream", type := (.object "java/io/PrintStream"), accessFlags := 74, slot := 10, constantValue := 0 }, { name := "props", type := (.object "java/util/Properties"), accessFlags := 10, slot := 11, constantValue := 0 }, { name := "lineSeparator", type := (.object "java/lang/String"), accessFlags := 10, slot := 12, constantValue := 0 }, { name := "bootLayer", type := (.object "java/lang/ModuleLayer"), accessFlags := 8, slot := 13, constantValue := 0 }]
  methods := #[k13m0, k13m1]
  instanceTypes := #[]
  staticTypes := #[(.object "java/io/InputStream"), (.object "java/io/PrintStream"), (.object "java/io/PrintStream"), (.object "java/io/InputStream"), .int, .int, .int, (.object "java/lang/SecurityManager"), (.object "java/lang/String"), (.object "java/io/Console"), (.object "java/io/PrintStream"), (.object "java/util/Properties"), (.object "java/lang/String"), (.object "java/lang/ModuleLayer")]
  resolved := Array.replicate 834 none
  statics := none }

def pool14 : Array CpInfo := pool [(2, .class_ 4), (1, u "java/lang/Object"), (0, u "<init>"), (0, u "()V"), (7, .class_ 16), (1, u "java/util/Arrays"), (57, .class_ 76), (1, u "java/util/Arrays$NaturalOrder"), (32, u "()Ljava/lang/Object;"), (3, .class_ 115), (1, u "java/util/Arrays$LegacyMergeSort"), (1, u "Z"), (10, .nameAndType 129 109), (0, u "clone"), (9, u "copyOfRange"), (10, .methodref 151 152), (0, .class_ 153), (0, .nameAndType 154 155), (0, u "java/lang/System"), (0, u "arraycopy"), (0, u "(Ljava/lang/Object;ILjava/lang/Object;II)V"), (146, u "copyOf"), (1, .methodref 305 306), (0, .class_ 307), (0, .nameAndType 308 309), (0, u "java/lang/Math"), (0, u "min"), (0, u "(II)I"), (0, .methodref 311 128), (0, .class_ 312), (0, u "[B"), (26, .methodref 14 340), (0, .nameAndType 341 342), (0, u "copyOfRangeByte"), (0, u "([BII)[B"), (0, .methodref 14 344), (0, .nameAndType 345 346), (0, u "checkLength"), (0, u "(II)V"), (28, .class_ 376), (0, u "java/util/Arrays$ArrayList"), (68, u "$assertionsDisabled"), (269, u "MIN_ARRAY_SORT_GRAN"), (0, u "I"), (2, u "INSERTIONSORT_THRESHOLD"), (149, u "([BI)[B"), (105, .class_ 976), (0, u "java/util/Arrays$ArrayItr")] 52

def k14m0 : Method := { name := "<init>", desc := "()V", sig := { parameters := [], returnType := none }, accessFlags := 2, code := none }
def k14c1 : Code := { maxStack := 6, maxLocals := 3, code := jdk_65_method_121_code, exceptionTable := #[], attributes := #[] }
def k14m1 : Method := { name := "copyOf", desc := "([BI)[B", sig := { parameters := [(.array .byte), .int], returnType := some (.array .byte) }, accessFlags := 9, code := some k14c1 }
def k14c2 : Code := { maxStack := 4, maxLocals := 2, code := jdk_65_method_131_code, exceptionTable := #[], attributes := #[] }
def k14m2 : Method := { name := "checkLength", desc := "(II)V", sig := { parameters := [.int, .int], returnType := none }, accessFlags := 10, code := some k14c2 }
def k14c3 : Code := { maxStack := 3, maxLocals := 3, code := jdk_65_method_132_code, exceptionTable := #[], attributes := #[] }
def k14m3 : Method := { name := "copyOfRange", desc := "([BII)[B", sig := { parameters := [(.array .byte), .int, .int], returnType := some (.array .byte) }, accessFlags := 9, code := some k14c3 }
def k14c4 : Code := { maxStack := 6, maxLocals := 5, code := jdk_65_method_133_code, exceptionTable := #[], attributes := #[] }
def k14m4 : Method := { name := "copyOfRangeByte", desc := "([BII)[B", sig := { parameters := [(.array .byte), .int, .int], returnType := some (.array .byte) }, accessFlags := 10, code := some k14c4 }
/-- java/util/Arrays -/
def k14 : Class := { plain "java/util/Arrays" (some 0) with
  accessFlags := 49
  interfaces := #[]
  cf := some (fileOf pool14 14 #[.nestMembers #[975, 375, 113, 74]] #[{ accessFlags := 2, nameIndex := 5, descriptorIndex := 6, attributes := #[] }, { accessFlags := 9, nameIndex := 302, descriptorIndex := 869, attributes := #[] }, { accessFlags := 10, nameIndex := 345, descriptorIndex := 346, attributes := #[] }, { accessFlags := 9, nameIndex := 139, descriptorIndex := 342, attributes := #[] }, { accessFlags := 10, nameIndex := 341, descriptorIndex := 342, attributes := #[] }] 49 2 #[] #[{ accessFlags := 26, nameIndex := 715, descriptorIndex := 716, attributes := #[] }, { accessFlags := 26, nameIndex := 719, descriptorIndex := 716, attributes := #[] }, { accessFlags := 4120, nameIndex := 445, descriptorIndex := 117, attributes := #[] }])
  fields := #[{ name := "MIN_ARRAY_SORT_GRAN", type := .int, accessFlags := 26, slot := 0, constantValue := 0 }, { name := "INSERTIONSORT_THRESHOLD", type := .int, accessFlags := 26, slot := 1, constantValue := 0 }, { name := "$assertionsDisabled", type := .boolean, accessFlags := 4120, slot := 2, constantValue := 0 }]
  methods := #[k14m0, k14m1, k14m2, k14m3, k14m4]
  instanceTypes := #[]
  staticTypes := #[.int, .int, .boolean]
  resolved := Array.replicate 1029 none
  statics := none }

def pool15 : Array CpInfo := pool [(1, .class_ 2), (0, u "java/lang/Math"), (1, .class_ 6), (1, u "java/lang/Object"), (0, u "<init>"), (0, u "()V"), (89, .class_ 100), (1, u "java/lang/Math$RandomNumberGeneratorHolder"), (71, u "negativeZeroFloatBits"), (0, u "J"), (2, u "negativeZeroDoubleBits"), (21, u "max"), (2, u "min"), (43, u "$assertionsDisabled"), (0, u "Z"), (88, u "(II)I"), (2, u "twoToTheDoubleScaleDown"), (0, u "D"), (4, u "twoToTheDoubleScaleUp"), (9, u "E"), (3, u "PI"), (2, u "TAU"), (2, u "DEGREES_TO_RADIANS"), (0, u "RADIANS_TO_DEGREES")] 94

def k15m0 : Method := { name := "<init>", desc := "()V", sig := { parameters := [], returnType := none }, accessFlags := 2, code := none }
def k15c1 : Code := { maxStack := 2, maxLocals := 2, code := jdk_29_method_65_code, exceptionTable := #[], attributes := #[] }
def k15m1 : Method := { name := "max", desc := "(II)I", sig := { parameters := [.int, .int], returnType := some .int }, accessFlags := 9, code := some k15c1 }
def k15c2 : Code := { maxStack := 2, maxLocals := 2, code := jdk_29_method_69_code, exceptionTable := #[], attributes := #[] }
def k15m2 : Method := { name := "min", desc := "(II)I", sig := { parameters := [.int, .int], returnType := some .int }, accessFlags := 9, code := some k15c2 }
/-- java/lang/Math -/
def k15 : Class := { plain "java/lang/Math" (some 0) with
  accessFlags := 49
  interfaces := #[]
  cf := some (fileOf pool15 1 #[.nestMembers #[98]] #[{ accessFlags := 2, nameIndex := 7, descriptorIndex := 8, attributes := #[] }, { accessFlags := 9, nameIndex := 198, descriptorIndex := 335, attributes := #[] }, { accessFlags := 9, nameIndex := 201, descriptorIndex := 335, attributes := #[] }] 49 4 #[] #[{ accessFlags := 25, nameIndex := 354, descriptorIndex := 339, attributes := #[] }, { accessFlags := 25, nameIndex := 358, descriptorIndex := 339, attributes := #[] }, { accessFlags := 25, nameIndex := 361, descriptorIndex := 339, attributes := #[] }, { accessFlags := 26, nameIndex := 364, descriptorIndex := 339, attributes := #[] }, { accessFlags := 26, nameIndex := 365, descriptorIndex := 339, attributes := #[] }, { accessFlags := 26, nameIndex := 172, descriptorIndex := 173, attributes := #[] }, { accessFlags := 26, nameIndex := 176, descriptorIndex := 173, attributes := #[] }, { accessFlags := 8, nameIndex := 344, descriptorIndex := 339, attributes := #[] }, { accessFlags := 8, nameIndex := 338, descriptorIndex := 339, attributes := #[] }, { accessFlags := 4120, nameIndex := 245, descriptorIndex := 246, attributes := #[] }])
  fields := #[{ name := "E", type := .double, accessFlags := 25, slot := 0, constantValue := 0 }, { name := "PI", type := .double, accessFlags := 25, slot := 1, constantValue := 0 }, { name := "TAU", type := .double, accessFlags := 25, slot := 2, constantValue := 0 }, { name := "DEGREES_TO_RADIANS", type := .double, accessFlags := 26, slot := 3, constantValue := 0 }, { name := "RADIANS_TO_DEGREES", type := .double, accessFlags := 26, slot := 4, constantValue := 0 }, { name := "negativeZeroFloatBits", type := .long, accessFlags := 26, slot := 5, constantValue := 0 }, { name := "negativeZeroDoubleBits", type := .long, accessFlags := 26, slot := 6, constantValue := 0 }, { name := "twoToTheDoubleScaleUp", type := .double, accessFlags := 8, slot := 7, constantValue := 0 }, { name := "twoToTheDoubleScaleDown", type := .double, accessFlags := 8, slot := 8, constantValue := 0 }, { name := "$assertionsDisabled", type := .boolean, accessFlags := 4120, slot := 9, constantValue := 0 }]
  methods := #[k15m0, k15m1, k15m2]
  instanceTypes := #[]
  staticTypes := #[.double, .double, .double, .double, .double, .long, .long, .double, .double, .boolean]
  resolved := Array.replicate 460 none
  statics := none }

def pool16 : Array CpInfo := pool [(9, u "<init>"), (6, .class_ 18), (1, u "java/lang/Object"), (0, u "()V"), (1, .class_ 23), (1, u "jdk/internal/util/ArraysSupport"), (0, u "LOG2_ARRAY_LONG_INDEX_SCALE"), (0, u "I"), (2, u "U"), (0, u "Ljdk/internal/misc/Unsafe;"), (8, u "BIG_ENDIAN"), (0, u "Z"), (8, u "LOG2_BYTE_BIT_SIZE"), (4, u "LOG2_ARRAY_INT_INDEX_SCALE"), (54, u "JLA"), (0, u "Ljdk/internal/access/JavaLangAccess;"), (11, u "LOG2_ARRAY_BOOLEAN_INDEX_SCALE"), (9, u "LOG2_ARRAY_BYTE_INDEX_SCALE"), (5, u "LOG2_ARRAY_CHAR_INDEX_SCALE"), (5, u "LOG2_ARRAY_SHORT_INDEX_SCALE"), (18, u "LOG2_ARRAY_FLOAT_INDEX_SCALE"), (24, u "LOG2_ARRAY_DOUBLE_INDEX_SCALE"), (6, .methodref 195 196), (0, .class_ 197), (0, .nameAndType 198 199), (0, u "java/lang/Math"), (0, u "max"), (0, u "(II)I"), (0, .integer 2147483639), (76, u "T_BOOLEAN"), (2, u "T_CHAR"), (1, u "T_FLOAT"), (1, u "T_DOUBLE"), (1, u "T_BYTE"), (1, u "T_SHORT"), (1, u "T_INT"), (1, u "T_LONG"), (1, u "SOFT_MAX_ARRAY_LENGTH"), (56, u "newLength"), (0, u "(III)I")] 25

def k16m0 : Method := { name := "<init>", desc := "()V", sig := { parameters := [], returnType := none }, accessFlags := 2, code := none }
def k16c1 : Code := { maxStack := 3, maxLocals := 4, code := jdk_48_method_27_code, exceptionTable := #[], attributes := #[] }
def k16m1 : Method := { name := "newLength", desc := "(III)I", sig := { parameters := [.int, .int, .int], returnType := some .int }, accessFlags := 9, code := some k16c1 }
/-- jdk/internal/util/ArraysSupport -/
def k16 : Class := { plain "jdk/internal/util/ArraysSupport" (some 0) with
  accessFlags := 33
  interfaces := #[]
  cf := some (fileOf pool16 21 #[] #[{ accessFlags := 2, nameIndex := 9, descriptorIndex := 19, attributes := #[] }, { accessFlags := 9, nameIndex := 351, descriptorIndex := 352, attributes := #[] }] 33 16 #[] #[{ accessFlags := 24, nameIndex := 28, descriptorIndex := 29, attributes := #[] }, { accessFlags := 26, nameIndex := 38, descriptorIndex := 39, attributes := #[] }, { accessFlags := 25, nameIndex := 121, descriptorIndex := 25, attributes := #[] }, { accessFlags := 25, nameIndex := 131, descriptorIndex := 25, attributes := #[] }, { accessFlags := 25, nameIndex := 137, descriptorIndex := 25, attributes := #[] }, { accessFlags := 25, nameIndex := 143, descriptorIndex := 25, attributes := #[] }, { accessFlags := 25, nameIndex := 53, descriptorIndex := 25, attributes := #[] }, { accessFlags := 25, nameIndex := 24, descriptorIndex := 25, attributes := #[] }, { accessFlags := 25, nameIndex := 162, descriptorIndex := 25, attributes := #[] }, { accessFlags := 25, nameIndex := 187, descriptorIndex := 25, attributes := #[] }, { accessFlags := 26, nameIndex := 48, descriptorIndex := 25, attributes := #[] }, { accessFlags := 25, nameIndex := 277, descriptorIndex := 25, attributes := #[] }, { accessFlags := 25, nameIndex := 280, descriptorIndex := 25, attributes := #[] }, { accessFlags := 25, nameIndex := 282, descriptorIndex := 25, attributes := #[] }, { accessFlags := 25, nameIndex := 284, descriptorIndex := 25, attributes := #[] }, { accessFlags := 25, nameIndex := 286, descriptorIndex := 25, attributes := #[] }, { accessFlags := 25, nameIndex := 288, descriptorIndex := 25, attributes := #[] }, { accessFlags := 25, nameIndex := 290, descriptorIndex := 25, attributes := #[] }, { accessFlags := 25, nameIndex := 292, descriptorIndex := 25, attributes := #[] }, { accessFlags := 26, nameIndex := 108, descriptorIndex := 109, attributes := #[] }, { accessFlags := 25, nameIndex := 294, descriptorIndex := 25, attributes := #[] }])
  fields := #[{ name := "U", type := (.object "jdk/internal/misc/Unsafe"), accessFlags := 24, slot := 0, constantValue := 0 }, { name := "BIG_ENDIAN", type := .boolean, accessFlags := 26, slot := 1, constantValue := 0 }, { name := "LOG2_ARRAY_BOOLEAN_INDEX_SCALE", type := .int, accessFlags := 25, slot := 2, constantValue := 0 }, { name := "LOG2_ARRAY_BYTE_INDEX_SCALE", type := .int, accessFlags := 25, slot := 3, constantValue := 0 }, { name := "LOG2_ARRAY_CHAR_INDEX_SCALE", type := .int, accessFlags := 25, slot := 4, constantValue := 0 }, { name := "LOG2_ARRAY_SHORT_INDEX_SCALE", type := .int, accessFlags := 25, slot := 5, constantValue := 0 }, { name := "LOG2_ARRAY_INT_INDEX_SCALE", type := .int, accessFlags := 25, slot := 6, constantValue := 0 }, { name := "LOG2_ARRAY_LONG_INDEX_SCALE", type := .int, accessFlags := 25, slot := 7, constantValue := 0 }, { name := "LOG2_ARRAY_FLOAT_INDEX_SCALE", type := .int, accessFlags := 25, slot := 8, constantValue := 0 }, { name := "LOG2_ARRAY_DOUBLE_INDEX_SCALE", type := .int, accessFlags := 25, slot := 9, constantValue := 0 }, { name := "LOG2_BYTE_BIT_SIZE", type := .int, accessFlags := 26, slot := 10, constantValue := 0 }, { name := "T_BOOLEAN", type := .int, accessFlags := 25, slot := 11, constantValue := 0 }, { name := "T_CHAR", type := .int, accessFlags := 25, slot := 12, constantValue := 0 }, { name := "T_FLOAT", type := .int, accessFlags := 25, slot := 13, constantValue := 0 }, { name := "T_DOUBLE", type := .int, accessFlags := 25, slot := 14, constantValue := 0 }, { name := "T_BYTE", type := .int, accessFlags := 25, slot := 15, constantValue := 0 }, { name := "T_SHORT", type := .int, accessFlags := 25, slot := 16, constantValue := 0 }, { name := "T_INT", type := .int, accessFlags := 25, slot := 17, constantValue := 0 }, { name := "T_LONG", type := .int, accessFlags := 25, slot := 18, constantValue := 0 }, { name := "JLA", type := (.object "jdk/internal/access/JavaLangAccess"), accessFlags := 26, slot := 19, constantValue := 0 }, { name := "SOFT_MAX_ARRAY_LENGTH", type := .int, accessFlags := 25, slot := 20, constantValue := 0 }]
  methods := #[k16m0, k16m1]
  instanceTypes := #[]
  staticTypes := #[(.object "jdk/internal/misc/Unsafe"), .boolean, .int, .int, .int, .int, .int, .int, .int, .int, .int, .int, .int, .int, .int, .int, .int, .int, .int, (.object "jdk/internal/access/JavaLangAccess"), .int]
  resolved := Array.replicate 378 none
  statics := none }

def pool17 : Array CpInfo := pool [(1, .class_ 2), (0, u "java/lang/String"), (1, .class_ 6), (1, u "java/lang/Object"), (0, u "<init>"), (0, u "()V"), (0, .methodref 1 10), (0, .nameAndType 11 12), (0, u "checkIndex"), (0, u "(II)V"), (1, .class_ 16), (1, u "java/lang/StringLatin1"), (36, u "([BI)C"), (36, u "canEncode"), (14, u "(C)Z"), (15, u "$assertionsDisabled"), (0, u "Z"), (98, .class_ 223), (1, u "java/lang/StringLatin1$LinesSpliterator"), (28, u "charAt"), (127, u "toBytes"), (1, u "(C)[B"), (7, .class_ 391), (0, u "java/lang/StringLatin1$CharsSpliterator")] 3

def k17m0 : Method := { name := "<init>", desc := "()V", sig := { parameters := [], returnType := none }, accessFlags := 0, code := none }
def k17c1 : Code := { maxStack := 2, maxLocals := 2, code := jdk_43_method_2_code, exceptionTable := #[], attributes := #[] }
def k17m1 : Method := { name := "charAt", desc := "([BI)C", sig := { parameters := [(.array .byte), .int], returnType := some .char }, accessFlags := 9, code := some k17c1 }
def k17c2 : Code := { maxStack := 2, maxLocals := 1, code := jdk_43_method_3_code, exceptionTable := #[], attributes := #[] }
def k17m2 : Method := { name := "canEncode", desc := "(C)Z", sig := { parameters := [.char], returnType := some .boolean }, accessFlags := 9, code := some k17c2 }
def k17c3 : Code := { maxStack := 4, maxLocals := 1, code := jdk_43_method_46_code, exceptionTable := #[], attributes := #[] }
def k17m3 : Method := { name := "toBytes", desc := "(C)[B", sig := { parameters := [.char], returnType := some (.array .byte) }, accessFlags := 9, code := some k17c3 }
/-- java/lang/StringLatin1 -/
def k17 : Class := { plain "java/lang/StringLatin1" (some 0) with
  accessFlags := 48
  interfaces := #[]
  cf := some (fileOf pool17 14 #[.nestMembers #[390, 221]] #[{ accessFlags := 0, nameIndex := 7, descriptorIndex := 8, attributes := #[] }, { accessFlags := 9, nameIndex := 252, descriptorIndex := 53, attributes := #[] }, { accessFlags := 9, nameIndex := 90, descriptorIndex := 105, attributes := #[] }, { accessFlags := 9, nameIndex := 380, descriptorIndex := 382, attributes := #[] }] 48 4 #[] #[{ accessFlags := 4120, nameIndex := 121, descriptorIndex := 122, attributes := #[] }])
  fields := #[{ name := "$assertionsDisabled", type := .boolean, accessFlags := 4120, slot := 0, constantValue := 0 }]
  methods := #[k17m0, k17m1, k17m2, k17m3]
  instanceTypes := #[]
  staticTypes := #[.boolean]
  resolved := Array.replicate 395 none
  statics := none }

def pool18 : Array CpInfo := pool [(2, .class_ 4), (1, u "java/lang/Object"), (0, u "<init>"), (0, u "()V"), (17, .class_ 26), (1, u "jdk/internal/util/Preconditions"), (6, u "checkIndex"), (21, .class_ 56), (0, u "jdk/internal/util/Preconditions$4"), (57, .class_ 115), (0, u "jdk/internal/util/Preconditions$1"), (7, u "SIOOBE_FORMATTER"), (0, u "Ljava/util/function/BiFunction;"), (0, .class_ 126), (0, u "jdk/internal/util/Preconditions$2"), (3, u "AIOOBE_FORMATTER"), (0, .class_ 132), (0, u "jdk/internal/util/Preconditions$3"), (3, u "IOOBE_FORMATTER"), (41, u "(IILjava/util/function/BiFunction;)I")] 15

def k18m0 : Method := { name := "<init>", desc := "()V", sig := { parameters := [], returnType := none }, accessFlags := 1, code := none }
def k18c1 : Code := { maxStack := 3, maxLocals := 3, code := jdk_41_method_11_code, exceptionTable := #[], attributes := #[] }
def k18m1 : Method := { name := "checkIndex", desc := "(IILjava/util/function/BiFunction;)I", sig := { parameters := [.int, .int, (.object "java/util/function/BiFunction")], returnType := some .int }, accessFlags := 9, code := some k18c1 }
/-- jdk/internal/util/Preconditions -/
def k18 : Class := { plain "jdk/internal/util/Preconditions" (some 0) with
  accessFlags := 33
  interfaces := #[]
  cf := some (fileOf pool18 24 #[.nestMembers #[55, 131, 125, 114]] #[{ accessFlags := 1, nameIndex := 5, descriptorIndex := 6, attributes := #[] }, { accessFlags := 9, nameIndex := 33, descriptorIndex := 178, attributes := #[] }] 33 2 #[] #[{ accessFlags := 25, nameIndex := 123, descriptorIndex := 124, attributes := #[] }, { accessFlags := 25, nameIndex := 130, descriptorIndex := 124, attributes := #[] }, { accessFlags := 25, nameIndex := 136, descriptorIndex := 124, attributes := #[] }])
  fields := #[{ name := "SIOOBE_FORMATTER", type := (.object "java/util/function/BiFunction"), accessFlags := 25, slot := 0, constantValue := 0 }, { name := "AIOOBE_FORMATTER", type := (.object "java/util/function/BiFunction"), accessFlags := 25, slot := 1, constantValue := 0 }, { name := "IOOBE_FORMATTER", type := (.object "java/util/function/BiFunction"), accessFlags := 25, slot := 2, constantValue := 0 }]
  methods := #[k18m0, k18m1]
  instanceTypes := #[]
  staticTypes := #[(.object "java/util/function/BiFunction"), (.object "java/util/function/BiFunction"), (.object "java/util/function/BiFunction")]
  resolved := Array.replicate 194 none
  statics := some 1 }

def pool19 : Array CpInfo := pool [(1, .class_ 2), (0, u "java/lang/Cloneable"), (0, .class_ 4), (0, u "java/lang/Object")] 2

/-- java/lang/Cloneable -/
def k19 : Class := { plain "java/lang/Cloneable" (some 0) with
  accessFlags := 1537
  interfaces := #[]
  cf := some (fileOf pool19 1 #[] #[] 1537 3 #[] #[])
  fields := #[]
  methods := #[]
  instanceTypes := #[]
  staticTypes := #[]
  resolved := Array.replicate 7 none
  statics := none }

/-- the primitive byte -/
def k20 : Class := { plain "byte" none with kind := .primitive 'B', accessFlags := 0x411 }
/-- [B -/
def k21 : Class := { plain "[B" (some 0) with kind := .array 20 .byte, interfaces := #[19, 2], accessFlags := 1041 }

/-- the primitive char -/
def k22 : Class := { plain "char" none with kind := .primitive 'C', accessFlags := 0x411 }
/-- [C -/
def k23 : Class := { plain "[C" (some 0) with kind := .array 22 .char, interfaces := #[19, 2], accessFlags := 1041 }

/-- the primitive int -/
def k24 : Class := { plain "int" none with kind := .primitive 'I', accessFlags := 0x411 }
/-- [I -/
def k25 : Class := { plain "[I" (some 0) with kind := .array 24 .int, interfaces := #[19, 2], accessFlags := 1041 }

def heap : Heap := #[{ cls := 7, slots := #[.long 0, .int 1, .null, .int 0, .null, .int 0, .int 0], vm := .statics 7 },
  { cls := 18, slots := #[.null, .null, .null], vm := .statics 18 }]
def classes : Array Class := #[k0, k1, k2, k3, k4, k5, k6, k7, k8, k9, k10, k11, k12, k13, k14, k15, k16, k17, k18, k19, k20, k21, k22, k23, k24, k25]
def interned : List (Array UInt16 × Addr) := []
def slotsUsed : Nat := 10
def theMethod : MethodId := ⟨1, 1⟩
def args0 : Array Value := #[.int 257, .int 66306, .int 513]
def aboutOver (below : List Frame) : State where
  vm := { classes := classes, interned := interned.toArray }
  heap := heap
  slotsUsed := slotsUsed
  threads := #[{ frames := .invoking theMethod args0 :: below }]
def below0 : List Frame := [.native { method := ⟨0, 0⟩, args := #[] }]
def about1 : State := aboutOver below0
def p0 : Program := .bare "" "" ""
def e0 : Env := launch0.env 0 0 0
theorem w_frames : about1.frames = Frame.invoking theMethod args0 :: below0 := rfl
set_option maxRecDepth 65536 in
theorem w_args : argsFit about1.vm theMethod args0 = true := by decide +kernel
set_option maxRecDepth 65536 in
theorem w_heap : heapFits about1 = true := by decide +kernel
set_option maxRecDepth 65536 in
theorem w_runnable : about1.curStatus? = some .runnable := by decide +kernel
set_option maxRecDepth 65536 in
theorem w_alone : about1.alone = true := by decide +kernel
set_option maxRecDepth 65536 in
theorem w_named : about1.methodNamed? x = some theMethod := by decide +kernel
set_option maxRecDepth 65536 in
theorem w_hears : about1.hears theMethod below0 = true := by decide +kernel
set_option maxRecDepth 65536 in
theorem w_ripe : about1.ripe theMethod args0 below0 = true := by decide +kernel
theorem w_running : about1.status = .running := rfl
set_option maxRecDepth 65536 in
theorem w_room : about1.hasRoom e0.platform room_1 = true :=
  launch0.hasRoom_least _ room_1 (by decide +kernel) (by decide +kernel) (by decide +kernel) (by decide +kernel) (by decide +kernel) (by decide +kernel)
theorem allAtoms_all (ts : List Jvm.Cond) (a : Array Jvm.Value) (st : Jvm.State) : (allAtoms ts).before a st = ts.all (fun c => c.before a st) := by
  induction ts with
  | nil => rfl
  | cons c t ih =>
    show (Jvm.Cond.and c (allAtoms t)).before a st = _
    rw [Jvm.Cond.before_and, ih, List.all_cons]
def words1 : List Jvm.Cond := Jvm.Cond.code x code maxLocals ret :: tables_1
/-- a 'code' word, met by the world's own term for the bytes: nothing is compared byte by byte -/
theorem code_word {y : MethodName} {bytes : ByteArray} {mx : Nat} {rt : Option FieldType} {a : Array Value} {s : State} {m : MethodId} {meth : Method} {c : Code} (h1 : s.methodNamed? y = some m) (h2 : s.vm.method? m = some meth) (h3 : meth.code = some c) (h4 : c.code = bytes)
    (h5 : (c.maxLocals == mx && c.exceptionTable.isEmpty && decide (c.maxStack ≤ mostOperands) && decide (meth.sig.returnType = rt) && !meth.locks && decide (parseMethodDescriptor y.desc = some meth.sig)) = true) : (Jvm.Cond.code y bytes mx rt).before a s = true := by
  simp only [Bool.and_eq_true, beq_iff_eq, Bool.not_eq_true', decide_eq_true_eq] at h5
  obtain ⟨⟨⟨⟨⟨g1, g2⟩, g3⟩, g4⟩, g5⟩, g6⟩ := h5
  simp [Cond.before, Cond.holds, Cond.value, h1, h2, h3, h4, g1, g2, g3, g4, g5, g6]
def isCode : Jvm.Cond → Bool
  | .code _ _ _ _ => true
  | _ => false
theorem all_split {L : List Jvm.Cond} {P : Jvm.Cond → Bool} (h1 : L.all (fun c => isCode c || P c) = true) (h2 : ∀ c ∈ L.filter isCode, P c = true) : L.all P = true := by
  refine List.all_eq_true.mpr fun c hc => ?_
  have h := List.all_eq_true.mp h1 c hc
  rcases Bool.eq_false_or_eq_true (isCode c) with hi | hi
  · exact h2 c (List.mem_filter.mpr ⟨hc, hi⟩)
  · simpa [hi] using h
set_option maxRecDepth 65536 in
theorem w_c0 : (Jvm.Cond.code x code maxLocals ret).before args0 about1 = true := code_word (m := ⟨1, 1⟩) (meth := k1m1) (c := k1c1) (by decide +kernel) rfl rfl rfl (by decide +kernel)
set_option maxRecDepth 65536 in
theorem w_c1 : (Jvm.Cond.code ({ cls := "com/example/issuer/issuer/identity/CallerRoleArnPinLaw", name := "mk", desc := "(I)Ljava/lang/String;" } : Jvm.MethodName) method_3_code (4 : Nat) (Option.some (Jvm.ClassFile.FieldType.object "java/lang/String"))).before args0 about1 = true := code_word (m := ⟨1, 2⟩) (meth := k1m2) (c := k1c2) (by decide +kernel) rfl rfl rfl (by decide +kernel)
set_option maxRecDepth 65536 in
theorem w_c2 : (Jvm.Cond.code ({ cls := "java/lang/String", name := "<init>", desc := "([C)V" } : Jvm.MethodName) jdk_42_method_3_code (2 : Nat) (Option.none : Option Jvm.ClassFile.FieldType)).before args0 about1 = true := code_word (m := ⟨7, 1⟩) (meth := k7m1) (c := k7c1) (by decide +kernel) rfl rfl rfl (by decide +kernel)
set_option maxRecDepth 65536 in
theorem w_c3 : (Jvm.Cond.code ({ cls := "java/lang/String", name := "<init>", desc := "([CIILjava/lang/Void;)V" } : Jvm.MethodName) jdk_42_method_149_code (6 : Nat) (Option.none : Option Jvm.ClassFile.FieldType)).before args0 about1 = true := code_word (m := ⟨7, 7⟩) (meth := k7m7) (c := k7c7) (by decide +kernel) rfl rfl rfl (by decide +kernel)
set_option maxRecDepth 65536 in
theorem w_c4 : (Jvm.Cond.code ({ cls := "java/lang/Object", name := "<init>", desc := "()V" } : Jvm.MethodName) object_method_1_code (1 : Nat) (Option.none : Option Jvm.ClassFile.FieldType)).before args0 about1 = true := code_word (m := ⟨0, 0⟩) (meth := k0m0) (c := k0c0) (by decide +kernel) rfl rfl rfl (by decide +kernel)
set_option maxRecDepth 65536 in
theorem w_c5 : (Jvm.Cond.code ({ cls := "java/lang/StringUTF16", name := "compress", desc := "([CII)[B" } : Jvm.MethodName) jdk_52_method_16_code (6 : Nat) (Option.some (Jvm.ClassFile.FieldType.array Jvm.ClassFile.FieldType.byte))).before args0 about1 = true := code_word (m := ⟨8, 2⟩) (meth := k8m2) (c := k8c2) (by decide +kernel) rfl rfl rfl (by decide +kernel)
set_option maxRecDepth 65536 in
theorem w_c6 : (Jvm.Cond.code ({ cls := "java/lang/StringUTF16", name := "compress", desc := "([CI[BII)I" } : Jvm.MethodName) jdk_52_method_21_code (7 : Nat) (Option.some Jvm.ClassFile.FieldType.int)).before args0 about1 = true := code_word (m := ⟨8, 3⟩) (meth := k8m3) (c := k8c3) (by decide +kernel) rfl rfl rfl (by decide +kernel)
set_option maxRecDepth 65536 in
theorem w_c7 : (Jvm.Cond.code ({ cls := "java/lang/StringUTF16", name := "coderFromArrayLen", desc := "([BI)B" } : Jvm.MethodName) jdk_52_method_15_code (2 : Nat) (Option.some Jvm.ClassFile.FieldType.byte)).before args0 about1 = true := code_word (m := ⟨8, 1⟩) (meth := k8m1) (c := k8c1) (by decide +kernel) rfl rfl rfl (by decide +kernel)
set_option maxRecDepth 65536 in
theorem w_c8 : (Jvm.Cond.code ({ cls := "com/example/issuer/issuer/identity/Caller", name := "roleArn", desc := "(Ljava/lang/String;Ljava/lang/String;Ljava/lang/String;)Ljava/lang/String;" } : Jvm.MethodName) prog_27_method_6_code (3 : Nat) (Option.some (Jvm.ClassFile.FieldType.object "java/lang/String"))).before args0 about1 = true := code_word (m := ⟨9, 0⟩) (meth := k9m0) (c := k9c0) (by decide +kernel) rfl rfl rfl (by decide +kernel)
set_option maxRecDepth 65536 in
theorem w_c9 : (Jvm.Cond.code ({ cls := "java/lang/StringBuilder", name := "<init>", desc := "()V" } : Jvm.MethodName) jdk_67_method_1_code (1 : Nat) (Option.none : Option Jvm.ClassFile.FieldType)).before args0 about1 = true := code_word (m := ⟨12, 0⟩) (meth := k12m0) (c := k12c0) (by decide +kernel) rfl rfl rfl (by decide +kernel)
set_option maxRecDepth 65536 in
theorem w_c10 : (Jvm.Cond.code ({ cls := "java/lang/AbstractStringBuilder", name := "<init>", desc := "(I)V" } : Jvm.MethodName) jdk_68_method_2_code (2 : Nat) (Option.none : Option Jvm.ClassFile.FieldType)).before args0 about1 = true := code_word (m := ⟨11, 1⟩) (meth := k11m1) (c := k11c1) (by decide +kernel) rfl rfl rfl (by decide +kernel)
set_option maxRecDepth 65536 in
theorem w_c11 : (Jvm.Cond.code ({ cls := "java/lang/StringBuilder", name := "append", desc := "(Ljava/lang/String;)Ljava/lang/StringBuilder;" } : Jvm.MethodName) jdk_67_method_7_code (2 : Nat) (Option.some (Jvm.ClassFile.FieldType.object "java/lang/StringBuilder"))).before args0 about1 = true := code_word (m := ⟨12, 1⟩) (meth := k12m1) (c := k12c1) (by decide +kernel) rfl rfl rfl (by decide +kernel)
set_option maxRecDepth 65536 in
theorem w_c12 : (Jvm.Cond.code ({ cls := "java/lang/AbstractStringBuilder", name := "append", desc := "(Ljava/lang/String;)Ljava/lang/AbstractStringBuilder;" } : Jvm.MethodName) jdk_68_method_22_code (3 : Nat) (Option.some (Jvm.ClassFile.FieldType.object "java/lang/AbstractStringBuilder"))).before args0 about1 = true := code_word (m := ⟨11, 5⟩) (meth := k11m5) (c := k11c5) (by decide +kernel) rfl rfl rfl (by decide +kernel)
set_option maxRecDepth 65536 in
theorem w_c13 : (Jvm.Cond.code ({ cls := "java/lang/String", name := "length", desc := "()I" } : Jvm.MethodName) jdk_42_method_54_code (1 : Nat) (Option.some Jvm.ClassFile.FieldType.int)).before args0 about1 = true := code_word (m := ⟨7, 3⟩) (meth := k7m3) (c := k7c3) (by decide +kernel) rfl rfl rfl (by decide +kernel)
set_option maxRecDepth 65536 in
theorem w_c14 : (Jvm.Cond.code ({ cls := "java/lang/String", name := "coder", desc := "()B" } : Jvm.MethodName) jdk_42_method_152_code (1 : Nat) (Option.some Jvm.ClassFile.FieldType.byte)).before args0 about1 = true := code_word (m := ⟨7, 10⟩) (meth := k7m10) (c := k7c10) (by decide +kernel) rfl rfl rfl (by decide +kernel)
set_option maxRecDepth 65536 in
theorem w_c15 : (Jvm.Cond.code ({ cls := "java/lang/AbstractStringBuilder", name := "ensureCapacityInternal", desc := "(I)V" } : Jvm.MethodName) jdk_68_method_9_code (3 : Nat) (Option.none : Option Jvm.ClassFile.FieldType)).before args0 about1 = true := code_word (m := ⟨11, 3⟩) (meth := k11m3) (c := k11c3) (by decide +kernel) rfl rfl rfl (by decide +kernel)
set_option maxRecDepth 65536 in
theorem w_c16 : (Jvm.Cond.code ({ cls := "java/lang/AbstractStringBuilder", name := "putStringAt", desc := "(ILjava/lang/String;)V" } : Jvm.MethodName) jdk_68_method_73_code (3 : Nat) (Option.none : Option Jvm.ClassFile.FieldType)).before args0 about1 = true := code_word (m := ⟨11, 9⟩) (meth := k11m9) (c := k11c9) (by decide +kernel) rfl rfl rfl (by decide +kernel)
set_option maxRecDepth 65536 in
theorem w_c17 : (Jvm.Cond.code ({ cls := "java/lang/AbstractStringBuilder", name := "inflateIfNeededFor", desc := "(Ljava/lang/String;)V" } : Jvm.MethodName) jdk_68_method_71_code (2 : Nat) (Option.none : Option Jvm.ClassFile.FieldType)).before args0 about1 = true := code_word (m := ⟨11, 8⟩) (meth := k11m8) (c := k11c8) (by decide +kernel) rfl rfl rfl (by decide +kernel)
set_option maxRecDepth 65536 in
theorem w_c18 : (Jvm.Cond.code ({ cls := "java/lang/String", name := "getBytes", desc := "([BIB)V" } : Jvm.MethodName) jdk_42_method_147_code (4 : Nat) (Option.none : Option Jvm.ClassFile.FieldType)).before args0 about1 = true := code_word (m := ⟨7, 6⟩) (meth := k7m6) (c := k7c6) (by decide +kernel) rfl rfl rfl (by decide +kernel)
set_option maxRecDepth 65536 in
theorem w_c19 : (Jvm.Cond.code ({ cls := "java/lang/StringBuilder", name := "toString", desc := "()Ljava/lang/String;" } : Jvm.MethodName) jdk_67_method_42_code (1 : Nat) (Option.some (Jvm.ClassFile.FieldType.object "java/lang/String"))).before args0 about1 = true := code_word (m := ⟨12, 2⟩) (meth := k12m2) (c := k12c2) (by decide +kernel) rfl rfl rfl (by decide +kernel)
set_option maxRecDepth 65536 in
theorem w_c20 : (Jvm.Cond.code ({ cls := "java/lang/String", name := "<init>", desc := "(Ljava/lang/StringBuilder;)V" } : Jvm.MethodName) jdk_42_method_53_code (2 : Nat) (Option.none : Option Jvm.ClassFile.FieldType)).before args0 about1 = true := code_word (m := ⟨7, 2⟩) (meth := k7m2) (c := k7c2) (by decide +kernel) rfl rfl rfl (by decide +kernel)
set_option maxRecDepth 65536 in
theorem w_c21 : (Jvm.Cond.code ({ cls := "java/lang/String", name := "<init>", desc := "(Ljava/lang/AbstractStringBuilder;Ljava/lang/Void;)V" } : Jvm.MethodName) jdk_42_method_150_code (5 : Nat) (Option.none : Option Jvm.ClassFile.FieldType)).before args0 about1 = true := code_word (m := ⟨7, 8⟩) (meth := k7m8) (c := k7c8) (by decide +kernel) rfl rfl rfl (by decide +kernel)
set_option maxRecDepth 65536 in
theorem w_c22 : (Jvm.Cond.code ({ cls := "java/lang/AbstractStringBuilder", name := "getValue", desc := "()[B" } : Jvm.MethodName) jdk_68_method_64_code (1 : Nat) (Option.some (Jvm.ClassFile.FieldType.array Jvm.ClassFile.FieldType.byte))).before args0 about1 = true := code_word (m := ⟨11, 6⟩) (meth := k11m6) (c := k11c6) (by decide +kernel) rfl rfl rfl (by decide +kernel)
set_option maxRecDepth 65536 in
theorem w_c23 : (Jvm.Cond.code ({ cls := "java/lang/StringBuilder", name := "length", desc := "()I" } : Jvm.MethodName) jdk_67_method_93_code (1 : Nat) (Option.some Jvm.ClassFile.FieldType.int)).before args0 about1 = true := code_word (m := ⟨12, 3⟩) (meth := k12m3) (c := k12c3) (by decide +kernel) rfl rfl rfl (by decide +kernel)
set_option maxRecDepth 65536 in
theorem w_c24 : (Jvm.Cond.code ({ cls := "java/lang/AbstractStringBuilder", name := "length", desc := "()I" } : Jvm.MethodName) jdk_68_method_6_code (1 : Nat) (Option.some Jvm.ClassFile.FieldType.int)).before args0 about1 = true := code_word (m := ⟨11, 2⟩) (meth := k11m2) (c := k11c2) (by decide +kernel) rfl rfl rfl (by decide +kernel)
set_option maxRecDepth 65536 in
theorem w_c25 : (Jvm.Cond.code ({ cls := "java/lang/AbstractStringBuilder", name := "isLatin1", desc := "()Z" } : Jvm.MethodName) jdk_68_method_68_code (1 : Nat) (Option.some Jvm.ClassFile.FieldType.boolean)).before args0 about1 = true := code_word (m := ⟨11, 7⟩) (meth := k11m7) (c := k11c7) (by decide +kernel) rfl rfl rfl (by decide +kernel)
set_option maxRecDepth 65536 in
theorem w_c26 : (Jvm.Cond.code ({ cls := "java/util/Arrays", name := "copyOfRange", desc := "([BII)[B" } : Jvm.MethodName) jdk_65_method_132_code (3 : Nat) (Option.some (Jvm.ClassFile.FieldType.array Jvm.ClassFile.FieldType.byte))).before args0 about1 = true := code_word (m := ⟨14, 3⟩) (meth := k14m3) (c := k14c3) (by decide +kernel) rfl rfl rfl (by decide +kernel)
set_option maxRecDepth 65536 in
theorem w_c27 : (Jvm.Cond.code ({ cls := "java/util/Arrays", name := "copyOfRangeByte", desc := "([BII)[B" } : Jvm.MethodName) jdk_65_method_133_code (5 : Nat) (Option.some (Jvm.ClassFile.FieldType.array Jvm.ClassFile.FieldType.byte))).before args0 about1 = true := code_word (m := ⟨14, 4⟩) (meth := k14m4) (c := k14c4) (by decide +kernel) rfl rfl rfl (by decide +kernel)
set_option maxRecDepth 65536 in
theorem w_c28 : (Jvm.Cond.code ({ cls := "java/util/Arrays", name := "checkLength", desc := "(II)V" } : Jvm.MethodName) jdk_65_method_131_code (2 : Nat) (Option.none : Option Jvm.ClassFile.FieldType)).before args0 about1 = true := code_word (m := ⟨14, 2⟩) (meth := k14m2) (c := k14c2) (by decide +kernel) rfl rfl rfl (by decide +kernel)
set_option maxRecDepth 65536 in
theorem w_c29 : (Jvm.Cond.code ({ cls := "java/lang/Math", name := "min", desc := "(II)I" } : Jvm.MethodName) jdk_29_method_69_code (2 : Nat) (Option.some Jvm.ClassFile.FieldType.int)).before args0 about1 = true := code_word (m := ⟨15, 2⟩) (meth := k15m2) (c := k15c2) (by decide +kernel) rfl rfl rfl (by decide +kernel)
set_option maxRecDepth 65536 in
theorem w_c30 : (Jvm.Cond.code ({ cls := "com/example/issuer/issuer/identity/Caller", name := "arn", desc := "(Ljava/lang/String;Ljava/lang/String;Ljava/lang/String;Ljava/lang/String;)Ljava/lang/String;" } : Jvm.MethodName) prog_27_method_21_code (4 : Nat) (Option.some (Jvm.ClassFile.FieldType.object "java/lang/String"))).before args0 about1 = true := code_word (m := ⟨9, 1⟩) (meth := k9m1) (c := k9c1) (by decide +kernel) rfl rfl rfl (by decide +kernel)
set_option maxRecDepth 65536 in
theorem w_c31 : (Jvm.Cond.code ({ cls := "java/lang/AbstractStringBuilder", name := "newCapacity", desc := "(I)I" } : Jvm.MethodName) jdk_68_method_10_code (6 : Nat) (Option.some Jvm.ClassFile.FieldType.int)).before args0 about1 = true := code_word (m := ⟨11, 4⟩) (meth := k11m4) (c := k11c4) (by decide +kernel) rfl rfl rfl (by decide +kernel)
set_option maxRecDepth 65536 in
theorem w_c32 : (Jvm.Cond.code ({ cls := "jdk/internal/util/ArraysSupport", name := "newLength", desc := "(III)I" } : Jvm.MethodName) jdk_48_method_27_code (4 : Nat) (Option.some Jvm.ClassFile.FieldType.int)).before args0 about1 = true := code_word (m := ⟨16, 1⟩) (meth := k16m1) (c := k16c1) (by decide +kernel) rfl rfl rfl (by decide +kernel)
set_option maxRecDepth 65536 in
theorem w_c33 : (Jvm.Cond.code ({ cls := "java/lang/Math", name := "max", desc := "(II)I" } : Jvm.MethodName) jdk_29_method_65_code (2 : Nat) (Option.some Jvm.ClassFile.FieldType.int)).before args0 about1 = true := code_word (m := ⟨15, 1⟩) (meth := k15m1) (c := k15c1) (by decide +kernel) rfl rfl rfl (by decide +kernel)
set_option maxRecDepth 65536 in
theorem w_c34 : (Jvm.Cond.code ({ cls := "java/util/Arrays", name := "copyOf", desc := "([BI)[B" } : Jvm.MethodName) jdk_65_method_121_code (3 : Nat) (Option.some (Jvm.ClassFile.FieldType.array Jvm.ClassFile.FieldType.byte))).before args0 about1 = true := code_word (m := ⟨14, 1⟩) (meth := k14m1) (c := k14c1) (by decide +kernel) rfl rfl rfl (by decide +kernel)
set_option maxRecDepth 65536 in
theorem w_c35 : (Jvm.Cond.code ({ cls := "com/example/issuer/issuer/identity/CallerRoleArnPinLaw", name := "lit", desc := "(Ljava/lang/String;ILjava/lang/String;)Z" } : Jvm.MethodName) method_4_code (4 : Nat) (Option.some Jvm.ClassFile.FieldType.boolean)).before args0 about1 = true := code_word (m := ⟨1, 3⟩) (meth := k1m3) (c := k1c3) (by decide +kernel) rfl rfl rfl (by decide +kernel)
set_option maxRecDepth 65536 in
theorem w_c36 : (Jvm.Cond.code ({ cls := "java/lang/String", name := "charAt", desc := "(I)C" } : Jvm.MethodName) jdk_42_method_56_code (2 : Nat) (Option.some Jvm.ClassFile.FieldType.char)).before args0 about1 = true := code_word (m := ⟨7, 4⟩) (meth := k7m4) (c := k7c4) (by decide +kernel) rfl rfl rfl (by decide +kernel)
set_option maxRecDepth 65536 in
theorem w_c37 : (Jvm.Cond.code ({ cls := "java/lang/String", name := "isLatin1", desc := "()Z" } : Jvm.MethodName) jdk_42_method_154_code (1 : Nat) (Option.some Jvm.ClassFile.FieldType.boolean)).before args0 about1 = true := code_word (m := ⟨7, 11⟩) (meth := k7m11) (c := k7c11) (by decide +kernel) rfl rfl rfl (by decide +kernel)
set_option maxRecDepth 65536 in
theorem w_c38 : (Jvm.Cond.code ({ cls := "java/lang/StringLatin1", name := "charAt", desc := "([BI)C" } : Jvm.MethodName) jdk_43_method_2_code (2 : Nat) (Option.some Jvm.ClassFile.FieldType.char)).before args0 about1 = true := code_word (m := ⟨17, 1⟩) (meth := k17m1) (c := k17c1) (by decide +kernel) rfl rfl rfl (by decide +kernel)
set_option maxRecDepth 65536 in
theorem w_c39 : (Jvm.Cond.code ({ cls := "java/lang/String", name := "checkIndex", desc := "(II)V" } : Jvm.MethodName) jdk_42_method_155_code (2 : Nat) (Option.none : Option Jvm.ClassFile.FieldType)).before args0 about1 = true := code_word (m := ⟨7, 12⟩) (meth := k7m12) (c := k7c12) (by decide +kernel) rfl rfl rfl (by decide +kernel)
set_option maxRecDepth 65536 in
theorem w_c40 : (Jvm.Cond.code ({ cls := "jdk/internal/util/Preconditions", name := "checkIndex", desc := "(IILjava/util/function/BiFunction;)I" } : Jvm.MethodName) jdk_41_method_11_code (3 : Nat) (Option.some Jvm.ClassFile.FieldType.int)).before args0 about1 = true := code_word (m := ⟨18, 1⟩) (meth := k18m1) (c := k18c1) (by decide +kernel) rfl rfl rfl (by decide +kernel)
set_option maxRecDepth 65536 in
theorem w_c41 : (Jvm.Cond.code ({ cls := "java/lang/String", name := "valueOf", desc := "(C)Ljava/lang/String;" } : Jvm.MethodName) jdk_42_method_139_code (1 : Nat) (Option.some (Jvm.ClassFile.FieldType.object "java/lang/String"))).before args0 about1 = true := code_word (m := ⟨7, 5⟩) (meth := k7m5) (c := k7c5) (by decide +kernel) rfl rfl rfl (by decide +kernel)
set_option maxRecDepth 65536 in
theorem w_c42 : (Jvm.Cond.code ({ cls := "java/lang/StringLatin1", name := "canEncode", desc := "(C)Z" } : Jvm.MethodName) jdk_43_method_3_code (1 : Nat) (Option.some Jvm.ClassFile.FieldType.boolean)).before args0 about1 = true := code_word (m := ⟨17, 2⟩) (meth := k17m2) (c := k17c2) (by decide +kernel) rfl rfl rfl (by decide +kernel)
set_option maxRecDepth 65536 in
theorem w_c43 : (Jvm.Cond.code ({ cls := "java/lang/StringLatin1", name := "toBytes", desc := "(C)[B" } : Jvm.MethodName) jdk_43_method_46_code (1 : Nat) (Option.some (Jvm.ClassFile.FieldType.array Jvm.ClassFile.FieldType.byte))).before args0 about1 = true := code_word (m := ⟨17, 3⟩) (meth := k17m3) (c := k17c3) (by decide +kernel) rfl rfl rfl (by decide +kernel)
set_option maxRecDepth 65536 in
theorem w_c44 : (Jvm.Cond.code ({ cls := "java/lang/String", name := "<init>", desc := "([BB)V" } : Jvm.MethodName) jdk_42_method_151_code (3 : Nat) (Option.none : Option Jvm.ClassFile.FieldType)).before args0 about1 = true := code_word (m := ⟨7, 9⟩) (meth := k7m9) (c := k7c9) (by decide +kernel) rfl rfl rfl (by decide +kernel)
def codes1 : List Jvm.Cond := [Jvm.Cond.code x code maxLocals ret, Jvm.Cond.code ({ cls := "com/example/issuer/issuer/identity/CallerRoleArnPinLaw", name := "mk", desc := "(I)Ljava/lang/String;" } : Jvm.MethodName) method_3_code (4 : Nat) (Option.some (Jvm.ClassFile.FieldType.object "java/lang/String")), Jvm.Cond.code ({ cls := "java/lang/String", name := "<init>", desc := "([C)V" } : Jvm.MethodName) jdk_42_method_3_code (2 : Nat) (Option.none : Option Jvm.ClassFile.FieldType), Jvm.Cond.code ({ cls := "java/lang/String", name := "<init>", desc := "([CIILjava/lang/Void;)V" } : Jvm.MethodName) jdk_42_method_149_code (6 : Nat) (Option.none : Option Jvm.ClassFile.FieldType), Jvm.Cond.code ({ cls := "java/lang/Object", name := "<init>", desc := "()V" } : Jvm.MethodName) object_method_1_code (1 : Nat) (Option.none : Option Jvm.ClassFile.FieldType), Jvm.Cond.code ({ cls := "java/lang/StringUTF16", name := "compress", desc := "([CII)[B" } : Jvm.MethodName) jdk_52_method_16_code (6 : Nat) (Option.some (Jvm.ClassFile.FieldType.array Jvm.ClassFile.FieldType.byte)), Jvm.Cond.code ({ cls := "java/lang/StringUTF16", name := "compress", desc := "([CI[BII)I" } : Jvm.MethodName) jdk_52_method_21_code (7 : Nat) (Option.some Jvm.ClassFile.FieldType.int), Jvm.Cond.code ({ cls := "java/lang/StringUTF16", name := "coderFromArrayLen", desc := "([BI)B" } : Jvm.MethodName) jdk_52_method_15_code (2 : Nat) (Option.some Jvm.ClassFile.FieldType.byte), Jvm.Cond.code ({ cls := "com/example/issuer/issuer/identity/Caller", name := "roleArn", desc := "(Ljava/lang/String;Ljava/lang/String;Ljava/lang/String;)Ljava/lang/String;" } : Jvm.MethodName) prog_27_method_6_code (3 : Nat) (Option.some (Jvm.ClassFile.FieldType.object "java/lang/String")), Jvm.Cond.code ({ cls := "java/lang/StringBuilder", name := "<init>", desc := "()V" } : Jvm.MethodName) jdk_67_method_1_code (1 : Nat) (Option.none : Option Jvm.ClassFile.FieldType), Jvm.Cond.code ({ cls := "java/lang/AbstractStringBuilder", name := "<init>", desc := "(I)V" } : Jvm.MethodName) jdk_68_method_2_code (2 : Nat) (Option.none : Option Jvm.ClassFile.FieldType), Jvm.Cond.code ({ cls := "java/lang/StringBuilder", name := "append", desc := "(Ljava/lang/String;)Ljava/lang/StringBuilder;" } : Jvm.MethodName) jdk_67_method_7_code (2 : Nat) (Option.some (Jvm.ClassFile.FieldType.object "java/lang/StringBuilder")), Jvm.Cond.code ({ cls := "java/lang/AbstractStringBuilder", name := "append", desc := "(Ljava/lang/String;)Ljava/lang/AbstractStringBuilder;" } : Jvm.MethodName) jdk_68_method_22_code (3 : Nat) (Option.some (Jvm.ClassFile.FieldType.object "java/lang/AbstractStringBuilder")), Jvm.Cond.code ({ cls := "java/lang/String", name := "length", desc := "()I" } : Jvm.MethodName) jdk_42_method_54_code (1 : Nat) (Option.some Jvm.ClassFile.FieldType.int), Jvm.Cond.code ({ cls := "java/lang/String", name := "coder", desc := "()B" } : Jvm.MethodName) jdk_42_method_152_code (1 : Nat) (Option.some Jvm.ClassFile.FieldType.byte), Jvm.Cond.code ({ cls := "java/lang/AbstractStringBuilder", name := "ensureCapacityInternal", desc := "(I)V" } : Jvm.MethodName) jdk_68_method_9_code (3 : Nat) (Option.none : Option Jvm.ClassFile.FieldType), Jvm.Cond.code ({ cls := "java/lang/AbstractStringBuilder", name := "putStringAt", desc := "(ILjava/lang/String;)V" } : Jvm.MethodName) jdk_68_method_73_code (3 : Nat) (Option.none : Option Jvm.ClassFile.FieldType), Jvm.Cond.code ({ cls := "java/lang/AbstractStringBuilder", name := "inflateIfNeededFor", desc := "(Ljava/lang/String;)V" } : Jvm.MethodName) jdk_68_method_71_code (2 : Nat) (Option.none : Option Jvm.ClassFile.FieldType), Jvm.Cond.code ({ cls := "java/lang/String", name := "getBytes", desc := "([BIB)V" } : Jvm.MethodName) jdk_42_method_147_code (4 : Nat) (Option.none : Option Jvm.ClassFile.FieldType), Jvm.Cond.code ({ cls := "java/lang/StringBuilder", name := "toString", desc := "()Ljava/lang/String;" } : Jvm.MethodName) jdk_67_method_42_code (1 : Nat) (Option.some (Jvm.ClassFile.FieldType.object "java/lang/String")), Jvm.Cond.code ({ cls := "java/lang/String", name := "<init>", desc := "(Ljava/lang/StringBuilder;)V" } : Jvm.MethodName) jdk_42_method_53_code (2 : Nat) (Option.none : Option Jvm.ClassFile.FieldType), Jvm.Cond.code ({ cls := "java/lang/String", name := "<init>", desc := "(Ljava/lang/AbstractStringBuilder;Ljava/lang/Void;)V" } : Jvm.MethodName) jdk_42_method_150_code (5 : Nat) (Option.none : Option Jvm.ClassFile.FieldType), Jvm.Cond.code ({ cls := "java/lang/AbstractStringBuilder", name := "getValue", desc := "()[B" } : Jvm.MethodName) jdk_68_method_64_code (1 : Nat) (Option.some (Jvm.ClassFile.FieldType.array Jvm.ClassFile.FieldType.byte)), Jvm.Cond.code ({ cls := "java/lang/StringBuilder", name := "length", desc := "()I" } : Jvm.MethodName) jdk_67_method_93_code (1 : Nat) (Option.some Jvm.ClassFile.FieldType.int), Jvm.Cond.code ({ cls := "java/lang/AbstractStringBuilder", name := "length", desc := "()I" } : Jvm.MethodName) jdk_68_method_6_code (1 : Nat) (Option.some Jvm.ClassFile.FieldType.int), Jvm.Cond.code ({ cls := "java/lang/AbstractStringBuilder", name := "isLatin1", desc := "()Z" } : Jvm.MethodName) jdk_68_method_68_code (1 : Nat) (Option.some Jvm.ClassFile.FieldType.boolean), Jvm.Cond.code ({ cls := "java/util/Arrays", name := "copyOfRange", desc := "([BII)[B" } : Jvm.MethodName) jdk_65_method_132_code (3 : Nat) (Option.some (Jvm.ClassFile.FieldType.array Jvm.ClassFile.FieldType.byte)), Jvm.Cond.code ({ cls := "java/util/Arrays", name := "copyOfRangeByte", desc := "([BII)[B" } : Jvm.MethodName) jdk_65_method_133_code (5 : Nat) (Option.some (Jvm.ClassFile.FieldType.array Jvm.ClassFile.FieldType.byte)), Jvm.Cond.code ({ cls := "java/util/Arrays", name := "checkLength", desc := "(II)V" } : Jvm.MethodName) jdk_65_method_131_code (2 : Nat) (Option.none : Option Jvm.ClassFile.FieldType), Jvm.Cond.code ({ cls := "java/lang/Math", name := "min", desc := "(II)I" } : Jvm.MethodName) jdk_29_method_69_code (2 : Nat) (Option.some Jvm.ClassFile.FieldType.int), Jvm.Cond.code ({ cls := "com/example/issuer/issuer/identity/Caller", name := "arn", desc := "(Ljava/lang/String;Ljava/lang/String;Ljava/lang/String;Ljava/lang/String;)Ljava/lang/String;" } : Jvm.MethodName) prog_27_method_21_code (4 : Nat) (Option.some (Jvm.ClassFile.FieldType.object "java/lang/String")), Jvm.Cond.code ({ cls := "java/lang/AbstractStringBuilder", name := "newCapacity", desc := "(I)I" } : Jvm.MethodName) jdk_68_method_10_code (6 : Nat) (Option.some Jvm.ClassFile.FieldType.int), Jvm.Cond.code ({ cls := "jdk/internal/util/ArraysSupport", name := "newLength", desc := "(III)I" } : Jvm.MethodName) jdk_48_method_27_code (4 : Nat) (Option.some Jvm.ClassFile.FieldType.int), Jvm.Cond.code ({ cls := "java/lang/Math", name := "max", desc := "(II)I" } : Jvm.MethodName) jdk_29_method_65_code (2 : Nat) (Option.some Jvm.ClassFile.FieldType.int), Jvm.Cond.code ({ cls := "java/util/Arrays", name := "copyOf", desc := "([BI)[B" } : Jvm.MethodName) jdk_65_method_121_code (3 : Nat) (Option.some (Jvm.ClassFile.FieldType.array Jvm.ClassFile.FieldType.byte)), Jvm.Cond.code ({ cls := "com/example/issuer/issuer/identity/CallerRoleArnPinLaw", name := "lit", desc := "(Ljava/lang/String;ILjava/lang/String;)Z" } : Jvm.MethodName) method_4_code (4 : Nat) (Option.some Jvm.ClassFile.FieldType.boolean), Jvm.Cond.code ({ cls := "java/lang/String", name := "charAt", desc := "(I)C" } : Jvm.MethodName) jdk_42_method_56_code (2 : Nat) (Option.some Jvm.ClassFile.FieldType.char), Jvm.Cond.code ({ cls := "java/lang/String", name := "isLatin1", desc := "()Z" } : Jvm.MethodName) jdk_42_method_154_code (1 : Nat) (Option.some Jvm.ClassFile.FieldType.boolean), Jvm.Cond.code ({ cls := "java/lang/StringLatin1", name := "charAt", desc := "([BI)C" } : Jvm.MethodName) jdk_43_method_2_code (2 : Nat) (Option.some Jvm.ClassFile.FieldType.char), Jvm.Cond.code ({ cls := "java/lang/String", name := "checkIndex", desc := "(II)V" } : Jvm.MethodName) jdk_42_method_155_code (2 : Nat) (Option.none : Option Jvm.ClassFile.FieldType), Jvm.Cond.code ({ cls := "jdk/internal/util/Preconditions", name := "checkIndex", desc := "(IILjava/util/function/BiFunction;)I" } : Jvm.MethodName) jdk_41_method_11_code (3 : Nat) (Option.some Jvm.ClassFile.FieldType.int), Jvm.Cond.code ({ cls := "java/lang/String", name := "valueOf", desc := "(C)Ljava/lang/String;" } : Jvm.MethodName) jdk_42_method_139_code (1 : Nat) (Option.some (Jvm.ClassFile.FieldType.object "java/lang/String")), Jvm.Cond.code ({ cls := "java/lang/StringLatin1", name := "canEncode", desc := "(C)Z" } : Jvm.MethodName) jdk_43_method_3_code (1 : Nat) (Option.some Jvm.ClassFile.FieldType.boolean), Jvm.Cond.code ({ cls := "java/lang/StringLatin1", name := "toBytes", desc := "(C)[B" } : Jvm.MethodName) jdk_43_method_46_code (1 : Nat) (Option.some (Jvm.ClassFile.FieldType.array Jvm.ClassFile.FieldType.byte)), Jvm.Cond.code ({ cls := "java/lang/String", name := "<init>", desc := "([BB)V" } : Jvm.MethodName) jdk_42_method_151_code (3 : Nat) (Option.none : Option Jvm.ClassFile.FieldType)]
set_option maxRecDepth 65536 in
theorem codes_eq : words1.filter isCode = codes1 := rfl
theorem w_codes : ∀ c ∈ words1.filter isCode, c.before args0 about1 = true := by
  rw [codes_eq]
  intro c hc
  simp only [codes1, List.mem_cons, List.not_mem_nil, or_false] at hc
  rcases hc with rfl | rfl | rfl | rfl | rfl | rfl | rfl | rfl | rfl | rfl | rfl | rfl | rfl | rfl | rfl | rfl | rfl | rfl | rfl | rfl | rfl | rfl | rfl | rfl | rfl | rfl | rfl | rfl | rfl | rfl | rfl | rfl | rfl | rfl | rfl | rfl | rfl | rfl | rfl | rfl | rfl | rfl | rfl | rfl | rfl
  · exact w_c0
  · exact w_c1
  · exact w_c2
  · exact w_c3
  · exact w_c4
  · exact w_c5
  · exact w_c6
  · exact w_c7
  · exact w_c8
  · exact w_c9
  · exact w_c10
  · exact w_c11
  · exact w_c12
  · exact w_c13
  · exact w_c14
  · exact w_c15
  · exact w_c16
  · exact w_c17
  · exact w_c18
  · exact w_c19
  · exact w_c20
  · exact w_c21
  · exact w_c22
  · exact w_c23
  · exact w_c24
  · exact w_c25
  · exact w_c26
  · exact w_c27
  · exact w_c28
  · exact w_c29
  · exact w_c30
  · exact w_c31
  · exact w_c32
  · exact w_c33
  · exact w_c34
  · exact w_c35
  · exact w_c36
  · exact w_c37
  · exact w_c38
  · exact w_c39
  · exact w_c40
  · exact w_c41
  · exact w_c42
  · exact w_c43
  · exact w_c44
set_option maxRecDepth 65536 in
theorem w_t1 : (words1.take 24).all (fun c => isCode c || c.before args0 about1) = true := by decide +kernel
set_option maxRecDepth 65536 in
theorem w_t2 : ((words1.drop 24).take 24).all (fun c => isCode c || c.before args0 about1) = true := by decide +kernel
set_option maxRecDepth 65536 in
theorem w_t3 : (((words1.drop 24).drop 24).take 24).all (fun c => isCode c || c.before args0 about1) = true := by decide +kernel
set_option maxRecDepth 65536 in
theorem w_t4 : ((((words1.drop 24).drop 24).drop 24).take 24).all (fun c => isCode c || c.before args0 about1) = true := by decide +kernel
set_option maxRecDepth 65536 in
theorem w_t5 : (((((words1.drop 24).drop 24).drop 24).drop 24).take 24).all (fun c => isCode c || c.before args0 about1) = true := by decide +kernel
set_option maxRecDepth 65536 in
theorem w_t6 : ((((((words1.drop 24).drop 24).drop 24).drop 24).drop 24).take 24).all (fun c => isCode c || c.before args0 about1) = true := by decide +kernel
set_option maxRecDepth 65536 in
theorem w_t7 : (((((((words1.drop 24).drop 24).drop 24).drop 24).drop 24).drop 24).take 24).all (fun c => isCode c || c.before args0 about1) = true := by decide +kernel
set_option maxRecDepth 65536 in
theorem w_t8 : ((((((((words1.drop 24).drop 24).drop 24).drop 24).drop 24).drop 24).drop 24).take 24).all (fun c => isCode c || c.before args0 about1) = true := by decide +kernel
set_option maxRecDepth 65536 in
theorem w_t9 : (((((((((words1.drop 24).drop 24).drop 24).drop 24).drop 24).drop 24).drop 24).drop 24).take 24).all (fun c => isCode c || c.before args0 about1) = true := by decide +kernel
set_option maxRecDepth 65536 in
theorem w_t10 : (((((((((words1.drop 24).drop 24).drop 24).drop 24).drop 24).drop 24).drop 24).drop 24).drop 24).all (fun c => isCode c || c.before args0 about1) = true := by decide +kernel
theorem w_tables : (allAtoms (Jvm.Cond.code x code maxLocals ret :: tables_1)).before args0 about1 = true := by
  rw [allAtoms_all]
  show words1.all (fun c => c.before args0 about1) = true
  refine all_split ?_ w_codes
  rw [← List.take_append_drop 24 words1, List.all_append, w_t1, ← List.take_append_drop 24 (words1.drop 24), List.all_append, w_t2, ← List.take_append_drop 24 ((words1.drop 24).drop 24), List.all_append, w_t3, ← List.take_append_drop 24 (((words1.drop 24).drop 24).drop 24), List.all_append, w_t4, ← List.take_append_drop 24 ((((words1.drop 24).drop 24).drop 24).drop 24), List.all_append, w_t5, ← List.take_append_drop 24 (((((words1.drop 24).drop 24).drop 24).drop 24).drop 24), List.all_append, w_t6, ← List.take_append_drop 24 ((((((words1.drop 24).drop 24).drop 24).drop 24).drop 24).drop 24), List.all_append, w_t7, ← List.take_append_drop 24 (((((((words1.drop 24).drop 24).drop 24).drop 24).drop 24).drop 24).drop 24), List.all_append, w_t8, ← List.take_append_drop 24 ((((((((words1.drop 24).drop 24).drop 24).drop 24).drop 24).drop 24).drop 24).drop 24), List.all_append, w_t9, w_t10]
  rfl
set_option maxRecDepth 65536 in
theorem w_rest : rest_1_c.before args0 about1 = true := by decide +kernel
set_option maxRecDepth 65536 in
theorem w_case : (Jvm.Cond.and given_1 narrow_1).before args0 about1 = true := by decide +kernel
set_option maxRecDepth 65536 in
theorem w_consts : constsHeld consts_1 about1 := Jvm.Lit.constsHeldB_iff.mp (by decide +kernel)
theorem w_applies : (headSpec (Jvm.Cond.code x code maxLocals ret :: tables_1) room_1).applies x e0.platform about1 = true :=
  (Spec.applies_iff w_frames).mpr ⟨w_running, w_runnable, w_alone, w_named, w_hears, w_ripe, w_room, w_tables⟩
theorem atStart : AtStart classFile x code maxLocals ret World_1 tables_1 room_1 Calls_1 rest_1 Pre_1 launch0 p0 e0 about1 theMethod args0 below0 :=
  ⟨lists_1, trivial, launch0.admits_env _ _ _, launch0.least_env, fairChoices_fair.cas, fairChoices_fair.clock, w_frames, w_args, w_heap, w_applies, ⟨w_consts, trivial⟩, w_rest, w_case⟩
end start1
theorem witness_1 : WitnessClaimed_1 := ⟨start1.p0, start1.e0, start1.about1, start1.theMethod, start1.args0, start1.below0, start1.atStart⟩
end Jvm.Pilot.@@N@@
