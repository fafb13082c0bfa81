import JvmDerived
import JvmDerived.Pilot.@@N@@Statement
import JvmDerived.Pilot.@@N@@Code
set_option linter.unusedVariables false
set_option linter.unusedSimpArgs false

namespace Jvm.Pilot.@@N@@
open Jvm Jvm.ClassFile Sem Op Lib Jvm.Free Jvm.Stand Jvm.LawKit Jvm.RoadKit Bundle Jvm.Pilot.@@N@@.Jvm.D
/-- from every end that the second place reaches the first does -/
abbrev own_To (p : Program) (e : Env) (below : List Frame) (T' : State) (f' : JFrame) (T : State) (f : JFrame) : Prop := ∀ t, Steps p.tables e below (T'.setTop f') t → Steps p.tables e below (T.setTop f) t
/-- the places written so far, by a name -/
theorem own_fold {p : Program} {l : Launch} {e : Env} {R : Room} {s : State} {m : MethodId} {args : Array Value} {below : List Frame} {meth : Method} {c : Code} {T : State} {locs : List Loc} {cells slots n0 : Nat} (X : Stand p l e R s m args below meth c T locs cells slots) (N : Fr n0 locs) : ∃ L, Fr n0 L ∧ Stand p l e R s m args below meth c T L cells slots := ⟨locs, N, X⟩
def own_iN : Nat → String := fun i => match i with | 0 => "builtinCount" | 1 => "disjunctionCount" | 2 => "builtinsLooked" | 3 => "disjunctionsLooked" | 4 => "settledDisjunctions" | 5 => "readyCount" | 6 => "readyTaken" | 7 => "matchedCount" | 8 => "watchCount" | _ => "trailLooked"
def own_aN : Nat → String := fun j => match j with | 0 => "readyDisjunctions" | 1 => "builtins" | 2 => "disjunctions" | 3 => "matchedEntries" | 4 => "builtinMarks" | 5 => "disjunctionMarks" | 6 => "builtinsLookedMarks" | 7 => "disjunctionsLookedMarks" | 8 => "settledMarks" | 9 => "readyMarks" | 10 => "readyTakenMarks" | 11 => "matchedMarks" | 12 => "watchMarks" | 13 => "trailLookedMarks" | 14 => "matched" | _ => "awaited"
def own_aD : Nat → String := fun j => match j with | 14 => "[Z" | 15 => "[[I" | _ => "[I"
def own_aF : Nat → FieldType := fun j => match j with | 14 => .array .boolean | 15 => .array (.array .int) | _ => .array .int
def own_aT : Nat → FieldType := fun j => match j with | 14 => .boolean | _ => .int
def own_aL : Nat → Int32 := fun j => match j with | 0 => 16 | _ => 4
/-- an array of ints or booleans of length z; place i holds g i -/
def own_B (Z : State) (h : Heap) (a : Addr) (ty : FieldType) (z : Int32) (g : Nat → Int32) : Prop := ∃ c : Cell, Arr Z h a c ty ∧ c.slots.size = z.toNatClampNeg ∧ ¬ z < 0 ∧ ∀ i, i < c.slots.size → c.slots[i]? = some (.int (g i))
/-- an int[][] of length 4 -/
def own_R (Z : State) (h : Heap) (a : Addr) : Prop := ∃ c : Cell, Arr Z h a c (.array .int) ∧ c.slots.size = 4 ∧ OvrA Z c.cls .int "[I"
def own_u (I : Nat → Int32) (i : Nat) (x : Int32) : Nat → Int32 := fun k => if k = i then x else I k
def own_g (G : Nat → Nat → Int32) (j i : Nat) (x : Int32) : Nat → Nat → Int32 := fun j' i' => if j' = j then (if i' = i then x else G j' i') else G j' i'
def own_W (Z : State) (h : Heap) (w : Addr) (A : Nat → Addr) (I : Nat → Int32) (G : Nat → Nat → Int32) : Prop :=
  Exa Z h w "com/example/hornloom/hornloom/engine/WaitList" ∧ (∀ i, i < 10 → Fld Z h w "com/example/hornloom/hornloom/engine/WaitList" (own_iN i) "I" (.int (I i))) ∧ (∀ j, j < 16 → Fld Z h w "com/example/hornloom/hornloom/engine/WaitList" (own_aN j) (own_aD j) (.ref (A j))) ∧ (∀ j, j < 15 → own_B Z h (A j) (own_aT j) (own_aL j) (G j)) ∧ own_R Z h (A 15)
/-- which address isn't which -/
def own_D (n0 : Nat) (w : Addr) (A : Nat → Addr) : Prop := n0 ≤ w ∧ (∀ j, j < 16 → n0 ≤ A j ∧ w ≠ A j) ∧ ∀ i j, i < 16 → j < 16 → i ≠ j → A i ≠ A j
def own_L (Z : State) (a0 : Array Value) : Prop := (∀ i, i < 10 → Laid Z a0 "com/example/hornloom/hornloom/engine/WaitList" "com/example/hornloom/hornloom/engine/WaitList" (own_iN i) "I") ∧ ∀ j, j < 16 → Laid Z a0 "com/example/hornloom/hornloom/engine/WaitList" "com/example/hornloom/hornloom/engine/WaitList" (own_aN j) (own_aD j)
theorem own_iNe : ∀ i : Fin 10, ∀ k : Fin 10, k ≠ i → own_iN k ≠ own_iN i := by decide
theorem own_aNe : ∀ j : Fin 16, ∀ i : Fin 10, own_aN j ≠ own_iN i := by decide
theorem own_aFe : ∀ j : Fin 16, parseFieldDescriptor (own_aD j) = some (own_aF j) := by decide
theorem own_B.other {Z : State} {h h' : Heap} {a b : Addr} {ty : FieldType} {z : Int32} {g : Nat → Int32} {sl : Nat} {v : Value} (V : own_B Z h b ty z g) (W : Wr h h' a sl v) (q : b ≠ a) : own_B Z h' b ty z g := by obtain ⟨c, A, r⟩ := V; exact ⟨c, A.other W q, r⟩
theorem own_B.keep {Z : State} {h h' : Heap} {a : Addr} {ty : FieldType} {z : Int32} {g : Nat → Int32} {ws : List Addr} (V : own_B Z h a ty z g) (K : Keep h h' ws) (q : a ∉ ws) : own_B Z h' a ty z g := by obtain ⟨c, A, r⟩ := V; exact ⟨c, ⟨K.2.1 a c A.1 q, A.2⟩, r⟩
theorem own_B.set {Z : State} {h h' : Heap} {a : Addr} {ty : FieldType} {z i x : Int32} {g : Nat → Int32} {c : Cell} (A : Arr Z h a c ty) (S : c.slots.size = z.toNatClampNeg) (M : ¬ z < 0) (H : ∀ j, j < c.slots.size → c.slots[j]? = some (.int (g j))) (W : Wr h h' a i.toNatClampNeg (.int x)) :
    own_B Z h' a ty z (fun j => if j = i.toNatClampNeg then x else g j) := by
  refine ⟨_, A.same W, by rw [sz_set]; exact S, M, fun j hj => ?_⟩
  rw [sz_set] at hj
  by_cases u : j = i.toNatClampNeg
  · subst u; simp [Cell.setSlot, hj]
  · simp only [u, if_false, Cell.setSlot]
    rw [Array.getElem?_setIfInBounds_ne (Ne.symm u)]; exact H j hj
theorem own_B.of {Z : State} {h : Heap} {a : Addr} {k : ClassId} {ty : FieldType} {z : Int32} {vs : List Value} {g : Nat → Int32} (V : Arv Z h a k ty z vs (.int (0 : Int32))) (e : ∀ i, vs.getD i (.int (0 : Int32)) = .int (g i)) : own_B Z h a ty z g := by
  obtain ⟨c, A, -, S, M, H, -⟩ := V; exact ⟨c, A, S, M, fun i hi => by rw [H i hi, e]⟩
theorem own_B.cong {Z : State} {h : Heap} {a : Addr} {ty : FieldType} {z : Int32} {g g' : Nat → Int32} (V : own_B Z h a ty z g) (e : ∀ i, g i = g' i) : own_B Z h a ty z g' := by
  obtain ⟨c, A, S, M, H⟩ := V; exact ⟨c, A, S, M, fun i hi => by rw [← e]; exact H i hi⟩
theorem own_R.other {Z : State} {h h' : Heap} {a b : Addr} {sl : Nat} {v : Value} (V : own_R Z h b) (W : Wr h h' a sl v) (q : b ≠ a) : own_R Z h' b := by obtain ⟨c, A, r⟩ := V; exact ⟨c, A.other W q, r⟩
/-- an int field is written -/
theorem own_W.putI {Z : State} {a0 : Array Value} {h h' : Heap} {n0 : Nat} {w : Addr} {A : Nat → Addr} {I : Nat → Int32} {G : Nat → Nat → Int32} (H : own_W Z h w A I G) (D : own_D n0 w A) (L : own_L Z a0) (i : Nat) (hi : i < 10) {x : Int32} (W : Wr h h' w (Jvm.RoadKit.slotOf Z "com/example/hornloom/hornloom/engine/WaitList" (own_iN i) "I") (.int x)) : own_W Z h' w A (own_u I i x) G := by
  refine ⟨H.1.wr W, fun k hk => ?_, fun j hj => ?_, fun j hj => (H.2.2.2.1 j hj).other W (Ne.symm (D.2.1 j (by omega)).2), H.2.2.2.2.other W (Ne.symm (D.2.1 15 (by omega)).2)⟩
  · by_cases e : k = i
    · subst e; simp only [own_u, if_true]; exact (H.2.1 k hk).same W
    · simp only [own_u, e, if_false]
      exact (H.2.1 k hk).other W (Or.inr (slot_ne (L.1 k hk) (L.1 i hi) (own_iNe ⟨i, hi⟩ ⟨k, hk⟩ (fun q => e (Fin.mk.inj q))) (t := .int) (t' := .int) (by decide) (by decide)))
  · exact (H.2.2.1 j hj).other W (Or.inr (slot_ne (L.2 j hj) (L.1 i hi) (own_aNe ⟨j, hj⟩ ⟨i, hi⟩) (own_aFe ⟨j, hj⟩) (t' := .int) (by decide)))
/-- an element is written -/
theorem own_W.putA {Z : State} {h h' : Heap} {n0 : Nat} {w : Addr} {A : Nat → Addr} {I : Nat → Int32} {G : Nat → Nat → Int32} (H : own_W Z h w A I G) (D : own_D n0 w A) (j : Nat) (hj : j < 15) {i x : Int32} (W : Wr h h' (A j) i.toNatClampNeg (.int x)) : own_W Z h' w A I (own_g G j i.toNatClampNeg x) := by
  refine ⟨H.1.wr W, fun k hk => (H.2.1 k hk).other W (Or.inl (D.2.1 j (by omega)).2), fun k hk => (H.2.2.1 k hk).other W (Or.inl (D.2.1 j (by omega)).2), fun k hk => ?_, H.2.2.2.2.other W (D.2.2 15 j (by omega) (by omega) (by omega))⟩
  by_cases e : k = j
  · subst e
    obtain ⟨c, A1, S, M, Hh⟩ := H.2.2.2.1 k hk
    refine (own_B.set A1 S M Hh W).cong fun i' => ?_
    simp only [own_g, if_true]
  · refine ((H.2.2.2.1 k hk).other W (D.2.2 k j (by omega) (by omega) e)).cong fun i' => ?_
    simp only [own_g, e, if_false]
theorem own_W.putR {Z : State} {h h' : Heap} {n0 : Nat} {w : Addr} {A : Nat → Addr} {I : Nat → Int32} {G : Nat → Nat → Int32} (H : own_W Z h w A I G) (D : own_D n0 w A) {i : Nat} {v : Value} (W : Wr h h' (A 15) i v) : own_W Z h' w A I G := by
  refine ⟨H.1.wr W, fun k hk => (H.2.1 k hk).other W (Or.inl (D.2.1 15 (by omega)).2), fun k hk => (H.2.2.1 k hk).other W (Or.inl (D.2.1 15 (by omega)).2), fun k hk => (H.2.2.2.1 k hk).other W (D.2.2 k 15 (by omega) (by omega) (by omega)), ?_⟩
  obtain ⟨c, A1, S, O⟩ := H.2.2.2.2
  exact ⟨_, A1.same W, by rw [sz_set]; exact S, O⟩
theorem own_Lw (Z : State) (a0 : Array Value) (hw : ∀ d ∈ tables_1, d.before a0 Z = true) : own_L Z a0 :=
  ⟨fun i hi => match i, hi with | 0, _ => Or.inl (hw _ (List.mem_of_getElem? (i := 70) rfl)) | 1, _ => Or.inl (hw _ (List.mem_of_getElem? (i := 72) rfl)) | 2, _ => Or.inl (hw _ (List.mem_of_getElem? (i := 74) rfl)) | 3, _ => Or.inl (hw _ (List.mem_of_getElem? (i := 76) rfl)) | 4, _ => Or.inl (hw _ (List.mem_of_getElem? (i := 78) rfl)) | 5, _ => Or.inl (hw _ (List.mem_of_getElem? (i := 80) rfl)) | 6, _ => Or.inl (hw _ (List.mem_of_getElem? (i := 82) rfl)) | 7, _ => Or.inl (hw _ (List.mem_of_getElem? (i := 84) rfl)) | 8, _ => Or.inl (hw _ (List.mem_of_getElem? (i := 86) rfl)) | 9, _ => Or.inl (hw _ (List.mem_of_getElem? (i := 63) rfl)) | n + 10, hi => absurd hi (by omega), fun j hj => match j, hj with | 0, _ => Or.inl (hw _ (List.mem_of_getElem? (i := 11) rfl)) | 1, _ => Or.inl (hw _ (List.mem_of_getElem? (i := 19) rfl)) | 2, _ => Or.inl (hw _ (List.mem_of_getElem? (i := 21) rfl)) | 3, _ => Or.inl (hw _ (List.mem_of_getElem? (i := 30) rfl)) | 4, _ => Or.inl (hw _ (List.mem_of_getElem? (i := 38) rfl)) | 5, _ => Or.inl (hw _ (List.mem_of_getElem? (i := 40) rfl)) | 6, _ => Or.inl (hw _ (List.mem_of_getElem? (i := 42) rfl)) | 7, _ => Or.inl (hw _ (List.mem_of_getElem? (i := 44) rfl)) | 8, _ => Or.inl (hw _ (List.mem_of_getElem? (i := 46) rfl)) | 9, _ => Or.inl (hw _ (List.mem_of_getElem? (i := 48) rfl)) | 10, _ => Or.inl (hw _ (List.mem_of_getElem? (i := 50) rfl)) | 11, _ => Or.inl (hw _ (List.mem_of_getElem? (i := 52) rfl)) | 12, _ => Or.inl (hw _ (List.mem_of_getElem? (i := 54) rfl)) | 13, _ => Or.inl (hw _ (List.mem_of_getElem? (i := 56) rfl)) | 14, _ => Or.inl (hw _ (List.mem_of_getElem? (i := 28) rfl)) | 15, _ => Or.inl (hw _ (List.mem_of_getElem? (i := 25) rfl)) | n + 16, hj => absurd hj (by omega)⟩
theorem own_d4_0 : decode prog_35_method_14_code 0 = .ok (.aload_n 0, 1) := by decide +kernel
theorem own_d4_1 : decode prog_35_method_14_code 1 = .ok (.iload_n 1, 1) := by decide +kernel
theorem own_d4_2 : decode prog_35_method_14_code 2 = .ok (.putfield 118, 3) := by decide +kernel
theorem own_d4_5 : decode prog_35_method_14_code 5 = .ok (.return_, 1) := by decide +kernel
theorem own_pn4 : plainName "com/example/hornloom/hornloom/engine/WaitList" = true := by first | (simp [plainName, overriddenIn]; done) | decide +kernel
theorem own_eftl (m : MethodId) (x0 : Addr) (x1 : Int32) : entryFrame m #[(.ref x0), (.int x1)] 2 = mkF m 0 #[.val (.ref x0), .val (.int x1)] [] := by first | (simp [entryFrame, mkF, argsToLocals, Value.category]; done) | rfl
def Qtl (Z : State) (a0_ : Addr) (p1 : Int32) (A : Nat → Addr) (I : Nat → Int32) (G : Nat → Nat → Int32) (h0 : Heap) (n0 : Nat) (v : Option Value) (h : Heap) (L : List Loc) : Prop := v = none ∧ Fr n0 L ∧ Keep h0 h [a0_, (A 0), (A 1), (A 2), (A 3), (A 4), (A 5), (A 6), (A 7), (A 8), (A 9), (A 10), (A 11), (A 12), (A 13), (A 14), (A 15)] ∧ own_W Z h a0_ A (own_u I 9 p1) G
set_option maxRecDepth 65536 in
set_option maxHeartbeats 40000000 in
theorem rmtl (l : Launch) (Z : State) (a0 : Array Value) (hw : ∀ d ∈ tables_1, d.before a0 Z = true) (ws : List Jvm.Cond) (a0_ : Addr) (p1 : Int32) (A : Nat → Addr) (I : Nat → Int32) (G : Nat → Nat → Int32) (h0 : Heap) (n0 : Nat) (Z0 : n0 ≤ h0.size) (HW : own_W Z h0 a0_ A I G) (HD : own_D n0 a0_ A) :
    MetFree l (⟨"com/example/hornloom/hornloom/engine/WaitList", "trailLooked", "(I)V"⟩ : MethodName) (head1 (Jvm.Cond.code (⟨"com/example/hornloom/hornloom/engine/WaitList", "trailLooked", "(I)V"⟩ : MethodName) prog_35_method_14_code 2 none :: ws) ({ frames := 0, cells := 0, slots := 0, locals := 0 } : Room)) (fun a U => a = #[(.ref a0_), (.int p1)] ∧ Z.Warmed39 U.vm ∧ U.heap = h0) (fun _ _ _ _ _ => True) (fun _ U o U' => ∃ v L, o = .returned v ∧ Qtl Z a0_ p1 A I G h0 n0 v U'.heap L ∧ FrameEnd U o U' L ({ frames := 0, cells := 0, slots := 0, locals := 0 } : Room).cells ({ frames := 0, cells := 0, slots := 0, locals := 0 } : Room).slots) := by
  refine MetFree.of_bodySF (plainFor_of_name own_pn4) hisR ?_
  intro p e s m args below meth c s₁ Bd hml0 hP hK
  obtain ⟨rfl, hZ, hh⟩ := hP
  have hx := Bd.exec
  have hby := Bd.bytes
  have hml : c.maxLocals = 2 := hml0
  have hown : s.vm.findClass "com/example/hornloom/hornloom/engine/WaitList" = some m.cls := findClass_of_methodNamed Bd.named
  have hnm := (name_of_methodNamed Bd.named Bd.method).1
  have X0 : Stand p l e ({ frames := 0, cells := 0, slots := 0, locals := 0 } : Room) s m #[(.ref a0_), (.int p1)] below meth c s₁ [] 0 0 := Stand.of_body Bd
  have e0 : s₁.heap = h0 := by rw [← hh, Bd.state]; rfl
  have N0 := Fr.nil n0
  have k0 : own_To p e below s₁ (mkF m 0 #[.val (.ref a0_), .val (.int p1)] []) s₁ (entryFrame m #[(.ref a0_), (.int p1)] 2) := fun t k => castTop (own_eftl m a0_ p1) k
  have ki : own_To p e below s₁ (mkF m 0 #[.val (.ref a0_), .val (.int p1)] []) s₁ (mkF m 0 #[.val (.ref a0_), .val (.int p1)] []) := fun t q => q
  have Lw := own_Lw Z a0 hw
  have Fg1 : Fld Z h0 a0_ "com/example/hornloom/hornloom/engine/WaitList" "trailLooked" "I" (.int (I 9)) := HW.2.1 9 (by decide)
  obtain ⟨T2, h2, X2, e2, W2, st2⟩ := putF X0 hx hZ hown (host := "") (Or.inl (hw _ (List.mem_of_getElem? (i := 62) rfl))) Via.refl e0 Fg1 HW.1 (Or.inl (hw _ (List.mem_of_getElem? (i := 63) rfl))) (hw _ (List.mem_of_getElem? (i := 2) rfl)) (ty := .int) (by decide) rfl rfl (g := (mkF m 2 #[.val (.ref a0_), .val (.int p1)] [(.int p1), (.ref a0_)])) rfl rfl (hb hby own_d4_2)
  have N2 := Fr.snoc X2 N0 HD.1
  obtain ⟨Lf2, Nf2, Xf2⟩ := own_fold X2 N2
  have HW2 : own_W Z h2 a0_ A (own_u I 9 p1) G := HW.putI HD Lw 9 (by decide) W2
  have K3 : Keep h0 h2 [a0_, (A 0), (A 1), (A 2), (A 3), (A 4), (A 5), (A 6), (A 7), (A 8), (A 9), (A 10), (A 11), (A 12), (A 13), (A 14), (A 15)] := ((Keep.refl h0 [a0_, (A 0), (A 1), (A 2), (A 3), (A 4), (A 5), (A 6), (A 7), (A 8), (A 9), (A 10), (A 11), (A 12), (A 13), (A 14), (A 15)]).wr W2 (Or.inl (List.mem_of_getElem? (i := 0) rfl)))
  have k4 : own_To p e below T2 (mkF m 5 #[.val (.ref a0_), .val (.int p1)] []) s₁ (mkF m 0 #[.val (.ref a0_), .val (.int p1)] []) := fun t q => ki t (by
    refine XS.aloadN X0.here hx rfl (hb hby own_d4_0) rfl rfl ?_
    show Steps p.tables e below (s₁.setTop (mkF m 1 #[.val (.ref a0_), .val (.int p1)] [(.ref a0_)])) _
    refine XS.iloadN X0.here hx rfl (hb hby own_d4_1) rfl ?_
    show Steps p.tables e below (s₁.setTop (mkF m 2 #[.val (.ref a0_), .val (.int p1)] [(.int p1), (.ref a0_)])) _
    refine st2 _ ?_
    show Steps p.tables e below (T2.setTop (mkF m 5 #[.val (.ref a0_), .val (.int p1)] [])) _
    exact q)
  obtain ⟨fs, hr, hrun, hended, hW, hsame⟩ := Xf2.leave (v := none) (fun _ => rfl)
  refine ⟨_, _, k0 _ (k4 _ ?_), hrun, hended, _, _, rfl, ?_, ⟨_, rfl⟩, hW, hsame.mono (by decide) (by decide)⟩
  · show Steps p.tables e below (T2.setTop (mkF m 5 #[.val (.ref a0_), .val (.int p1)] [])) _
    exact Xf2.returnOut hx Bd.returns (hb hby own_d4_5) hr
  · show Qtl Z a0_ p1 A I G h0 n0 _ T2.heap _
    rw [e2]
    exact ⟨rfl, Nf2, K3, HW2⟩
theorem own_d10_0 : decode prog_35_method_13_code 0 = .ok (.aload_n 0, 1) := by decide +kernel
theorem own_d10_1 : decode prog_35_method_13_code 1 = .ok (.getfield 118, 3) := by decide +kernel
theorem own_d10_4 : decode prog_35_method_13_code 4 = .ok (.ireturn, 1) := by decide +kernel
theorem own_pn10 : plainName "com/example/hornloom/hornloom/engine/WaitList" = true := by first | (simp [plainName, overriddenIn]; done) | decide +kernel
theorem own_efgtl (m : MethodId) (x0 : Addr) : entryFrame m #[(.ref x0)] 1 = mkF m 0 #[.val (.ref x0)] [] := by first | (simp [entryFrame, mkF, argsToLocals, Value.category]; done) | rfl
def Qgtl (Z : State) (a0_ : Addr) (A : Nat → Addr) (I : Nat → Int32) (G : Nat → Nat → Int32) (h0 : Heap) (n0 : Nat) (v : Option Value) (h : Heap) (L : List Loc) : Prop := v = some (.int (I 9)) ∧ Fr n0 L ∧ h = h0
set_option maxRecDepth 65536 in
set_option maxHeartbeats 40000000 in
theorem rmgtl (l : Launch) (Z : State) (a0 : Array Value) (hw : ∀ d ∈ tables_1, d.before a0 Z = true) (ws : List Jvm.Cond) (a0_ : Addr) (A : Nat → Addr) (I : Nat → Int32) (G : Nat → Nat → Int32) (h0 : Heap) (n0 : Nat) (Z0 : n0 ≤ h0.size) (HW : own_W Z h0 a0_ A I G) (HD : own_D n0 a0_ A) :
    MetFree l (⟨"com/example/hornloom/hornloom/engine/WaitList", "trailLooked", "()I"⟩ : MethodName) (head1 (Jvm.Cond.code (⟨"com/example/hornloom/hornloom/engine/WaitList", "trailLooked", "()I"⟩ : MethodName) prog_35_method_13_code 1 (some .int) :: ws) ({ frames := 0, cells := 0, slots := 0, locals := 0 } : Room)) (fun a U => a = #[(.ref a0_)] ∧ Z.Warmed39 U.vm ∧ U.heap = h0) (fun _ _ _ _ _ => True) (fun _ U o U' => ∃ v L, o = .returned v ∧ Qgtl Z a0_ A I G h0 n0 v U'.heap L ∧ FrameEnd U o U' L ({ frames := 0, cells := 0, slots := 0, locals := 0 } : Room).cells ({ frames := 0, cells := 0, slots := 0, locals := 0 } : Room).slots) := by
  refine MetFree.of_bodySF (plainFor_of_name own_pn10) hisR ?_
  intro p e s m args below meth c s₁ Bd hml0 hP hK
  obtain ⟨rfl, hZ, hh⟩ := hP
  have hx := Bd.exec
  have hby := Bd.bytes
  have hml : c.maxLocals = 1 := hml0
  have hown : s.vm.findClass "com/example/hornloom/hornloom/engine/WaitList" = some m.cls := findClass_of_methodNamed Bd.named
  have hnm := (name_of_methodNamed Bd.named Bd.method).1
  have X0 : Stand p l e ({ frames := 0, cells := 0, slots := 0, locals := 0 } : Room) s m #[(.ref a0_)] below meth c s₁ [] 0 0 := Stand.of_body Bd
  have e0 : s₁.heap = h0 := by rw [← hh, Bd.state]; rfl
  have N0 := Fr.nil n0
  have k0 : own_To p e below s₁ (mkF m 0 #[.val (.ref a0_)] []) s₁ (entryFrame m #[(.ref a0_)] 1) := fun t k => castTop (own_efgtl m a0_) k
  have ki : own_To p e below s₁ (mkF m 0 #[.val (.ref a0_)] []) s₁ (mkF m 0 #[.val (.ref a0_)] []) := fun t q => q
  have Lw := own_Lw Z a0 hw
  have Fg1 : Fld Z h0 a0_ "com/example/hornloom/hornloom/engine/WaitList" "trailLooked" "I" (.int (I 9)) := HW.2.1 9 (by decide)
  obtain ⟨T2, X2, e2, st2⟩ := getF X0 hx hZ hown (host := "") (Or.inl (hw _ (List.mem_of_getElem? (i := 62) rfl))) Via.refl e0 Fg1 (g := (mkF m 1 #[.val (.ref a0_)] [(.ref a0_)])) rfl rfl (hb hby own_d10_1)
  have k3 : own_To p e below T2 (mkF m 4 #[.val (.ref a0_)] [(.int (I 9))]) s₁ (mkF m 0 #[.val (.ref a0_)] []) := fun t q => ki t (by
    refine XS.aloadN X0.here hx rfl (hb hby own_d10_0) rfl rfl ?_
    show Steps p.tables e below (s₁.setTop (mkF m 1 #[.val (.ref a0_)] [(.ref a0_)])) _
    refine st2 _ ?_
    show Steps p.tables e below (T2.setTop (mkF m 4 #[.val (.ref a0_)] [(.int (I 9))])) _
    exact q)
  obtain ⟨fs, hr, hrun, hended, hW, hsame⟩ := X2.leave (v := some (.int (I 9))) (fun h => by rw [Bd.returns] at h; cases h)
  refine ⟨_, _, k0 _ (k3 _ ?_), hrun, hended, _, _, rfl, ?_, ⟨_, rfl⟩, hW, hsame.mono (by decide) (by decide)⟩
  · show Steps p.tables e below (T2.setTop (mkF m 4 #[.val (.ref a0_)] [(.int (I 9))])) _
    exact retOut X2 hx Bd.returns rfl (Or.inl ⟨rfl, Or.inl rfl, _, rfl⟩) (hb hby own_d10_4) hr
  · show Qgtl Z a0_ A I G h0 n0 _ T2.heap _
    rw [e2]
    exact ⟨rfl, N0, rfl⟩
theorem own_d6_0 : decode prog_35_method_20_code 0 = .ok (.aload_n 0, 1) := by decide +kernel
theorem own_d6_1 : decode prog_35_method_20_code 1 = .ok (.getfield 64, 3) := by decide +kernel
theorem own_d6_4 : decode prog_35_method_20_code 4 = .ok (.iload_n 1, 1) := by decide +kernel
theorem own_d6_5 : decode prog_35_method_20_code 5 = .ok (.iaload, 1) := by decide +kernel
theorem own_d6_6 : decode prog_35_method_20_code 6 = .ok (.ireturn, 1) := by decide +kernel
theorem own_pn6 : plainName "com/example/hornloom/hornloom/engine/WaitList" = true := by first | (simp [plainName, overriddenIn]; done) | decide +kernel
theorem own_efrmk (m : MethodId) (x0 : Addr) (x1 : Int32) : entryFrame m #[(.ref x0), (.int x1)] 2 = mkF m 0 #[.val (.ref x0), .val (.int x1)] [] := by first | (simp [entryFrame, mkF, argsToLocals, Value.category]; done) | rfl
def Qrmk (Z : State) (a0_ : Addr) (p1 : Int32) (A : Nat → Addr) (I : Nat → Int32) (G : Nat → Nat → Int32) (h0 : Heap) (n0 : Nat) (v : Option Value) (h : Heap) (L : List Loc) : Prop := v = some (.int (G 9 (p1).toNatClampNeg)) ∧ Fr n0 L ∧ h = h0
set_option maxRecDepth 65536 in
set_option maxHeartbeats 40000000 in
theorem rmrmk (l : Launch) (Z : State) (a0 : Array Value) (hw : ∀ d ∈ tables_1, d.before a0 Z = true) (ws : List Jvm.Cond) (a0_ : Addr) (p1 : Int32) (A : Nat → Addr) (I : Nat → Int32) (G : Nat → Nat → Int32) (h0 : Heap) (n0 : Nat) (Z0 : n0 ≤ h0.size) (HW : own_W Z h0 a0_ A I G) (HD : own_D n0 a0_ A) (hp : ¬ p1 < 0 ∧ p1 < (4 : Int32)) :
    MetFree l (⟨"com/example/hornloom/hornloom/engine/WaitList", "readyMark", "(I)I"⟩ : MethodName) (head1 (Jvm.Cond.code (⟨"com/example/hornloom/hornloom/engine/WaitList", "readyMark", "(I)I"⟩ : MethodName) prog_35_method_20_code 2 (some .int) :: ws) ({ frames := 0, cells := 0, slots := 0, locals := 0 } : Room)) (fun a U => a = #[(.ref a0_), (.int p1)] ∧ Z.Warmed39 U.vm ∧ U.heap = h0) (fun _ _ _ _ _ => True) (fun _ U o U' => ∃ v L, o = .returned v ∧ Qrmk Z a0_ p1 A I G h0 n0 v U'.heap L ∧ FrameEnd U o U' L ({ frames := 0, cells := 0, slots := 0, locals := 0 } : Room).cells ({ frames := 0, cells := 0, slots := 0, locals := 0 } : Room).slots) := by
  refine MetFree.of_bodySF (plainFor_of_name own_pn6) hisR ?_
  intro p e s m args below meth c s₁ Bd hml0 hP hK
  obtain ⟨rfl, hZ, hh⟩ := hP
  have hx := Bd.exec
  have hby := Bd.bytes
  have hml : c.maxLocals = 2 := hml0
  have hown : s.vm.findClass "com/example/hornloom/hornloom/engine/WaitList" = some m.cls := findClass_of_methodNamed Bd.named
  have hnm := (name_of_methodNamed Bd.named Bd.method).1
  have X0 : Stand p l e ({ frames := 0, cells := 0, slots := 0, locals := 0 } : Room) s m #[(.ref a0_), (.int p1)] below meth c s₁ [] 0 0 := Stand.of_body Bd
  have e0 : s₁.heap = h0 := by rw [← hh, Bd.state]; rfl
  have N0 := Fr.nil n0
  have k0 : own_To p e below s₁ (mkF m 0 #[.val (.ref a0_), .val (.int p1)] []) s₁ (entryFrame m #[(.ref a0_), (.int p1)] 2) := fun t k => castTop (own_efrmk m a0_ p1) k
  have ki : own_To p e below s₁ (mkF m 0 #[.val (.ref a0_), .val (.int p1)] []) s₁ (mkF m 0 #[.val (.ref a0_), .val (.int p1)] []) := fun t q => q
  have Lw := own_Lw Z a0 hw
  have Fg1 : Fld Z h0 a0_ "com/example/hornloom/hornloom/engine/WaitList" "readyMarks" "[I" (.ref (A 9)) := HW.2.2.1 9 (by decide)
  obtain ⟨T2, X2, e2, st2⟩ := getF X0 hx hZ hown (host := "") (Or.inl (hw _ (List.mem_of_getElem? (i := 47) rfl))) Via.refl e0 Fg1 (g := (mkF m 1 #[.val (.ref a0_), .val (.int p1)] [(.ref a0_)])) rfl rfl (hb hby own_d6_1)
  obtain ⟨clr3, Arr3, Sr3, Mr3, Hhr3⟩ : own_B Z h0 (A 9) .int (4 : Int32) (G 9) := HW.2.2.2.1 9 (by decide)
  have hinr3 : ¬ (p1 < 0 ∨ clr3.slots.size ≤ (p1).toNatClampNeg) := inb_of Sr3 hp
  have hatr3 : clr3.slots[(p1).toNatClampNeg]? = some (.int (G 9 (p1).toNatClampNeg)) := Hhr3 _ (Nat.lt_of_not_le fun y => hinr3 (Or.inr y))
  have k4 : own_To p e below T2 (mkF m 6 #[.val (.ref a0_), .val (.int p1)] [(.int (G 9 (p1).toNatClampNeg))]) s₁ (mkF m 0 #[.val (.ref a0_), .val (.int p1)] []) := fun t q => ki t (by
    refine XS.aloadN X0.here hx rfl (hb hby own_d6_0) rfl rfl ?_
    show Steps p.tables e below (s₁.setTop (mkF m 1 #[.val (.ref a0_), .val (.int p1)] [(.ref a0_)])) _
    refine st2 _ ?_
    show Steps p.tables e below (T2.setTop (mkF m 4 #[.val (.ref a0_), .val (.int p1)] [(.ref (A 9))])) _
    refine XS.iloadN X2.here hx rfl (hb hby own_d6_4) rfl ?_
    show Steps p.tables e below (T2.setTop (mkF m 5 #[.val (.ref a0_), .val (.int p1)] [(.int p1), (.ref (A 9))])) _
    refine X2.iaload hx (j := p1) (v := (.int (G 9 (p1).toNatClampNeg))) (by rw [e2]; exact Arr3.1) (State.isArrayOf_alike hZ.alike Arr3.2.1) Arr3.2.2 hinr3 hatr3 (g := (mkF m 5 #[.val (.ref a0_), .val (.int p1)] [(.int p1), (.ref (A 9))])) rfl rfl (hb hby own_d6_5) _ ?_
    show Steps p.tables e below (T2.setTop (mkF m 6 #[.val (.ref a0_), .val (.int p1)] [(.int (G 9 (p1).toNatClampNeg))])) _
    exact q)
  obtain ⟨fs, hr, hrun, hended, hW, hsame⟩ := X2.leave (v := some (.int (G 9 (p1).toNatClampNeg))) (fun h => by rw [Bd.returns] at h; cases h)
  refine ⟨_, _, k0 _ (k4 _ ?_), hrun, hended, _, _, rfl, ?_, ⟨_, rfl⟩, hW, hsame.mono (by decide) (by decide)⟩
  · show Steps p.tables e below (T2.setTop (mkF m 6 #[.val (.ref a0_), .val (.int p1)] [(.int (G 9 (p1).toNatClampNeg))])) _
    exact retOut X2 hx Bd.returns rfl (Or.inl ⟨rfl, Or.inl rfl, _, rfl⟩) (hb hby own_d6_6) hr
  · show Qrmk Z a0_ p1 A I G h0 n0 _ T2.heap _
    rw [e2]
    exact ⟨rfl, N0, rfl⟩
theorem own_d5_0 : decode prog_35_method_3_code 0 = .ok (.aload_n 0, 1) := by decide +kernel
theorem own_d5_1 : decode prog_35_method_3_code 1 = .ok (.getfield 49, 3) := by decide +kernel
theorem own_d5_4 : decode prog_35_method_3_code 4 = .ok (.iload_n 1, 1) := by decide +kernel
theorem own_d5_5 : decode prog_35_method_3_code 5 = .ok (.aload_n 0, 1) := by decide +kernel
theorem own_d5_6 : decode prog_35_method_3_code 6 = .ok (.getfield 90, 3) := by decide +kernel
theorem own_d5_9 : decode prog_35_method_3_code 9 = .ok (.iastore, 1) := by decide +kernel
theorem own_d5_10 : decode prog_35_method_3_code 10 = .ok (.aload_n 0, 1) := by decide +kernel
theorem own_d5_11 : decode prog_35_method_3_code 11 = .ok (.getfield 52, 3) := by decide +kernel
theorem own_d5_14 : decode prog_35_method_3_code 14 = .ok (.iload_n 1, 1) := by decide +kernel
theorem own_d5_15 : decode prog_35_method_3_code 15 = .ok (.aload_n 0, 1) := by decide +kernel
theorem own_d5_16 : decode prog_35_method_3_code 16 = .ok (.getfield 94, 3) := by decide +kernel
theorem own_d5_19 : decode prog_35_method_3_code 19 = .ok (.iastore, 1) := by decide +kernel
theorem own_d5_20 : decode prog_35_method_3_code 20 = .ok (.aload_n 0, 1) := by decide +kernel
theorem own_d5_21 : decode prog_35_method_3_code 21 = .ok (.getfield 55, 3) := by decide +kernel
theorem own_d5_24 : decode prog_35_method_3_code 24 = .ok (.iload_n 1, 1) := by decide +kernel
theorem own_d5_25 : decode prog_35_method_3_code 25 = .ok (.aload_n 0, 1) := by decide +kernel
theorem own_d5_26 : decode prog_35_method_3_code 26 = .ok (.getfield 97, 3) := by decide +kernel
theorem own_d5_29 : decode prog_35_method_3_code 29 = .ok (.iastore, 1) := by decide +kernel
theorem own_d5_30 : decode prog_35_method_3_code 30 = .ok (.aload_n 0, 1) := by decide +kernel
theorem own_d5_31 : decode prog_35_method_3_code 31 = .ok (.getfield 58, 3) := by decide +kernel
theorem own_d5_34 : decode prog_35_method_3_code 34 = .ok (.iload_n 1, 1) := by decide +kernel
theorem own_d5_35 : decode prog_35_method_3_code 35 = .ok (.aload_n 0, 1) := by decide +kernel
theorem own_d5_36 : decode prog_35_method_3_code 36 = .ok (.getfield 100, 3) := by decide +kernel
theorem own_d5_39 : decode prog_35_method_3_code 39 = .ok (.iastore, 1) := by decide +kernel
theorem own_d5_40 : decode prog_35_method_3_code 40 = .ok (.aload_n 0, 1) := by decide +kernel
theorem own_d5_41 : decode prog_35_method_3_code 41 = .ok (.getfield 61, 3) := by decide +kernel
theorem own_d5_44 : decode prog_35_method_3_code 44 = .ok (.iload_n 1, 1) := by decide +kernel
theorem own_d5_45 : decode prog_35_method_3_code 45 = .ok (.aload_n 0, 1) := by decide +kernel
theorem own_d5_46 : decode prog_35_method_3_code 46 = .ok (.getfield 103, 3) := by decide +kernel
theorem own_d5_49 : decode prog_35_method_3_code 49 = .ok (.iastore, 1) := by decide +kernel
theorem own_d5_50 : decode prog_35_method_3_code 50 = .ok (.aload_n 0, 1) := by decide +kernel
theorem own_d5_51 : decode prog_35_method_3_code 51 = .ok (.getfield 64, 3) := by decide +kernel
theorem own_d5_54 : decode prog_35_method_3_code 54 = .ok (.iload_n 1, 1) := by decide +kernel
theorem own_d5_55 : decode prog_35_method_3_code 55 = .ok (.aload_n 0, 1) := by decide +kernel
theorem own_d5_56 : decode prog_35_method_3_code 56 = .ok (.getfield 106, 3) := by decide +kernel
theorem own_d5_59 : decode prog_35_method_3_code 59 = .ok (.iastore, 1) := by decide +kernel
theorem own_d5_60 : decode prog_35_method_3_code 60 = .ok (.aload_n 0, 1) := by decide +kernel
theorem own_d5_61 : decode prog_35_method_3_code 61 = .ok (.getfield 67, 3) := by decide +kernel
theorem own_d5_64 : decode prog_35_method_3_code 64 = .ok (.iload_n 1, 1) := by decide +kernel
theorem own_d5_65 : decode prog_35_method_3_code 65 = .ok (.aload_n 0, 1) := by decide +kernel
theorem own_d5_66 : decode prog_35_method_3_code 66 = .ok (.getfield 109, 3) := by decide +kernel
theorem own_d5_69 : decode prog_35_method_3_code 69 = .ok (.iastore, 1) := by decide +kernel
theorem own_d5_70 : decode prog_35_method_3_code 70 = .ok (.aload_n 0, 1) := by decide +kernel
theorem own_d5_71 : decode prog_35_method_3_code 71 = .ok (.getfield 70, 3) := by decide +kernel
theorem own_d5_74 : decode prog_35_method_3_code 74 = .ok (.iload_n 1, 1) := by decide +kernel
theorem own_d5_75 : decode prog_35_method_3_code 75 = .ok (.aload_n 0, 1) := by decide +kernel
theorem own_d5_76 : decode prog_35_method_3_code 76 = .ok (.getfield 112, 3) := by decide +kernel
theorem own_d5_79 : decode prog_35_method_3_code 79 = .ok (.iastore, 1) := by decide +kernel
theorem own_d5_80 : decode prog_35_method_3_code 80 = .ok (.aload_n 0, 1) := by decide +kernel
theorem own_d5_81 : decode prog_35_method_3_code 81 = .ok (.getfield 73, 3) := by decide +kernel
theorem own_d5_84 : decode prog_35_method_3_code 84 = .ok (.iload_n 1, 1) := by decide +kernel
theorem own_d5_85 : decode prog_35_method_3_code 85 = .ok (.aload_n 0, 1) := by decide +kernel
theorem own_d5_86 : decode prog_35_method_3_code 86 = .ok (.getfield 115, 3) := by decide +kernel
theorem own_d5_89 : decode prog_35_method_3_code 89 = .ok (.iastore, 1) := by decide +kernel
theorem own_d5_90 : decode prog_35_method_3_code 90 = .ok (.aload_n 0, 1) := by decide +kernel
theorem own_d5_91 : decode prog_35_method_3_code 91 = .ok (.getfield 76, 3) := by decide +kernel
theorem own_d5_94 : decode prog_35_method_3_code 94 = .ok (.iload_n 1, 1) := by decide +kernel
theorem own_d5_95 : decode prog_35_method_3_code 95 = .ok (.aload_n 0, 1) := by decide +kernel
theorem own_d5_96 : decode prog_35_method_3_code 96 = .ok (.getfield 118, 3) := by decide +kernel
theorem own_d5_99 : decode prog_35_method_3_code 99 = .ok (.iastore, 1) := by decide +kernel
theorem own_d5_100 : decode prog_35_method_3_code 100 = .ok (.return_, 1) := by decide +kernel
theorem own_pn5 : plainName "com/example/hornloom/hornloom/engine/WaitList" = true := by first | (simp [plainName, overriddenIn]; done) | decide +kernel
theorem own_efmk (m : MethodId) (x0 : Addr) (x1 : Int32) : entryFrame m #[(.ref x0), (.int x1)] 2 = mkF m 0 #[.val (.ref x0), .val (.int x1)] [] := by first | (simp [entryFrame, mkF, argsToLocals, Value.category]; done) | rfl
def Qmk (Z : State) (a0_ : Addr) (p1 : Int32) (A : Nat → Addr) (I : Nat → Int32) (G : Nat → Nat → Int32) (h0 : Heap) (n0 : Nat) (v : Option Value) (h : Heap) (L : List Loc) : Prop := v = none ∧ Fr n0 L ∧ Keep h0 h [a0_, (A 0), (A 1), (A 2), (A 3), (A 4), (A 5), (A 6), (A 7), (A 8), (A 9), (A 10), (A 11), (A 12), (A 13), (A 14), (A 15)] ∧ own_W Z h a0_ A I (own_g (own_g (own_g (own_g (own_g (own_g (own_g (own_g (own_g (own_g G 4 (p1).toNatClampNeg (I 0)) 5 (p1).toNatClampNeg (I 1)) 6 (p1).toNatClampNeg (I 2)) 7 (p1).toNatClampNeg (I 3)) 8 (p1).toNatClampNeg (I 4)) 9 (p1).toNatClampNeg (I 5)) 10 (p1).toNatClampNeg (I 6)) 11 (p1).toNatClampNeg (I 7)) 12 (p1).toNatClampNeg (I 8)) 13 (p1).toNatClampNeg (I 9))
set_option maxRecDepth 65536 in
set_option maxHeartbeats 40000000 in
theorem rmmk (l : Launch) (Z : State) (a0 : Array Value) (hw : ∀ d ∈ tables_1, d.before a0 Z = true) (ws : List Jvm.Cond) (a0_ : Addr) (p1 : Int32) (A : Nat → Addr) (I : Nat → Int32) (G : Nat → Nat → Int32) (h0 : Heap) (n0 : Nat) (Z0 : n0 ≤ h0.size) (HW : own_W Z h0 a0_ A I G) (HD : own_D n0 a0_ A) (hp : ¬ p1 < 0 ∧ p1 < (4 : Int32)) :
    MetFree l (⟨"com/example/hornloom/hornloom/engine/WaitList", "mark", "(I)V"⟩ : MethodName) (head1 (Jvm.Cond.code (⟨"com/example/hornloom/hornloom/engine/WaitList", "mark", "(I)V"⟩ : MethodName) prog_35_method_3_code 2 none :: ws) ({ frames := 0, cells := 0, slots := 0, locals := 0 } : Room)) (fun a U => a = #[(.ref a0_), (.int p1)] ∧ Z.Warmed39 U.vm ∧ U.heap = h0) (fun _ _ _ _ _ => True) (fun _ U o U' => ∃ v L, o = .returned v ∧ Qmk Z a0_ p1 A I G h0 n0 v U'.heap L ∧ FrameEnd U o U' L ({ frames := 0, cells := 0, slots := 0, locals := 0 } : Room).cells ({ frames := 0, cells := 0, slots := 0, locals := 0 } : Room).slots) := by
  refine MetFree.of_bodySF (plainFor_of_name own_pn5) hisR ?_
  intro p e s m args below meth c s₁ Bd hml0 hP hK
  obtain ⟨rfl, hZ, hh⟩ := hP
  have hx := Bd.exec
  have hby := Bd.bytes
  have hml : c.maxLocals = 2 := hml0
  have hown : s.vm.findClass "com/example/hornloom/hornloom/engine/WaitList" = some m.cls := findClass_of_methodNamed Bd.named
  have hnm := (name_of_methodNamed Bd.named Bd.method).1
  have X0 : Stand p l e ({ frames := 0, cells := 0, slots := 0, locals := 0 } : Room) s m #[(.ref a0_), (.int p1)] below meth c s₁ [] 0 0 := Stand.of_body Bd
  have e0 : s₁.heap = h0 := by rw [← hh, Bd.state]; rfl
  have N0 := Fr.nil n0
  have k0 : own_To p e below s₁ (mkF m 0 #[.val (.ref a0_), .val (.int p1)] []) s₁ (entryFrame m #[(.ref a0_), (.int p1)] 2) := fun t k => castTop (own_efmk m a0_ p1) k
  have ki : own_To p e below s₁ (mkF m 0 #[.val (.ref a0_), .val (.int p1)] []) s₁ (mkF m 0 #[.val (.ref a0_), .val (.int p1)] []) := fun t q => q
  have Lw := own_Lw Z a0 hw
  have Fg1 : Fld Z h0 a0_ "com/example/hornloom/hornloom/engine/WaitList" "builtinMarks" "[I" (.ref (A 4)) := HW.2.2.1 4 (by decide)
  obtain ⟨T2, X2, e2, st2⟩ := getF X0 hx hZ hown (host := "") (Or.inl (hw _ (List.mem_of_getElem? (i := 37) rfl))) Via.refl e0 Fg1 (g := (mkF m 1 #[.val (.ref a0_), .val (.int p1)] [(.ref a0_)])) rfl rfl (hb hby own_d5_1)
  have Fg3 : Fld Z h0 a0_ "com/example/hornloom/hornloom/engine/WaitList" "builtinCount" "I" (.int (I 0)) := HW.2.1 0 (by decide)
  obtain ⟨T4, X4, e4, st4⟩ := getF X2 hx hZ hown (host := "") (Or.inl (hw _ (List.mem_of_getElem? (i := 69) rfl))) Via.refl e2 Fg3 (g := (mkF m 6 #[.val (.ref a0_), .val (.int p1)] [(.ref a0_), (.int p1), (.ref (A 4))])) rfl rfl (hb hby own_d5_6)
  obtain ⟨clr5, Arr5, Sr5, Mr5, Hhr5⟩ : own_B Z h0 (A 4) .int (4 : Int32) (G 4) := HW.2.2.2.1 4 (by decide)
  have hinr5 : ¬ (p1 < 0 ∨ clr5.slots.size ≤ (p1).toNatClampNeg) := inb_of Sr5 hp
  obtain ⟨T6, h6, X6, e6, W6, st6⟩ := stI X4 hx hZ e4 Arr5 (j := p1) hinr5 (g := (mkF m 9 #[.val (.ref a0_), .val (.int p1)] [(.int (I 0)), (.int p1), (.ref (A 4))])) rfl rfl (hb hby own_d5_9)
  have N6 := Fr.snoc X6 N0 (HD.2.1 4 (by decide)).1
  obtain ⟨Lf6, Nf6, Xf6⟩ := own_fold X6 N6
  have HW6 : own_W Z h6 a0_ A I (own_g G 4 (p1).toNatClampNeg (I 0)) := HW.putA HD 4 (by decide) W6
  have Fg7 : Fld Z h6 a0_ "com/example/hornloom/hornloom/engine/WaitList" "disjunctionMarks" "[I" (.ref (A 5)) := HW6.2.2.1 5 (by decide)
  obtain ⟨T8, X8, e8, st8⟩ := getF Xf6 hx hZ hown (host := "") (Or.inl (hw _ (List.mem_of_getElem? (i := 39) rfl))) Via.refl e6 Fg7 (g := (mkF m 11 #[.val (.ref a0_), .val (.int p1)] [(.ref a0_)])) rfl rfl (hb hby own_d5_11)
  have Fg9 : Fld Z h6 a0_ "com/example/hornloom/hornloom/engine/WaitList" "disjunctionCount" "I" (.int (I 1)) := HW6.2.1 1 (by decide)
  obtain ⟨T10, X10, e10, st10⟩ := getF X8 hx hZ hown (host := "") (Or.inl (hw _ (List.mem_of_getElem? (i := 71) rfl))) Via.refl e8 Fg9 (g := (mkF m 16 #[.val (.ref a0_), .val (.int p1)] [(.ref a0_), (.int p1), (.ref (A 5))])) rfl rfl (hb hby own_d5_16)
  obtain ⟨clr11, Arr11, Sr11, Mr11, Hhr11⟩ : own_B Z h6 (A 5) .int (4 : Int32) ((own_g G 4 (p1).toNatClampNeg (I 0)) 5) := HW6.2.2.2.1 5 (by decide)
  have hinr11 : ¬ (p1 < 0 ∨ clr11.slots.size ≤ (p1).toNatClampNeg) := inb_of Sr11 hp
  obtain ⟨T12, h12, X12, e12, W12, st12⟩ := stI X10 hx hZ e10 Arr11 (j := p1) hinr11 (g := (mkF m 19 #[.val (.ref a0_), .val (.int p1)] [(.int (I 1)), (.int p1), (.ref (A 5))])) rfl rfl (hb hby own_d5_19)
  have N12 := Fr.snoc X12 Nf6 (HD.2.1 5 (by decide)).1
  obtain ⟨Lf12, Nf12, Xf12⟩ := own_fold X12 N12
  have HW12 : own_W Z h12 a0_ A I (own_g (own_g G 4 (p1).toNatClampNeg (I 0)) 5 (p1).toNatClampNeg (I 1)) := HW6.putA HD 5 (by decide) W12
  have k13 : own_To p e below T12 (mkF m 20 #[.val (.ref a0_), .val (.int p1)] []) s₁ (mkF m 0 #[.val (.ref a0_), .val (.int p1)] []) := fun t q => ki t (by
    refine XS.aloadN X0.here hx rfl (hb hby own_d5_0) rfl rfl ?_
    show Steps p.tables e below (s₁.setTop (mkF m 1 #[.val (.ref a0_), .val (.int p1)] [(.ref a0_)])) _
    refine st2 _ ?_
    show Steps p.tables e below (T2.setTop (mkF m 4 #[.val (.ref a0_), .val (.int p1)] [(.ref (A 4))])) _
    refine XS.iloadN X2.here hx rfl (hb hby own_d5_4) rfl ?_
    show Steps p.tables e below (T2.setTop (mkF m 5 #[.val (.ref a0_), .val (.int p1)] [(.int p1), (.ref (A 4))])) _
    refine XS.aloadN X2.here hx rfl (hb hby own_d5_5) rfl rfl ?_
    show Steps p.tables e below (T2.setTop (mkF m 6 #[.val (.ref a0_), .val (.int p1)] [(.ref a0_), (.int p1), (.ref (A 4))])) _
    refine st4 _ ?_
    show Steps p.tables e below (T4.setTop (mkF m 9 #[.val (.ref a0_), .val (.int p1)] [(.int (I 0)), (.int p1), (.ref (A 4))])) _
    refine st6 _ ?_
    show Steps p.tables e below (T6.setTop (mkF m 10 #[.val (.ref a0_), .val (.int p1)] [])) _
    refine XS.aloadN Xf6.here hx rfl (hb hby own_d5_10) rfl rfl ?_
    show Steps p.tables e below (T6.setTop (mkF m 11 #[.val (.ref a0_), .val (.int p1)] [(.ref a0_)])) _
    refine st8 _ ?_
    show Steps p.tables e below (T8.setTop (mkF m 14 #[.val (.ref a0_), .val (.int p1)] [(.ref (A 5))])) _
    refine XS.iloadN X8.here hx rfl (hb hby own_d5_14) rfl ?_
    show Steps p.tables e below (T8.setTop (mkF m 15 #[.val (.ref a0_), .val (.int p1)] [(.int p1), (.ref (A 5))])) _
    refine XS.aloadN X8.here hx rfl (hb hby own_d5_15) rfl rfl ?_
    show Steps p.tables e below (T8.setTop (mkF m 16 #[.val (.ref a0_), .val (.int p1)] [(.ref a0_), (.int p1), (.ref (A 5))])) _
    refine st10 _ ?_
    show Steps p.tables e below (T10.setTop (mkF m 19 #[.val (.ref a0_), .val (.int p1)] [(.int (I 1)), (.int p1), (.ref (A 5))])) _
    refine st12 _ ?_
    show Steps p.tables e below (T12.setTop (mkF m 20 #[.val (.ref a0_), .val (.int p1)] [])) _
    exact q)
  have Fg14 : Fld Z h12 a0_ "com/example/hornloom/hornloom/engine/WaitList" "builtinsLookedMarks" "[I" (.ref (A 6)) := HW12.2.2.1 6 (by decide)
  obtain ⟨T15, X15, e15, st15⟩ := getF Xf12 hx hZ hown (host := "") (Or.inl (hw _ (List.mem_of_getElem? (i := 41) rfl))) Via.refl e12 Fg14 (g := (mkF m 21 #[.val (.ref a0_), .val (.int p1)] [(.ref a0_)])) rfl rfl (hb hby own_d5_21)
  have Fg16 : Fld Z h12 a0_ "com/example/hornloom/hornloom/engine/WaitList" "builtinsLooked" "I" (.int (I 2)) := HW12.2.1 2 (by decide)
  obtain ⟨T17, X17, e17, st17⟩ := getF X15 hx hZ hown (host := "") (Or.inl (hw _ (List.mem_of_getElem? (i := 73) rfl))) Via.refl e15 Fg16 (g := (mkF m 26 #[.val (.ref a0_), .val (.int p1)] [(.ref a0_), (.int p1), (.ref (A 6))])) rfl rfl (hb hby own_d5_26)
  obtain ⟨clr18, Arr18, Sr18, Mr18, Hhr18⟩ : own_B Z h12 (A 6) .int (4 : Int32) ((own_g (own_g G 4 (p1).toNatClampNeg (I 0)) 5 (p1).toNatClampNeg (I 1)) 6) := HW12.2.2.2.1 6 (by decide)
  have hinr18 : ¬ (p1 < 0 ∨ clr18.slots.size ≤ (p1).toNatClampNeg) := inb_of Sr18 hp
  obtain ⟨T19, h19, X19, e19, W19, st19⟩ := stI X17 hx hZ e17 Arr18 (j := p1) hinr18 (g := (mkF m 29 #[.val (.ref a0_), .val (.int p1)] [(.int (I 2)), (.int p1), (.ref (A 6))])) rfl rfl (hb hby own_d5_29)
  have N19 := Fr.snoc X19 Nf12 (HD.2.1 6 (by decide)).1
  obtain ⟨Lf19, Nf19, Xf19⟩ := own_fold X19 N19
  have HW19 : own_W Z h19 a0_ A I (own_g (own_g (own_g G 4 (p1).toNatClampNeg (I 0)) 5 (p1).toNatClampNeg (I 1)) 6 (p1).toNatClampNeg (I 2)) := HW12.putA HD 6 (by decide) W19
  have Fg20 : Fld Z h19 a0_ "com/example/hornloom/hornloom/engine/WaitList" "disjunctionsLookedMarks" "[I" (.ref (A 7)) := HW19.2.2.1 7 (by decide)
  obtain ⟨T21, X21, e21, st21⟩ := getF Xf19 hx hZ hown (host := "") (Or.inl (hw _ (List.mem_of_getElem? (i := 43) rfl))) Via.refl e19 Fg20 (g := (mkF m 31 #[.val (.ref a0_), .val (.int p1)] [(.ref a0_)])) rfl rfl (hb hby own_d5_31)
  have Fg22 : Fld Z h19 a0_ "com/example/hornloom/hornloom/engine/WaitList" "disjunctionsLooked" "I" (.int (I 3)) := HW19.2.1 3 (by decide)
  obtain ⟨T23, X23, e23, st23⟩ := getF X21 hx hZ hown (host := "") (Or.inl (hw _ (List.mem_of_getElem? (i := 75) rfl))) Via.refl e21 Fg22 (g := (mkF m 36 #[.val (.ref a0_), .val (.int p1)] [(.ref a0_), (.int p1), (.ref (A 7))])) rfl rfl (hb hby own_d5_36)
  obtain ⟨clr24, Arr24, Sr24, Mr24, Hhr24⟩ : own_B Z h19 (A 7) .int (4 : Int32) ((own_g (own_g (own_g G 4 (p1).toNatClampNeg (I 0)) 5 (p1).toNatClampNeg (I 1)) 6 (p1).toNatClampNeg (I 2)) 7) := HW19.2.2.2.1 7 (by decide)
  have hinr24 : ¬ (p1 < 0 ∨ clr24.slots.size ≤ (p1).toNatClampNeg) := inb_of Sr24 hp
  obtain ⟨T25, h25, X25, e25, W25, st25⟩ := stI X23 hx hZ e23 Arr24 (j := p1) hinr24 (g := (mkF m 39 #[.val (.ref a0_), .val (.int p1)] [(.int (I 3)), (.int p1), (.ref (A 7))])) rfl rfl (hb hby own_d5_39)
  have N25 := Fr.snoc X25 Nf19 (HD.2.1 7 (by decide)).1
  obtain ⟨Lf25, Nf25, Xf25⟩ := own_fold X25 N25
  have HW25 : own_W Z h25 a0_ A I (own_g (own_g (own_g (own_g G 4 (p1).toNatClampNeg (I 0)) 5 (p1).toNatClampNeg (I 1)) 6 (p1).toNatClampNeg (I 2)) 7 (p1).toNatClampNeg (I 3)) := HW19.putA HD 7 (by decide) W25
  have k26 : own_To p e below T25 (mkF m 40 #[.val (.ref a0_), .val (.int p1)] []) s₁ (mkF m 0 #[.val (.ref a0_), .val (.int p1)] []) := fun t q => k13 t (by
    refine XS.aloadN Xf12.here hx rfl (hb hby own_d5_20) rfl rfl ?_
    show Steps p.tables e below (T12.setTop (mkF m 21 #[.val (.ref a0_), .val (.int p1)] [(.ref a0_)])) _
    refine st15 _ ?_
    show Steps p.tables e below (T15.setTop (mkF m 24 #[.val (.ref a0_), .val (.int p1)] [(.ref (A 6))])) _
    refine XS.iloadN X15.here hx rfl (hb hby own_d5_24) rfl ?_
    show Steps p.tables e below (T15.setTop (mkF m 25 #[.val (.ref a0_), .val (.int p1)] [(.int p1), (.ref (A 6))])) _
    refine XS.aloadN X15.here hx rfl (hb hby own_d5_25) rfl rfl ?_
    show Steps p.tables e below (T15.setTop (mkF m 26 #[.val (.ref a0_), .val (.int p1)] [(.ref a0_), (.int p1), (.ref (A 6))])) _
    refine st17 _ ?_
    show Steps p.tables e below (T17.setTop (mkF m 29 #[.val (.ref a0_), .val (.int p1)] [(.int (I 2)), (.int p1), (.ref (A 6))])) _
    refine st19 _ ?_
    show Steps p.tables e below (T19.setTop (mkF m 30 #[.val (.ref a0_), .val (.int p1)] [])) _
    refine XS.aloadN Xf19.here hx rfl (hb hby own_d5_30) rfl rfl ?_
    show Steps p.tables e below (T19.setTop (mkF m 31 #[.val (.ref a0_), .val (.int p1)] [(.ref a0_)])) _
    refine st21 _ ?_
    show Steps p.tables e below (T21.setTop (mkF m 34 #[.val (.ref a0_), .val (.int p1)] [(.ref (A 7))])) _
    refine XS.iloadN X21.here hx rfl (hb hby own_d5_34) rfl ?_
    show Steps p.tables e below (T21.setTop (mkF m 35 #[.val (.ref a0_), .val (.int p1)] [(.int p1), (.ref (A 7))])) _
    refine XS.aloadN X21.here hx rfl (hb hby own_d5_35) rfl rfl ?_
    show Steps p.tables e below (T21.setTop (mkF m 36 #[.val (.ref a0_), .val (.int p1)] [(.ref a0_), (.int p1), (.ref (A 7))])) _
    refine st23 _ ?_
    show Steps p.tables e below (T23.setTop (mkF m 39 #[.val (.ref a0_), .val (.int p1)] [(.int (I 3)), (.int p1), (.ref (A 7))])) _
    refine st25 _ ?_
    show Steps p.tables e below (T25.setTop (mkF m 40 #[.val (.ref a0_), .val (.int p1)] [])) _
    exact q)
  have Fg27 : Fld Z h25 a0_ "com/example/hornloom/hornloom/engine/WaitList" "settledMarks" "[I" (.ref (A 8)) := HW25.2.2.1 8 (by decide)
  obtain ⟨T28, X28, e28, st28⟩ := getF Xf25 hx hZ hown (host := "") (Or.inl (hw _ (List.mem_of_getElem? (i := 45) rfl))) Via.refl e25 Fg27 (g := (mkF m 41 #[.val (.ref a0_), .val (.int p1)] [(.ref a0_)])) rfl rfl (hb hby own_d5_41)
  have Fg29 : Fld Z h25 a0_ "com/example/hornloom/hornloom/engine/WaitList" "settledDisjunctions" "I" (.int (I 4)) := HW25.2.1 4 (by decide)
  obtain ⟨T30, X30, e30, st30⟩ := getF X28 hx hZ hown (host := "") (Or.inl (hw _ (List.mem_of_getElem? (i := 77) rfl))) Via.refl e28 Fg29 (g := (mkF m 46 #[.val (.ref a0_), .val (.int p1)] [(.ref a0_), (.int p1), (.ref (A 8))])) rfl rfl (hb hby own_d5_46)
  obtain ⟨clr31, Arr31, Sr31, Mr31, Hhr31⟩ : own_B Z h25 (A 8) .int (4 : Int32) ((own_g (own_g (own_g (own_g G 4 (p1).toNatClampNeg (I 0)) 5 (p1).toNatClampNeg (I 1)) 6 (p1).toNatClampNeg (I 2)) 7 (p1).toNatClampNeg (I 3)) 8) := HW25.2.2.2.1 8 (by decide)
  have hinr31 : ¬ (p1 < 0 ∨ clr31.slots.size ≤ (p1).toNatClampNeg) := inb_of Sr31 hp
  obtain ⟨T32, h32, X32, e32, W32, st32⟩ := stI X30 hx hZ e30 Arr31 (j := p1) hinr31 (g := (mkF m 49 #[.val (.ref a0_), .val (.int p1)] [(.int (I 4)), (.int p1), (.ref (A 8))])) rfl rfl (hb hby own_d5_49)
  have N32 := Fr.snoc X32 Nf25 (HD.2.1 8 (by decide)).1
  obtain ⟨Lf32, Nf32, Xf32⟩ := own_fold X32 N32
  have HW32 : own_W Z h32 a0_ A I (own_g (own_g (own_g (own_g (own_g G 4 (p1).toNatClampNeg (I 0)) 5 (p1).toNatClampNeg (I 1)) 6 (p1).toNatClampNeg (I 2)) 7 (p1).toNatClampNeg (I 3)) 8 (p1).toNatClampNeg (I 4)) := HW25.putA HD 8 (by decide) W32
  have Fg33 : Fld Z h32 a0_ "com/example/hornloom/hornloom/engine/WaitList" "readyMarks" "[I" (.ref (A 9)) := HW32.2.2.1 9 (by decide)
  obtain ⟨T34, X34, e34, st34⟩ := getF Xf32 hx hZ hown (host := "") (Or.inl (hw _ (List.mem_of_getElem? (i := 47) rfl))) Via.refl e32 Fg33 (g := (mkF m 51 #[.val (.ref a0_), .val (.int p1)] [(.ref a0_)])) rfl rfl (hb hby own_d5_51)
  have Fg35 : Fld Z h32 a0_ "com/example/hornloom/hornloom/engine/WaitList" "readyCount" "I" (.int (I 5)) := HW32.2.1 5 (by decide)
  obtain ⟨T36, X36, e36, st36⟩ := getF X34 hx hZ hown (host := "") (Or.inl (hw _ (List.mem_of_getElem? (i := 79) rfl))) Via.refl e34 Fg35 (g := (mkF m 56 #[.val (.ref a0_), .val (.int p1)] [(.ref a0_), (.int p1), (.ref (A 9))])) rfl rfl (hb hby own_d5_56)
  obtain ⟨clr37, Arr37, Sr37, Mr37, Hhr37⟩ : own_B Z h32 (A 9) .int (4 : Int32) ((own_g (own_g (own_g (own_g (own_g G 4 (p1).toNatClampNeg (I 0)) 5 (p1).toNatClampNeg (I 1)) 6 (p1).toNatClampNeg (I 2)) 7 (p1).toNatClampNeg (I 3)) 8 (p1).toNatClampNeg (I 4)) 9) := HW32.2.2.2.1 9 (by decide)
  have hinr37 : ¬ (p1 < 0 ∨ clr37.slots.size ≤ (p1).toNatClampNeg) := inb_of Sr37 hp
  obtain ⟨T38, h38, X38, e38, W38, st38⟩ := stI X36 hx hZ e36 Arr37 (j := p1) hinr37 (g := (mkF m 59 #[.val (.ref a0_), .val (.int p1)] [(.int (I 5)), (.int p1), (.ref (A 9))])) rfl rfl (hb hby own_d5_59)
  have N38 := Fr.snoc X38 Nf32 (HD.2.1 9 (by decide)).1
  obtain ⟨Lf38, Nf38, Xf38⟩ := own_fold X38 N38
  have HW38 : own_W Z h38 a0_ A I (own_g (own_g (own_g (own_g (own_g (own_g G 4 (p1).toNatClampNeg (I 0)) 5 (p1).toNatClampNeg (I 1)) 6 (p1).toNatClampNeg (I 2)) 7 (p1).toNatClampNeg (I 3)) 8 (p1).toNatClampNeg (I 4)) 9 (p1).toNatClampNeg (I 5)) := HW32.putA HD 9 (by decide) W38
  have k39 : own_To p e below T38 (mkF m 60 #[.val (.ref a0_), .val (.int p1)] []) s₁ (mkF m 0 #[.val (.ref a0_), .val (.int p1)] []) := fun t q => k26 t (by
    refine XS.aloadN Xf25.here hx rfl (hb hby own_d5_40) rfl rfl ?_
    show Steps p.tables e below (T25.setTop (mkF m 41 #[.val (.ref a0_), .val (.int p1)] [(.ref a0_)])) _
    refine st28 _ ?_
    show Steps p.tables e below (T28.setTop (mkF m 44 #[.val (.ref a0_), .val (.int p1)] [(.ref (A 8))])) _
    refine XS.iloadN X28.here hx rfl (hb hby own_d5_44) rfl ?_
    show Steps p.tables e below (T28.setTop (mkF m 45 #[.val (.ref a0_), .val (.int p1)] [(.int p1), (.ref (A 8))])) _
    refine XS.aloadN X28.here hx rfl (hb hby own_d5_45) rfl rfl ?_
    show Steps p.tables e below (T28.setTop (mkF m 46 #[.val (.ref a0_), .val (.int p1)] [(.ref a0_), (.int p1), (.ref (A 8))])) _
    refine st30 _ ?_
    show Steps p.tables e below (T30.setTop (mkF m 49 #[.val (.ref a0_), .val (.int p1)] [(.int (I 4)), (.int p1), (.ref (A 8))])) _
    refine st32 _ ?_
    show Steps p.tables e below (T32.setTop (mkF m 50 #[.val (.ref a0_), .val (.int p1)] [])) _
    refine XS.aloadN Xf32.here hx rfl (hb hby own_d5_50) rfl rfl ?_
    show Steps p.tables e below (T32.setTop (mkF m 51 #[.val (.ref a0_), .val (.int p1)] [(.ref a0_)])) _
    refine st34 _ ?_
    show Steps p.tables e below (T34.setTop (mkF m 54 #[.val (.ref a0_), .val (.int p1)] [(.ref (A 9))])) _
    refine XS.iloadN X34.here hx rfl (hb hby own_d5_54) rfl ?_
    show Steps p.tables e below (T34.setTop (mkF m 55 #[.val (.ref a0_), .val (.int p1)] [(.int p1), (.ref (A 9))])) _
    refine XS.aloadN X34.here hx rfl (hb hby own_d5_55) rfl rfl ?_
    show Steps p.tables e below (T34.setTop (mkF m 56 #[.val (.ref a0_), .val (.int p1)] [(.ref a0_), (.int p1), (.ref (A 9))])) _
    refine st36 _ ?_
    show Steps p.tables e below (T36.setTop (mkF m 59 #[.val (.ref a0_), .val (.int p1)] [(.int (I 5)), (.int p1), (.ref (A 9))])) _
    refine st38 _ ?_
    show Steps p.tables e below (T38.setTop (mkF m 60 #[.val (.ref a0_), .val (.int p1)] [])) _
    exact q)
  have Fg40 : Fld Z h38 a0_ "com/example/hornloom/hornloom/engine/WaitList" "readyTakenMarks" "[I" (.ref (A 10)) := HW38.2.2.1 10 (by decide)
  obtain ⟨T41, X41, e41, st41⟩ := getF Xf38 hx hZ hown (host := "") (Or.inl (hw _ (List.mem_of_getElem? (i := 49) rfl))) Via.refl e38 Fg40 (g := (mkF m 61 #[.val (.ref a0_), .val (.int p1)] [(.ref a0_)])) rfl rfl (hb hby own_d5_61)
  have Fg42 : Fld Z h38 a0_ "com/example/hornloom/hornloom/engine/WaitList" "readyTaken" "I" (.int (I 6)) := HW38.2.1 6 (by decide)
  obtain ⟨T43, X43, e43, st43⟩ := getF X41 hx hZ hown (host := "") (Or.inl (hw _ (List.mem_of_getElem? (i := 81) rfl))) Via.refl e41 Fg42 (g := (mkF m 66 #[.val (.ref a0_), .val (.int p1)] [(.ref a0_), (.int p1), (.ref (A 10))])) rfl rfl (hb hby own_d5_66)
  obtain ⟨clr44, Arr44, Sr44, Mr44, Hhr44⟩ : own_B Z h38 (A 10) .int (4 : Int32) ((own_g (own_g (own_g (own_g (own_g (own_g G 4 (p1).toNatClampNeg (I 0)) 5 (p1).toNatClampNeg (I 1)) 6 (p1).toNatClampNeg (I 2)) 7 (p1).toNatClampNeg (I 3)) 8 (p1).toNatClampNeg (I 4)) 9 (p1).toNatClampNeg (I 5)) 10) := HW38.2.2.2.1 10 (by decide)
  have hinr44 : ¬ (p1 < 0 ∨ clr44.slots.size ≤ (p1).toNatClampNeg) := inb_of Sr44 hp
  obtain ⟨T45, h45, X45, e45, W45, st45⟩ := stI X43 hx hZ e43 Arr44 (j := p1) hinr44 (g := (mkF m 69 #[.val (.ref a0_), .val (.int p1)] [(.int (I 6)), (.int p1), (.ref (A 10))])) rfl rfl (hb hby own_d5_69)
  have N45 := Fr.snoc X45 Nf38 (HD.2.1 10 (by decide)).1
  obtain ⟨Lf45, Nf45, Xf45⟩ := own_fold X45 N45
  have HW45 : own_W Z h45 a0_ A I (own_g (own_g (own_g (own_g (own_g (own_g (own_g G 4 (p1).toNatClampNeg (I 0)) 5 (p1).toNatClampNeg (I 1)) 6 (p1).toNatClampNeg (I 2)) 7 (p1).toNatClampNeg (I 3)) 8 (p1).toNatClampNeg (I 4)) 9 (p1).toNatClampNeg (I 5)) 10 (p1).toNatClampNeg (I 6)) := HW38.putA HD 10 (by decide) W45
  have Fg46 : Fld Z h45 a0_ "com/example/hornloom/hornloom/engine/WaitList" "matchedMarks" "[I" (.ref (A 11)) := HW45.2.2.1 11 (by decide)
  obtain ⟨T47, X47, e47, st47⟩ := getF Xf45 hx hZ hown (host := "") (Or.inl (hw _ (List.mem_of_getElem? (i := 51) rfl))) Via.refl e45 Fg46 (g := (mkF m 71 #[.val (.ref a0_), .val (.int p1)] [(.ref a0_)])) rfl rfl (hb hby own_d5_71)
  have Fg48 : Fld Z h45 a0_ "com/example/hornloom/hornloom/engine/WaitList" "matchedCount" "I" (.int (I 7)) := HW45.2.1 7 (by decide)
  obtain ⟨T49, X49, e49, st49⟩ := getF X47 hx hZ hown (host := "") (Or.inl (hw _ (List.mem_of_getElem? (i := 83) rfl))) Via.refl e47 Fg48 (g := (mkF m 76 #[.val (.ref a0_), .val (.int p1)] [(.ref a0_), (.int p1), (.ref (A 11))])) rfl rfl (hb hby own_d5_76)
  obtain ⟨clr50, Arr50, Sr50, Mr50, Hhr50⟩ : own_B Z h45 (A 11) .int (4 : Int32) ((own_g (own_g (own_g (own_g (own_g (own_g (own_g G 4 (p1).toNatClampNeg (I 0)) 5 (p1).toNatClampNeg (I 1)) 6 (p1).toNatClampNeg (I 2)) 7 (p1).toNatClampNeg (I 3)) 8 (p1).toNatClampNeg (I 4)) 9 (p1).toNatClampNeg (I 5)) 10 (p1).toNatClampNeg (I 6)) 11) := HW45.2.2.2.1 11 (by decide)
  have hinr50 : ¬ (p1 < 0 ∨ clr50.slots.size ≤ (p1).toNatClampNeg) := inb_of Sr50 hp
  obtain ⟨T51, h51, X51, e51, W51, st51⟩ := stI X49 hx hZ e49 Arr50 (j := p1) hinr50 (g := (mkF m 79 #[.val (.ref a0_), .val (.int p1)] [(.int (I 7)), (.int p1), (.ref (A 11))])) rfl rfl (hb hby own_d5_79)
  have N51 := Fr.snoc X51 Nf45 (HD.2.1 11 (by decide)).1
  obtain ⟨Lf51, Nf51, Xf51⟩ := own_fold X51 N51
  have HW51 : own_W Z h51 a0_ A I (own_g (own_g (own_g (own_g (own_g (own_g (own_g (own_g G 4 (p1).toNatClampNeg (I 0)) 5 (p1).toNatClampNeg (I 1)) 6 (p1).toNatClampNeg (I 2)) 7 (p1).toNatClampNeg (I 3)) 8 (p1).toNatClampNeg (I 4)) 9 (p1).toNatClampNeg (I 5)) 10 (p1).toNatClampNeg (I 6)) 11 (p1).toNatClampNeg (I 7)) := HW45.putA HD 11 (by decide) W51
  have k52 : own_To p e below T51 (mkF m 80 #[.val (.ref a0_), .val (.int p1)] []) s₁ (mkF m 0 #[.val (.ref a0_), .val (.int p1)] []) := fun t q => k39 t (by
    refine XS.aloadN Xf38.here hx rfl (hb hby own_d5_60) rfl rfl ?_
    show Steps p.tables e below (T38.setTop (mkF m 61 #[.val (.ref a0_), .val (.int p1)] [(.ref a0_)])) _
    refine st41 _ ?_
    show Steps p.tables e below (T41.setTop (mkF m 64 #[.val (.ref a0_), .val (.int p1)] [(.ref (A 10))])) _
    refine XS.iloadN X41.here hx rfl (hb hby own_d5_64) rfl ?_
    show Steps p.tables e below (T41.setTop (mkF m 65 #[.val (.ref a0_), .val (.int p1)] [(.int p1), (.ref (A 10))])) _
    refine XS.aloadN X41.here hx rfl (hb hby own_d5_65) rfl rfl ?_
    show Steps p.tables e below (T41.setTop (mkF m 66 #[.val (.ref a0_), .val (.int p1)] [(.ref a0_), (.int p1), (.ref (A 10))])) _
    refine st43 _ ?_
    show Steps p.tables e below (T43.setTop (mkF m 69 #[.val (.ref a0_), .val (.int p1)] [(.int (I 6)), (.int p1), (.ref (A 10))])) _
    refine st45 _ ?_
    show Steps p.tables e below (T45.setTop (mkF m 70 #[.val (.ref a0_), .val (.int p1)] [])) _
    refine XS.aloadN Xf45.here hx rfl (hb hby own_d5_70) rfl rfl ?_
    show Steps p.tables e below (T45.setTop (mkF m 71 #[.val (.ref a0_), .val (.int p1)] [(.ref a0_)])) _
    refine st47 _ ?_
    show Steps p.tables e below (T47.setTop (mkF m 74 #[.val (.ref a0_), .val (.int p1)] [(.ref (A 11))])) _
    refine XS.iloadN X47.here hx rfl (hb hby own_d5_74) rfl ?_
    show Steps p.tables e below (T47.setTop (mkF m 75 #[.val (.ref a0_), .val (.int p1)] [(.int p1), (.ref (A 11))])) _
    refine XS.aloadN X47.here hx rfl (hb hby own_d5_75) rfl rfl ?_
    show Steps p.tables e below (T47.setTop (mkF m 76 #[.val (.ref a0_), .val (.int p1)] [(.ref a0_), (.int p1), (.ref (A 11))])) _
    refine st49 _ ?_
    show Steps p.tables e below (T49.setTop (mkF m 79 #[.val (.ref a0_), .val (.int p1)] [(.int (I 7)), (.int p1), (.ref (A 11))])) _
    refine st51 _ ?_
    show Steps p.tables e below (T51.setTop (mkF m 80 #[.val (.ref a0_), .val (.int p1)] [])) _
    exact q)
  have Fg53 : Fld Z h51 a0_ "com/example/hornloom/hornloom/engine/WaitList" "watchMarks" "[I" (.ref (A 12)) := HW51.2.2.1 12 (by decide)
  obtain ⟨T54, X54, e54, st54⟩ := getF Xf51 hx hZ hown (host := "") (Or.inl (hw _ (List.mem_of_getElem? (i := 53) rfl))) Via.refl e51 Fg53 (g := (mkF m 81 #[.val (.ref a0_), .val (.int p1)] [(.ref a0_)])) rfl rfl (hb hby own_d5_81)
  have Fg55 : Fld Z h51 a0_ "com/example/hornloom/hornloom/engine/WaitList" "watchCount" "I" (.int (I 8)) := HW51.2.1 8 (by decide)
  obtain ⟨T56, X56, e56, st56⟩ := getF X54 hx hZ hown (host := "") (Or.inl (hw _ (List.mem_of_getElem? (i := 85) rfl))) Via.refl e54 Fg55 (g := (mkF m 86 #[.val (.ref a0_), .val (.int p1)] [(.ref a0_), (.int p1), (.ref (A 12))])) rfl rfl (hb hby own_d5_86)
  obtain ⟨clr57, Arr57, Sr57, Mr57, Hhr57⟩ : own_B Z h51 (A 12) .int (4 : Int32) ((own_g (own_g (own_g (own_g (own_g (own_g (own_g (own_g G 4 (p1).toNatClampNeg (I 0)) 5 (p1).toNatClampNeg (I 1)) 6 (p1).toNatClampNeg (I 2)) 7 (p1).toNatClampNeg (I 3)) 8 (p1).toNatClampNeg (I 4)) 9 (p1).toNatClampNeg (I 5)) 10 (p1).toNatClampNeg (I 6)) 11 (p1).toNatClampNeg (I 7)) 12) := HW51.2.2.2.1 12 (by decide)
  have hinr57 : ¬ (p1 < 0 ∨ clr57.slots.size ≤ (p1).toNatClampNeg) := inb_of Sr57 hp
  obtain ⟨T58, h58, X58, e58, W58, st58⟩ := stI X56 hx hZ e56 Arr57 (j := p1) hinr57 (g := (mkF m 89 #[.val (.ref a0_), .val (.int p1)] [(.int (I 8)), (.int p1), (.ref (A 12))])) rfl rfl (hb hby own_d5_89)
  have N58 := Fr.snoc X58 Nf51 (HD.2.1 12 (by decide)).1
  obtain ⟨Lf58, Nf58, Xf58⟩ := own_fold X58 N58
  have HW58 : own_W Z h58 a0_ A I (own_g (own_g (own_g (own_g (own_g (own_g (own_g (own_g (own_g G 4 (p1).toNatClampNeg (I 0)) 5 (p1).toNatClampNeg (I 1)) 6 (p1).toNatClampNeg (I 2)) 7 (p1).toNatClampNeg (I 3)) 8 (p1).toNatClampNeg (I 4)) 9 (p1).toNatClampNeg (I 5)) 10 (p1).toNatClampNeg (I 6)) 11 (p1).toNatClampNeg (I 7)) 12 (p1).toNatClampNeg (I 8)) := HW51.putA HD 12 (by decide) W58
  have Fg59 : Fld Z h58 a0_ "com/example/hornloom/hornloom/engine/WaitList" "trailLookedMarks" "[I" (.ref (A 13)) := HW58.2.2.1 13 (by decide)
  obtain ⟨T60, X60, e60, st60⟩ := getF Xf58 hx hZ hown (host := "") (Or.inl (hw _ (List.mem_of_getElem? (i := 55) rfl))) Via.refl e58 Fg59 (g := (mkF m 91 #[.val (.ref a0_), .val (.int p1)] [(.ref a0_)])) rfl rfl (hb hby own_d5_91)
  have Fg61 : Fld Z h58 a0_ "com/example/hornloom/hornloom/engine/WaitList" "trailLooked" "I" (.int (I 9)) := HW58.2.1 9 (by decide)
  obtain ⟨T62, X62, e62, st62⟩ := getF X60 hx hZ hown (host := "") (Or.inl (hw _ (List.mem_of_getElem? (i := 62) rfl))) Via.refl e60 Fg61 (g := (mkF m 96 #[.val (.ref a0_), .val (.int p1)] [(.ref a0_), (.int p1), (.ref (A 13))])) rfl rfl (hb hby own_d5_96)
  obtain ⟨clr63, Arr63, Sr63, Mr63, Hhr63⟩ : own_B Z h58 (A 13) .int (4 : Int32) ((own_g (own_g (own_g (own_g (own_g (own_g (own_g (own_g (own_g G 4 (p1).toNatClampNeg (I 0)) 5 (p1).toNatClampNeg (I 1)) 6 (p1).toNatClampNeg (I 2)) 7 (p1).toNatClampNeg (I 3)) 8 (p1).toNatClampNeg (I 4)) 9 (p1).toNatClampNeg (I 5)) 10 (p1).toNatClampNeg (I 6)) 11 (p1).toNatClampNeg (I 7)) 12 (p1).toNatClampNeg (I 8)) 13) := HW58.2.2.2.1 13 (by decide)
  have hinr63 : ¬ (p1 < 0 ∨ clr63.slots.size ≤ (p1).toNatClampNeg) := inb_of Sr63 hp
  obtain ⟨T64, h64, X64, e64, W64, st64⟩ := stI X62 hx hZ e62 Arr63 (j := p1) hinr63 (g := (mkF m 99 #[.val (.ref a0_), .val (.int p1)] [(.int (I 9)), (.int p1), (.ref (A 13))])) rfl rfl (hb hby own_d5_99)
  have N64 := Fr.snoc X64 Nf58 (HD.2.1 13 (by decide)).1
  obtain ⟨Lf64, Nf64, Xf64⟩ := own_fold X64 N64
  have HW64 : own_W Z h64 a0_ A I (own_g (own_g (own_g (own_g (own_g (own_g (own_g (own_g (own_g (own_g G 4 (p1).toNatClampNeg (I 0)) 5 (p1).toNatClampNeg (I 1)) 6 (p1).toNatClampNeg (I 2)) 7 (p1).toNatClampNeg (I 3)) 8 (p1).toNatClampNeg (I 4)) 9 (p1).toNatClampNeg (I 5)) 10 (p1).toNatClampNeg (I 6)) 11 (p1).toNatClampNeg (I 7)) 12 (p1).toNatClampNeg (I 8)) 13 (p1).toNatClampNeg (I 9)) := HW58.putA HD 13 (by decide) W64
  have k65 : own_To p e below T64 (mkF m 100 #[.val (.ref a0_), .val (.int p1)] []) s₁ (mkF m 0 #[.val (.ref a0_), .val (.int p1)] []) := fun t q => k52 t (by
    refine XS.aloadN Xf51.here hx rfl (hb hby own_d5_80) rfl rfl ?_
    show Steps p.tables e below (T51.setTop (mkF m 81 #[.val (.ref a0_), .val (.int p1)] [(.ref a0_)])) _
    refine st54 _ ?_
    show Steps p.tables e below (T54.setTop (mkF m 84 #[.val (.ref a0_), .val (.int p1)] [(.ref (A 12))])) _
    refine XS.iloadN X54.here hx rfl (hb hby own_d5_84) rfl ?_
    show Steps p.tables e below (T54.setTop (mkF m 85 #[.val (.ref a0_), .val (.int p1)] [(.int p1), (.ref (A 12))])) _
    refine XS.aloadN X54.here hx rfl (hb hby own_d5_85) rfl rfl ?_
    show Steps p.tables e below (T54.setTop (mkF m 86 #[.val (.ref a0_), .val (.int p1)] [(.ref a0_), (.int p1), (.ref (A 12))])) _
    refine st56 _ ?_
    show Steps p.tables e below (T56.setTop (mkF m 89 #[.val (.ref a0_), .val (.int p1)] [(.int (I 8)), (.int p1), (.ref (A 12))])) _
    refine st58 _ ?_
    show Steps p.tables e below (T58.setTop (mkF m 90 #[.val (.ref a0_), .val (.int p1)] [])) _
    refine XS.aloadN Xf58.here hx rfl (hb hby own_d5_90) rfl rfl ?_
    show Steps p.tables e below (T58.setTop (mkF m 91 #[.val (.ref a0_), .val (.int p1)] [(.ref a0_)])) _
    refine st60 _ ?_
    show Steps p.tables e below (T60.setTop (mkF m 94 #[.val (.ref a0_), .val (.int p1)] [(.ref (A 13))])) _
    refine XS.iloadN X60.here hx rfl (hb hby own_d5_94) rfl ?_
    show Steps p.tables e below (T60.setTop (mkF m 95 #[.val (.ref a0_), .val (.int p1)] [(.int p1), (.ref (A 13))])) _
    refine XS.aloadN X60.here hx rfl (hb hby own_d5_95) rfl rfl ?_
    show Steps p.tables e below (T60.setTop (mkF m 96 #[.val (.ref a0_), .val (.int p1)] [(.ref a0_), (.int p1), (.ref (A 13))])) _
    refine st62 _ ?_
    show Steps p.tables e below (T62.setTop (mkF m 99 #[.val (.ref a0_), .val (.int p1)] [(.int (I 9)), (.int p1), (.ref (A 13))])) _
    refine st64 _ ?_
    show Steps p.tables e below (T64.setTop (mkF m 100 #[.val (.ref a0_), .val (.int p1)] [])) _
    exact q)
  have K66 := ((((Keep.refl h0 [a0_, (A 0), (A 1), (A 2), (A 3), (A 4), (A 5), (A 6), (A 7), (A 8), (A 9), (A 10), (A 11), (A 12), (A 13), (A 14), (A 15)]).wr W6 (Or.inl (List.mem_of_getElem? (i := 5) rfl))).wr W12 (Or.inl (List.mem_of_getElem? (i := 6) rfl))).wr W19 (Or.inl (List.mem_of_getElem? (i := 7) rfl)))
  have K67 := (((K66.wr W25 (Or.inl (List.mem_of_getElem? (i := 8) rfl))).wr W32 (Or.inl (List.mem_of_getElem? (i := 9) rfl))).wr W38 (Or.inl (List.mem_of_getElem? (i := 10) rfl)))
  have K68 := (((K67.wr W45 (Or.inl (List.mem_of_getElem? (i := 11) rfl))).wr W51 (Or.inl (List.mem_of_getElem? (i := 12) rfl))).wr W58 (Or.inl (List.mem_of_getElem? (i := 13) rfl)))
  have K69 : Keep h0 h64 [a0_, (A 0), (A 1), (A 2), (A 3), (A 4), (A 5), (A 6), (A 7), (A 8), (A 9), (A 10), (A 11), (A 12), (A 13), (A 14), (A 15)] := (K68.wr W64 (Or.inl (List.mem_of_getElem? (i := 14) rfl)))
  obtain ⟨fs, hr, hrun, hended, hW, hsame⟩ := Xf64.leave (v := none) (fun _ => rfl)
  refine ⟨_, _, k0 _ (k65 _ ?_), hrun, hended, _, _, rfl, ?_, ⟨_, rfl⟩, hW, hsame.mono (by decide) (by decide)⟩
  · show Steps p.tables e below (T64.setTop (mkF m 100 #[.val (.ref a0_), .val (.int p1)] [])) _
    exact Xf64.returnOut hx Bd.returns (hb hby own_d5_100) hr
  · show Qmk Z a0_ p1 A I G h0 n0 _ T64.heap _
    rw [e64]
    exact ⟨rfl, Nf64, K69, HW64⟩
theorem own_d7_0 : decode prog_35_method_7_code 0 = .ok (.aload_n 0, 1) := by decide +kernel
theorem own_d7_1 : decode prog_35_method_7_code 1 = .ok (.getfield 22, 3) := by decide +kernel
theorem own_d7_4 : decode prog_35_method_7_code 4 = .ok (.aload_n 0, 1) := by decide +kernel
theorem own_d7_5 : decode prog_35_method_7_code 5 = .ok (.dup, 1) := by decide +kernel
theorem own_d7_6 : decode prog_35_method_7_code 6 = .ok (.getfield 90, 3) := by decide +kernel
theorem own_d7_9 : decode prog_35_method_7_code 9 = .ok (.dup_x1, 1) := by decide +kernel
theorem own_d7_10 : decode prog_35_method_7_code 10 = .ok (.iconst 1, 1) := by decide +kernel
theorem own_d7_11 : decode prog_35_method_7_code 11 = .ok (.iadd, 1) := by decide +kernel
theorem own_d7_12 : decode prog_35_method_7_code 12 = .ok (.putfield 90, 3) := by decide +kernel
theorem own_d7_15 : decode prog_35_method_7_code 15 = .ok (.iload_n 1, 1) := by decide +kernel
theorem own_d7_16 : decode prog_35_method_7_code 16 = .ok (.iastore, 1) := by decide +kernel
theorem own_d7_17 : decode prog_35_method_7_code 17 = .ok (.return_, 1) := by decide +kernel
theorem own_pn7 : plainName "com/example/hornloom/hornloom/engine/WaitList" = true := by first | (simp [plainName, overriddenIn]; done) | decide +kernel
theorem own_efab (m : MethodId) (x0 : Addr) (x1 : Int32) : entryFrame m #[(.ref x0), (.int x1)] 2 = mkF m 0 #[.val (.ref x0), .val (.int x1)] [] := by first | (simp [entryFrame, mkF, argsToLocals, Value.category]; done) | rfl
def Qab (Z : State) (a0_ : Addr) (p1 : Int32) (A : Nat → Addr) (I : Nat → Int32) (G : Nat → Nat → Int32) (h0 : Heap) (n0 : Nat) (v : Option Value) (h : Heap) (L : List Loc) : Prop := v = none ∧ Fr n0 L ∧ Keep h0 h [a0_, (A 0), (A 1), (A 2), (A 3), (A 4), (A 5), (A 6), (A 7), (A 8), (A 9), (A 10), (A 11), (A 12), (A 13), (A 14), (A 15)] ∧ own_W Z h a0_ A (own_u I 0 ((I 0) + (1 : Int32))) (own_g G 1 ((I 0)).toNatClampNeg p1)
set_option maxRecDepth 65536 in
set_option maxHeartbeats 40000000 in
theorem rmab (l : Launch) (Z : State) (a0 : Array Value) (hw : ∀ d ∈ tables_1, d.before a0 Z = true) (ws : List Jvm.Cond) (a0_ : Addr) (p1 : Int32) (A : Nat → Addr) (I : Nat → Int32) (G : Nat → Nat → Int32) (h0 : Heap) (n0 : Nat) (Z0 : n0 ≤ h0.size) (HW : own_W Z h0 a0_ A I G) (HD : own_D n0 a0_ A) (hc : ¬ I 0 < 0 ∧ I 0 < (4 : Int32)) :
    MetFree l (⟨"com/example/hornloom/hornloom/engine/WaitList", "addBuiltin", "(I)V"⟩ : MethodName) (head1 (Jvm.Cond.code (⟨"com/example/hornloom/hornloom/engine/WaitList", "addBuiltin", "(I)V"⟩ : MethodName) prog_35_method_7_code 2 none :: ws) ({ frames := 0, cells := 0, slots := 0, locals := 0 } : Room)) (fun a U => a = #[(.ref a0_), (.int p1)] ∧ Z.Warmed39 U.vm ∧ U.heap = h0) (fun _ _ _ _ _ => True) (fun _ U o U' => ∃ v L, o = .returned v ∧ Qab Z a0_ p1 A I G h0 n0 v U'.heap L ∧ FrameEnd U o U' L ({ frames := 0, cells := 0, slots := 0, locals := 0 } : Room).cells ({ frames := 0, cells := 0, slots := 0, locals := 0 } : Room).slots) := by
  refine MetFree.of_bodySF (plainFor_of_name own_pn7) hisR ?_
  intro p e s m args below meth c s₁ Bd hml0 hP hK
  obtain ⟨rfl, hZ, hh⟩ := hP
  have hx := Bd.exec
  have hby := Bd.bytes
  have hml : c.maxLocals = 2 := hml0
  have hown : s.vm.findClass "com/example/hornloom/hornloom/engine/WaitList" = some m.cls := findClass_of_methodNamed Bd.named
  have hnm := (name_of_methodNamed Bd.named Bd.method).1
  have X0 : Stand p l e ({ frames := 0, cells := 0, slots := 0, locals := 0 } : Room) s m #[(.ref a0_), (.int p1)] below meth c s₁ [] 0 0 := Stand.of_body Bd
  have e0 : s₁.heap = h0 := by rw [← hh, Bd.state]; rfl
  have N0 := Fr.nil n0
  have k0 : own_To p e below s₁ (mkF m 0 #[.val (.ref a0_), .val (.int p1)] []) s₁ (entryFrame m #[(.ref a0_), (.int p1)] 2) := fun t k => castTop (own_efab m a0_ p1) k
  have ki : own_To p e below s₁ (mkF m 0 #[.val (.ref a0_), .val (.int p1)] []) s₁ (mkF m 0 #[.val (.ref a0_), .val (.int p1)] []) := fun t q => q
  have Lw := own_Lw Z a0 hw
  have Fg1 : Fld Z h0 a0_ "com/example/hornloom/hornloom/engine/WaitList" "builtins" "[I" (.ref (A 1)) := HW.2.2.1 1 (by decide)
  obtain ⟨T2, X2, e2, st2⟩ := getF X0 hx hZ hown (host := "") (Or.inl (hw _ (List.mem_of_getElem? (i := 18) rfl))) Via.refl e0 Fg1 (g := (mkF m 1 #[.val (.ref a0_), .val (.int p1)] [(.ref a0_)])) rfl rfl (hb hby own_d7_1)
  have Fg3 : Fld Z h0 a0_ "com/example/hornloom/hornloom/engine/WaitList" "builtinCount" "I" (.int (I 0)) := HW.2.1 0 (by decide)
  obtain ⟨T4, X4, e4, st4⟩ := getF X2 hx hZ hown (host := "") (Or.inl (hw _ (List.mem_of_getElem? (i := 69) rfl))) Via.refl e2 Fg3 (g := (mkF m 6 #[.val (.ref a0_), .val (.int p1)] [(.ref a0_), (.ref a0_), (.ref (A 1))])) rfl rfl (hb hby own_d7_6)
  have Fg5 : Fld Z h0 a0_ "com/example/hornloom/hornloom/engine/WaitList" "builtinCount" "I" (.int (I 0)) := HW.2.1 0 (by decide)
  obtain ⟨T6, h6, X6, e6, W6, st6⟩ := putF X4 hx hZ hown (host := "") (Or.inl (hw _ (List.mem_of_getElem? (i := 69) rfl))) Via.refl e4 Fg5 HW.1 (Or.inl (hw _ (List.mem_of_getElem? (i := 70) rfl))) (hw _ (List.mem_of_getElem? (i := 2) rfl)) (ty := .int) (by decide) rfl rfl (g := (mkF m 12 #[.val (.ref a0_), .val (.int p1)] [(.int ((I 0) + (1 : Int32))), (.ref a0_), (.int (I 0)), (.ref (A 1))])) rfl rfl (hb hby own_d7_12)
  have N6 := Fr.snoc X6 N0 HD.1
  obtain ⟨Lf6, Nf6, Xf6⟩ := own_fold X6 N6
  have HW6 : own_W Z h6 a0_ A (own_u I 0 ((I 0) + (1 : Int32))) G := HW.putI HD Lw 0 (by decide) W6
  obtain ⟨clr7, Arr7, Sr7, Mr7, Hhr7⟩ : own_B Z h6 (A 1) .int (4 : Int32) (G 1) := HW6.2.2.2.1 1 (by decide)
  have hinr7 : ¬ ((I 0) < 0 ∨ clr7.slots.size ≤ ((I 0)).toNatClampNeg) := inb_of Sr7 hc
  obtain ⟨T8, h8, X8, e8, W8, st8⟩ := stI Xf6 hx hZ e6 Arr7 (j := (I 0)) hinr7 (g := (mkF m 16 #[.val (.ref a0_), .val (.int p1)] [(.int p1), (.int (I 0)), (.ref (A 1))])) rfl rfl (hb hby own_d7_16)
  have N8 := Fr.snoc X8 Nf6 (HD.2.1 1 (by decide)).1
  obtain ⟨Lf8, Nf8, Xf8⟩ := own_fold X8 N8
  have HW8 : own_W Z h8 a0_ A (own_u I 0 ((I 0) + (1 : Int32))) (own_g G 1 ((I 0)).toNatClampNeg p1) := HW6.putA HD 1 (by decide) W8
  have K9 : Keep h0 h8 [a0_, (A 0), (A 1), (A 2), (A 3), (A 4), (A 5), (A 6), (A 7), (A 8), (A 9), (A 10), (A 11), (A 12), (A 13), (A 14), (A 15)] := (((Keep.refl h0 [a0_, (A 0), (A 1), (A 2), (A 3), (A 4), (A 5), (A 6), (A 7), (A 8), (A 9), (A 10), (A 11), (A 12), (A 13), (A 14), (A 15)]).wr W6 (Or.inl (List.mem_of_getElem? (i := 0) rfl))).wr W8 (Or.inl (List.mem_of_getElem? (i := 2) rfl)))
  have k10 : own_To p e below T8 (mkF m 17 #[.val (.ref a0_), .val (.int p1)] []) s₁ (mkF m 0 #[.val (.ref a0_), .val (.int p1)] []) := fun t q => ki t (by
    refine XS.aloadN X0.here hx rfl (hb hby own_d7_0) rfl rfl ?_
    show Steps p.tables e below (s₁.setTop (mkF m 1 #[.val (.ref a0_), .val (.int p1)] [(.ref a0_)])) _
    refine st2 _ ?_
    show Steps p.tables e below (T2.setTop (mkF m 4 #[.val (.ref a0_), .val (.int p1)] [(.ref (A 1))])) _
    refine XS.aloadN X2.here hx rfl (hb hby own_d7_4) rfl rfl ?_
    show Steps p.tables e below (T2.setTop (mkF m 5 #[.val (.ref a0_), .val (.int p1)] [(.ref a0_), (.ref (A 1))])) _
    refine XS.dup X2.here hx rfl (hb hby own_d7_5) rfl rfl ?_
    show Steps p.tables e below (T2.setTop (mkF m 6 #[.val (.ref a0_), .val (.int p1)] [(.ref a0_), (.ref a0_), (.ref (A 1))])) _
    refine st4 _ ?_
    show Steps p.tables e below (T4.setTop (mkF m 9 #[.val (.ref a0_), .val (.int p1)] [(.int (I 0)), (.ref a0_), (.ref (A 1))])) _
    refine XS.dupX1 X4.here hx rfl (hb hby own_d7_9) rfl rfl rfl ?_
    show Steps p.tables e below (T4.setTop (mkF m 10 #[.val (.ref a0_), .val (.int p1)] [(.int (I 0)), (.ref a0_), (.int (I 0)), (.ref (A 1))])) _
    refine XS.iconst X4.here hx rfl (hb hby own_d7_10) ?_
    show Steps p.tables e below (T4.setTop (mkF m 11 #[.val (.ref a0_), .val (.int p1)] [(.int (1 : Int32)), (.int (I 0)), (.ref a0_), (.int (I 0)), (.ref (A 1))])) _
    refine XS.iadd X4.here hx rfl (hb hby own_d7_11) rfl ?_
    show Steps p.tables e below (T4.setTop (mkF m 12 #[.val (.ref a0_), .val (.int p1)] [(.int ((I 0) + (1 : Int32))), (.ref a0_), (.int (I 0)), (.ref (A 1))])) _
    refine st6 _ ?_
    show Steps p.tables e below (T6.setTop (mkF m 15 #[.val (.ref a0_), .val (.int p1)] [(.int (I 0)), (.ref (A 1))])) _
    refine XS.iloadN Xf6.here hx rfl (hb hby own_d7_15) rfl ?_
    show Steps p.tables e below (T6.setTop (mkF m 16 #[.val (.ref a0_), .val (.int p1)] [(.int p1), (.int (I 0)), (.ref (A 1))])) _
    refine st8 _ ?_
    show Steps p.tables e below (T8.setTop (mkF m 17 #[.val (.ref a0_), .val (.int p1)] [])) _
    exact q)
  obtain ⟨fs, hr, hrun, hended, hW, hsame⟩ := Xf8.leave (v := none) (fun _ => rfl)
  refine ⟨_, _, k0 _ (k10 _ ?_), hrun, hended, _, _, rfl, ?_, ⟨_, rfl⟩, hW, hsame.mono (by decide) (by decide)⟩
  · show Steps p.tables e below (T8.setTop (mkF m 17 #[.val (.ref a0_), .val (.int p1)] [])) _
    exact Xf8.returnOut hx Bd.returns (hb hby own_d7_17) hr
  · show Qab Z a0_ p1 A I G h0 n0 _ T8.heap _
    rw [e8]
    exact ⟨rfl, Nf8, K9, HW8⟩
theorem own_d8_0 : decode prog_35_method_8_code 0 = .ok (.aload_n 0, 1) := by decide +kernel
theorem own_d8_1 : decode prog_35_method_8_code 1 = .ok (.getfield 25, 3) := by decide +kernel
theorem own_d8_4 : decode prog_35_method_8_code 4 = .ok (.aload_n 0, 1) := by decide +kernel
theorem own_d8_5 : decode prog_35_method_8_code 5 = .ok (.dup, 1) := by decide +kernel
theorem own_d8_6 : decode prog_35_method_8_code 6 = .ok (.getfield 94, 3) := by decide +kernel
theorem own_d8_9 : decode prog_35_method_8_code 9 = .ok (.dup_x1, 1) := by decide +kernel
theorem own_d8_10 : decode prog_35_method_8_code 10 = .ok (.iconst 1, 1) := by decide +kernel
theorem own_d8_11 : decode prog_35_method_8_code 11 = .ok (.iadd, 1) := by decide +kernel
theorem own_d8_12 : decode prog_35_method_8_code 12 = .ok (.putfield 94, 3) := by decide +kernel
theorem own_d8_15 : decode prog_35_method_8_code 15 = .ok (.iload_n 1, 1) := by decide +kernel
theorem own_d8_16 : decode prog_35_method_8_code 16 = .ok (.iastore, 1) := by decide +kernel
theorem own_d8_17 : decode prog_35_method_8_code 17 = .ok (.aload_n 0, 1) := by decide +kernel
theorem own_d8_18 : decode prog_35_method_8_code 18 = .ok (.getfield 29, 3) := by decide +kernel
theorem own_d8_21 : decode prog_35_method_8_code 21 = .ok (.iload_n 1, 1) := by decide +kernel
theorem own_d8_22 : decode prog_35_method_8_code 22 = .ok (.aload_n 2, 1) := by decide +kernel
theorem own_d8_23 : decode prog_35_method_8_code 23 = .ok (.aastore, 1) := by decide +kernel
theorem own_d8_24 : decode prog_35_method_8_code 24 = .ok (.return_, 1) := by decide +kernel
theorem own_pn8 : plainName "com/example/hornloom/hornloom/engine/WaitList" = true := by first | (simp [plainName, overriddenIn]; done) | decide +kernel
theorem own_efad (m : MethodId) (x0 : Addr) (x1 : Int32) (x2 : Addr) : entryFrame m #[(.ref x0), (.int x1), (.ref x2)] 3 = mkF m 0 #[.val (.ref x0), .val (.int x1), .val (.ref x2)] [] := by first | (simp [entryFrame, mkF, argsToLocals, Value.category]; done) | rfl
def Qad (Z : State) (a0_ : Addr) (p1 : Int32) (a2 : Addr) (A : Nat → Addr) (I : Nat → Int32) (G : Nat → Nat → Int32) (h0 : Heap) (n0 : Nat) (v : Option Value) (h : Heap) (L : List Loc) : Prop := v = none ∧ Fr n0 L ∧ Keep h0 h [a0_, (A 0), (A 1), (A 2), (A 3), (A 4), (A 5), (A 6), (A 7), (A 8), (A 9), (A 10), (A 11), (A 12), (A 13), (A 14), (A 15)] ∧ own_W Z h a0_ A (own_u I 1 ((I 1) + (1 : Int32))) (own_g G 2 ((I 1)).toNatClampNeg p1)
set_option maxRecDepth 65536 in
set_option maxHeartbeats 40000000 in
theorem rmad (l : Launch) (Z : State) (a0 : Array Value) (hw : ∀ d ∈ tables_1, d.before a0 Z = true) (ws : List Jvm.Cond) (a0_ : Addr) (p1 : Int32) (a2 : Addr) (A : Nat → Addr) (I : Nat → Int32) (G : Nat → Nat → Int32) (h0 : Heap) (n0 : Nat) (Z0 : n0 ≤ h0.size) (HW : own_W Z h0 a0_ A I G) (HD : own_D n0 a0_ A) (hc : ¬ I 1 < 0 ∧ I 1 < (4 : Int32)) (hp : ¬ p1 < 0 ∧ p1 < (4 : Int32)) (E2 : Exa Z h0 a2 "[I") :
    MetFree l (⟨"com/example/hornloom/hornloom/engine/WaitList", "addDisjunction", "(I[I)V"⟩ : MethodName) (head1 (Jvm.Cond.code (⟨"com/example/hornloom/hornloom/engine/WaitList", "addDisjunction", "(I[I)V"⟩ : MethodName) prog_35_method_8_code 3 none :: ws) ({ frames := 0, cells := 0, slots := 0, locals := 0 } : Room)) (fun a U => a = #[(.ref a0_), (.int p1), (.ref a2)] ∧ Z.Warmed39 U.vm ∧ U.heap = h0) (fun _ _ _ _ _ => True) (fun _ U o U' => ∃ v L, o = .returned v ∧ Qad Z a0_ p1 a2 A I G h0 n0 v U'.heap L ∧ FrameEnd U o U' L ({ frames := 0, cells := 0, slots := 0, locals := 0 } : Room).cells ({ frames := 0, cells := 0, slots := 0, locals := 0 } : Room).slots) := by
  refine MetFree.of_bodySF (plainFor_of_name own_pn8) hisR ?_
  intro p e s m args below meth c s₁ Bd hml0 hP hK
  obtain ⟨rfl, hZ, hh⟩ := hP
  have hx := Bd.exec
  have hby := Bd.bytes
  have hml : c.maxLocals = 3 := hml0
  have hown : s.vm.findClass "com/example/hornloom/hornloom/engine/WaitList" = some m.cls := findClass_of_methodNamed Bd.named
  have hnm := (name_of_methodNamed Bd.named Bd.method).1
  have X0 : Stand p l e ({ frames := 0, cells := 0, slots := 0, locals := 0 } : Room) s m #[(.ref a0_), (.int p1), (.ref a2)] below meth c s₁ [] 0 0 := Stand.of_body Bd
  have e0 : s₁.heap = h0 := by rw [← hh, Bd.state]; rfl
  have N0 := Fr.nil n0
  have k0 : own_To p e below s₁ (mkF m 0 #[.val (.ref a0_), .val (.int p1), .val (.ref a2)] []) s₁ (entryFrame m #[(.ref a0_), (.int p1), (.ref a2)] 3) := fun t k => castTop (own_efad m a0_ p1 a2) k
  have ki : own_To p e below s₁ (mkF m 0 #[.val (.ref a0_), .val (.int p1), .val (.ref a2)] []) s₁ (mkF m 0 #[.val (.ref a0_), .val (.int p1), .val (.ref a2)] []) := fun t q => q
  have Lw := own_Lw Z a0 hw
  have Fg1 : Fld Z h0 a0_ "com/example/hornloom/hornloom/engine/WaitList" "disjunctions" "[I" (.ref (A 2)) := HW.2.2.1 2 (by decide)
  obtain ⟨T2, X2, e2, st2⟩ := getF X0 hx hZ hown (host := "") (Or.inl (hw _ (List.mem_of_getElem? (i := 20) rfl))) Via.refl e0 Fg1 (g := (mkF m 1 #[.val (.ref a0_), .val (.int p1), .val (.ref a2)] [(.ref a0_)])) rfl rfl (hb hby own_d8_1)
  have Fg3 : Fld Z h0 a0_ "com/example/hornloom/hornloom/engine/WaitList" "disjunctionCount" "I" (.int (I 1)) := HW.2.1 1 (by decide)
  obtain ⟨T4, X4, e4, st4⟩ := getF X2 hx hZ hown (host := "") (Or.inl (hw _ (List.mem_of_getElem? (i := 71) rfl))) Via.refl e2 Fg3 (g := (mkF m 6 #[.val (.ref a0_), .val (.int p1), .val (.ref a2)] [(.ref a0_), (.ref a0_), (.ref (A 2))])) rfl rfl (hb hby own_d8_6)
  have Fg5 : Fld Z h0 a0_ "com/example/hornloom/hornloom/engine/WaitList" "disjunctionCount" "I" (.int (I 1)) := HW.2.1 1 (by decide)
  obtain ⟨T6, h6, X6, e6, W6, st6⟩ := putF X4 hx hZ hown (host := "") (Or.inl (hw _ (List.mem_of_getElem? (i := 71) rfl))) Via.refl e4 Fg5 HW.1 (Or.inl (hw _ (List.mem_of_getElem? (i := 72) rfl))) (hw _ (List.mem_of_getElem? (i := 2) rfl)) (ty := .int) (by decide) rfl rfl (g := (mkF m 12 #[.val (.ref a0_), .val (.int p1), .val (.ref a2)] [(.int ((I 1) + (1 : Int32))), (.ref a0_), (.int (I 1)), (.ref (A 2))])) rfl rfl (hb hby own_d8_12)
  have N6 := Fr.snoc X6 N0 HD.1
  obtain ⟨Lf6, Nf6, Xf6⟩ := own_fold X6 N6
  have HW6 : own_W Z h6 a0_ A (own_u I 1 ((I 1) + (1 : Int32))) G := HW.putI HD Lw 1 (by decide) W6
  obtain ⟨clr7, Arr7, Sr7, Mr7, Hhr7⟩ : own_B Z h6 (A 2) .int (4 : Int32) (G 2) := HW6.2.2.2.1 2 (by decide)
  have hinr7 : ¬ ((I 1) < 0 ∨ clr7.slots.size ≤ ((I 1)).toNatClampNeg) := inb_of Sr7 hc
  obtain ⟨T8, h8, X8, e8, W8, st8⟩ := stI Xf6 hx hZ e6 Arr7 (j := (I 1)) hinr7 (g := (mkF m 16 #[.val (.ref a0_), .val (.int p1), .val (.ref a2)] [(.int p1), (.int (I 1)), (.ref (A 2))])) rfl rfl (hb hby own_d8_16)
  have N8 := Fr.snoc X8 Nf6 (HD.2.1 2 (by decide)).1
  obtain ⟨Lf8, Nf8, Xf8⟩ := own_fold X8 N8
  have HW8 : own_W Z h8 a0_ A (own_u I 1 ((I 1) + (1 : Int32))) (own_g G 2 ((I 1)).toNatClampNeg p1) := HW6.putA HD 2 (by decide) W8
  have k9 : own_To p e below T8 (mkF m 18 #[.val (.ref a0_), .val (.int p1), .val (.ref a2)] [(.ref a0_)]) s₁ (mkF m 0 #[.val (.ref a0_), .val (.int p1), .val (.ref a2)] []) := fun t q => ki t (by
    refine XS.aloadN X0.here hx rfl (hb hby own_d8_0) rfl rfl ?_
    show Steps p.tables e below (s₁.setTop (mkF m 1 #[.val (.ref a0_), .val (.int p1), .val (.ref a2)] [(.ref a0_)])) _
    refine st2 _ ?_
    show Steps p.tables e below (T2.setTop (mkF m 4 #[.val (.ref a0_), .val (.int p1), .val (.ref a2)] [(.ref (A 2))])) _
    refine XS.aloadN X2.here hx rfl (hb hby own_d8_4) rfl rfl ?_
    show Steps p.tables e below (T2.setTop (mkF m 5 #[.val (.ref a0_), .val (.int p1), .val (.ref a2)] [(.ref a0_), (.ref (A 2))])) _
    refine XS.dup X2.here hx rfl (hb hby own_d8_5) rfl rfl ?_
    show Steps p.tables e below (T2.setTop (mkF m 6 #[.val (.ref a0_), .val (.int p1), .val (.ref a2)] [(.ref a0_), (.ref a0_), (.ref (A 2))])) _
    refine st4 _ ?_
    show Steps p.tables e below (T4.setTop (mkF m 9 #[.val (.ref a0_), .val (.int p1), .val (.ref a2)] [(.int (I 1)), (.ref a0_), (.ref (A 2))])) _
    refine XS.dupX1 X4.here hx rfl (hb hby own_d8_9) rfl rfl rfl ?_
    show Steps p.tables e below (T4.setTop (mkF m 10 #[.val (.ref a0_), .val (.int p1), .val (.ref a2)] [(.int (I 1)), (.ref a0_), (.int (I 1)), (.ref (A 2))])) _
    refine XS.iconst X4.here hx rfl (hb hby own_d8_10) ?_
    show Steps p.tables e below (T4.setTop (mkF m 11 #[.val (.ref a0_), .val (.int p1), .val (.ref a2)] [(.int (1 : Int32)), (.int (I 1)), (.ref a0_), (.int (I 1)), (.ref (A 2))])) _
    refine XS.iadd X4.here hx rfl (hb hby own_d8_11) rfl ?_
    show Steps p.tables e below (T4.setTop (mkF m 12 #[.val (.ref a0_), .val (.int p1), .val (.ref a2)] [(.int ((I 1) + (1 : Int32))), (.ref a0_), (.int (I 1)), (.ref (A 2))])) _
    refine st6 _ ?_
    show Steps p.tables e below (T6.setTop (mkF m 15 #[.val (.ref a0_), .val (.int p1), .val (.ref a2)] [(.int (I 1)), (.ref (A 2))])) _
    refine XS.iloadN Xf6.here hx rfl (hb hby own_d8_15) rfl ?_
    show Steps p.tables e below (T6.setTop (mkF m 16 #[.val (.ref a0_), .val (.int p1), .val (.ref a2)] [(.int p1), (.int (I 1)), (.ref (A 2))])) _
    refine st8 _ ?_
    show Steps p.tables e below (T8.setTop (mkF m 17 #[.val (.ref a0_), .val (.int p1), .val (.ref a2)] [])) _
    refine XS.aloadN Xf8.here hx rfl (hb hby own_d8_17) rfl rfl ?_
    show Steps p.tables e below (T8.setTop (mkF m 18 #[.val (.ref a0_), .val (.int p1), .val (.ref a2)] [(.ref a0_)])) _
    exact q)
  have Fg10 : Fld Z h8 a0_ "com/example/hornloom/hornloom/engine/WaitList" "awaited" "[[I" (.ref (A 15)) := HW8.2.2.1 15 (by decide)
  obtain ⟨T11, X11, e11, st11⟩ := getF Xf8 hx hZ hown (host := "") (Or.inl (hw _ (List.mem_of_getElem? (i := 24) rfl))) Via.refl e8 Fg10 (g := (mkF m 18 #[.val (.ref a0_), .val (.int p1), .val (.ref a2)] [(.ref a0_)])) rfl rfl (hb hby own_d8_18)
  obtain ⟨clr12, Arr12, Sr12, Or12⟩ := HW8.2.2.2.2
  have hinr12 : ¬ (p1 < 0 ∨ clr12.slots.size ≤ (p1).toNatClampNeg) := inb_of (z := (4 : Int32)) Sr12 hp
  have F13 := ((E2.wr W6).wr W8)
  obtain ⟨T14, h14, X14, e14, W14, st14⟩ := stR X11 hx hZ e11 Arr12 (j := p1) hinr12 rfl (Sto.ofVA Arr12 rfl Or12 (Ins.self F13)) (g := (mkF m 23 #[.val (.ref a0_), .val (.int p1), .val (.ref a2)] [(.ref a2), (.int p1), (.ref (A 15))])) rfl rfl (hb hby own_d8_23)
  have N14 := Fr.snoc X14 Nf8 (HD.2.1 15 (by decide)).1
  obtain ⟨Lf14, Nf14, Xf14⟩ := own_fold X14 N14
  have HW14 : own_W Z h14 a0_ A (own_u I 1 ((I 1) + (1 : Int32))) (own_g G 2 ((I 1)).toNatClampNeg p1) := HW8.putR HD W14
  have K15 : Keep h0 h14 [a0_, (A 0), (A 1), (A 2), (A 3), (A 4), (A 5), (A 6), (A 7), (A 8), (A 9), (A 10), (A 11), (A 12), (A 13), (A 14), (A 15)] := ((((Keep.refl h0 [a0_, (A 0), (A 1), (A 2), (A 3), (A 4), (A 5), (A 6), (A 7), (A 8), (A 9), (A 10), (A 11), (A 12), (A 13), (A 14), (A 15)]).wr W6 (Or.inl (List.mem_of_getElem? (i := 0) rfl))).wr W8 (Or.inl (List.mem_of_getElem? (i := 3) rfl))).wr W14 (Or.inl (List.mem_of_getElem? (i := 16) rfl)))
  have k16 : own_To p e below T14 (mkF m 24 #[.val (.ref a0_), .val (.int p1), .val (.ref a2)] []) s₁ (mkF m 0 #[.val (.ref a0_), .val (.int p1), .val (.ref a2)] []) := fun t q => k9 t (by
    refine st11 _ ?_
    show Steps p.tables e below (T11.setTop (mkF m 21 #[.val (.ref a0_), .val (.int p1), .val (.ref a2)] [(.ref (A 15))])) _
    refine XS.iloadN X11.here hx rfl (hb hby own_d8_21) rfl ?_
    show Steps p.tables e below (T11.setTop (mkF m 22 #[.val (.ref a0_), .val (.int p1), .val (.ref a2)] [(.int p1), (.ref (A 15))])) _
    refine XS.aloadN X11.here hx rfl (hb hby own_d8_22) rfl rfl ?_
    show Steps p.tables e below (T11.setTop (mkF m 23 #[.val (.ref a0_), .val (.int p1), .val (.ref a2)] [(.ref a2), (.int p1), (.ref (A 15))])) _
    refine st14 _ ?_
    show Steps p.tables e below (T14.setTop (mkF m 24 #[.val (.ref a0_), .val (.int p1), .val (.ref a2)] [])) _
    exact q)
  obtain ⟨fs, hr, hrun, hended, hW, hsame⟩ := Xf14.leave (v := none) (fun _ => rfl)
  refine ⟨_, _, k0 _ (k16 _ ?_), hrun, hended, _, _, rfl, ?_, ⟨_, rfl⟩, hW, hsame.mono (by decide) (by decide)⟩
  · show Steps p.tables e below (T14.setTop (mkF m 24 #[.val (.ref a0_), .val (.int p1), .val (.ref a2)] [])) _
    exact Xf14.returnOut hx Bd.returns (hb hby own_d8_24) hr
  · show Qad Z a0_ p1 a2 A I G h0 n0 _ T14.heap _
    rw [e14]
    exact ⟨rfl, Nf14, K15, HW14⟩
theorem own_d14_0 : decode prog_35_method_16_code 0 = .ok (.aload_n 0, 1) := by decide +kernel
theorem own_d14_1 : decode prog_35_method_16_code 1 = .ok (.getfield 33, 3) := by decide +kernel
theorem own_d14_4 : decode prog_35_method_16_code 4 = .ok (.iload_n 1, 1) := by decide +kernel
theorem own_d14_5 : decode prog_35_method_16_code 5 = .ok (.iconst 1, 1) := by decide +kernel
theorem own_d14_6 : decode prog_35_method_16_code 6 = .ok (.bastore, 1) := by decide +kernel
theorem own_d14_7 : decode prog_35_method_16_code 7 = .ok (.aload_n 0, 1) := by decide +kernel
theorem own_d14_8 : decode prog_35_method_16_code 8 = .ok (.getfield 37, 3) := by decide +kernel
theorem own_d14_11 : decode prog_35_method_16_code 11 = .ok (.aload_n 0, 1) := by decide +kernel
theorem own_d14_12 : decode prog_35_method_16_code 12 = .ok (.dup, 1) := by decide +kernel
theorem own_d14_13 : decode prog_35_method_16_code 13 = .ok (.getfield 112, 3) := by decide +kernel
theorem own_d14_16 : decode prog_35_method_16_code 16 = .ok (.dup_x1, 1) := by decide +kernel
theorem own_d14_17 : decode prog_35_method_16_code 17 = .ok (.iconst 1, 1) := by decide +kernel
theorem own_d14_18 : decode prog_35_method_16_code 18 = .ok (.iadd, 1) := by decide +kernel
theorem own_d14_19 : decode prog_35_method_16_code 19 = .ok (.putfield 112, 3) := by decide +kernel
theorem own_d14_22 : decode prog_35_method_16_code 22 = .ok (.iload_n 1, 1) := by decide +kernel
theorem own_d14_23 : decode prog_35_method_16_code 23 = .ok (.iastore, 1) := by decide +kernel
theorem own_d14_24 : decode prog_35_method_16_code 24 = .ok (.return_, 1) := by decide +kernel
theorem own_pn14 : plainName "com/example/hornloom/hornloom/engine/WaitList" = true := by first | (simp [plainName, overriddenIn]; done) | decide +kernel
theorem own_efmm (m : MethodId) (x0 : Addr) (x1 : Int32) : entryFrame m #[(.ref x0), (.int x1)] 2 = mkF m 0 #[.val (.ref x0), .val (.int x1)] [] := by first | (simp [entryFrame, mkF, argsToLocals, Value.category]; done) | rfl
def Qmm (Z : State) (a0_ : Addr) (p1 : Int32) (A : Nat → Addr) (I : Nat → Int32) (G : Nat → Nat → Int32) (h0 : Heap) (n0 : Nat) (v : Option Value) (h : Heap) (L : List Loc) : Prop := v = none ∧ Fr n0 L ∧ Keep h0 h [a0_, (A 0), (A 1), (A 2), (A 3), (A 4), (A 5), (A 6), (A 7), (A 8), (A 9), (A 10), (A 11), (A 12), (A 13), (A 14), (A 15)] ∧ own_W Z h a0_ A (own_u I 7 ((I 7) + (1 : Int32))) (own_g (own_g G 14 (p1).toNatClampNeg (nar .boolean (1 : Int32))) 3 ((I 7)).toNatClampNeg p1)
set_option maxRecDepth 65536 in
set_option maxHeartbeats 40000000 in
theorem rmmm (l : Launch) (Z : State) (a0 : Array Value) (hw : ∀ d ∈ tables_1, d.before a0 Z = true) (ws : List Jvm.Cond) (a0_ : Addr) (p1 : Int32) (A : Nat → Addr) (I : Nat → Int32) (G : Nat → Nat → Int32) (h0 : Heap) (n0 : Nat) (Z0 : n0 ≤ h0.size) (HW : own_W Z h0 a0_ A I G) (HD : own_D n0 a0_ A) (hc : ¬ I 7 < 0 ∧ I 7 < (4 : Int32)) (hp : ¬ p1 < 0 ∧ p1 < (4 : Int32)) :
    MetFree l (⟨"com/example/hornloom/hornloom/engine/WaitList", "markMatched", "(I)V"⟩ : MethodName) (head1 (Jvm.Cond.code (⟨"com/example/hornloom/hornloom/engine/WaitList", "markMatched", "(I)V"⟩ : MethodName) prog_35_method_16_code 2 none :: ws) ({ frames := 0, cells := 0, slots := 0, locals := 0 } : Room)) (fun a U => a = #[(.ref a0_), (.int p1)] ∧ Z.Warmed39 U.vm ∧ U.heap = h0) (fun _ _ _ _ _ => True) (fun _ U o U' => ∃ v L, o = .returned v ∧ Qmm Z a0_ p1 A I G h0 n0 v U'.heap L ∧ FrameEnd U o U' L ({ frames := 0, cells := 0, slots := 0, locals := 0 } : Room).cells ({ frames := 0, cells := 0, slots := 0, locals := 0 } : Room).slots) := by
  refine MetFree.of_bodySF (plainFor_of_name own_pn14) hisR ?_
  intro p e s m args below meth c s₁ Bd hml0 hP hK
  obtain ⟨rfl, hZ, hh⟩ := hP
  have hx := Bd.exec
  have hby := Bd.bytes
  have hml : c.maxLocals = 2 := hml0
  have hown : s.vm.findClass "com/example/hornloom/hornloom/engine/WaitList" = some m.cls := findClass_of_methodNamed Bd.named
  have hnm := (name_of_methodNamed Bd.named Bd.method).1
  have X0 : Stand p l e ({ frames := 0, cells := 0, slots := 0, locals := 0 } : Room) s m #[(.ref a0_), (.int p1)] below meth c s₁ [] 0 0 := Stand.of_body Bd
  have e0 : s₁.heap = h0 := by rw [← hh, Bd.state]; rfl
  have N0 := Fr.nil n0
  have k0 : own_To p e below s₁ (mkF m 0 #[.val (.ref a0_), .val (.int p1)] []) s₁ (entryFrame m #[(.ref a0_), (.int p1)] 2) := fun t k => castTop (own_efmm m a0_ p1) k
  have ki : own_To p e below s₁ (mkF m 0 #[.val (.ref a0_), .val (.int p1)] []) s₁ (mkF m 0 #[.val (.ref a0_), .val (.int p1)] []) := fun t q => q
  have Lw := own_Lw Z a0 hw
  have Fg1 : Fld Z h0 a0_ "com/example/hornloom/hornloom/engine/WaitList" "matched" "[Z" (.ref (A 14)) := HW.2.2.1 14 (by decide)
  obtain ⟨T2, X2, e2, st2⟩ := getF X0 hx hZ hown (host := "") (Or.inl (hw _ (List.mem_of_getElem? (i := 27) rfl))) Via.refl e0 Fg1 (g := (mkF m 1 #[.val (.ref a0_), .val (.int p1)] [(.ref a0_)])) rfl rfl (hb hby own_d14_1)
  obtain ⟨clr3, Arr3, Sr3, Mr3, Hhr3⟩ : own_B Z h0 (A 14) .boolean (4 : Int32) (G 14) := HW.2.2.2.1 14 (by decide)
  have hinr3 : ¬ (p1 < 0 ∨ clr3.slots.size ≤ (p1).toNatClampNeg) := inb_of Sr3 hp
  obtain ⟨T4, h4, X4, e4, W4, st4⟩ := stZ X2 hx hZ e2 Arr3 (j := p1) hinr3 (g := (mkF m 6 #[.val (.ref a0_), .val (.int p1)] [(.int (1 : Int32)), (.int p1), (.ref (A 14))])) rfl rfl (hb hby own_d14_6)
  have N4 := Fr.snoc X4 N0 (HD.2.1 14 (by decide)).1
  obtain ⟨Lf4, Nf4, Xf4⟩ := own_fold X4 N4
  have HW4 : own_W Z h4 a0_ A I (own_g G 14 (p1).toNatClampNeg (nar .boolean (1 : Int32))) := HW.putA HD 14 (by decide) W4
  have Fg5 : Fld Z h4 a0_ "com/example/hornloom/hornloom/engine/WaitList" "matchedEntries" "[I" (.ref (A 3)) := HW4.2.2.1 3 (by decide)
  obtain ⟨T6, X6, e6, st6⟩ := getF Xf4 hx hZ hown (host := "") (Or.inl (hw _ (List.mem_of_getElem? (i := 29) rfl))) Via.refl e4 Fg5 (g := (mkF m 8 #[.val (.ref a0_), .val (.int p1)] [(.ref a0_)])) rfl rfl (hb hby own_d14_8)
  have Fg7 : Fld Z h4 a0_ "com/example/hornloom/hornloom/engine/WaitList" "matchedCount" "I" (.int (I 7)) := HW4.2.1 7 (by decide)
  obtain ⟨T8, X8, e8, st8⟩ := getF X6 hx hZ hown (host := "") (Or.inl (hw _ (List.mem_of_getElem? (i := 83) rfl))) Via.refl e6 Fg7 (g := (mkF m 13 #[.val (.ref a0_), .val (.int p1)] [(.ref a0_), (.ref a0_), (.ref (A 3))])) rfl rfl (hb hby own_d14_13)
  have k9 : own_To p e below T8 (mkF m 18 #[.val (.ref a0_), .val (.int p1)] [(.int (1 : Int32)), (.int (I 7)), (.ref a0_), (.int (I 7)), (.ref (A 3))]) s₁ (mkF m 0 #[.val (.ref a0_), .val (.int p1)] []) := fun t q => ki t (by
    refine XS.aloadN X0.here hx rfl (hb hby own_d14_0) rfl rfl ?_
    show Steps p.tables e below (s₁.setTop (mkF m 1 #[.val (.ref a0_), .val (.int p1)] [(.ref a0_)])) _
    refine st2 _ ?_
    show Steps p.tables e below (T2.setTop (mkF m 4 #[.val (.ref a0_), .val (.int p1)] [(.ref (A 14))])) _
    refine XS.iloadN X2.here hx rfl (hb hby own_d14_4) rfl ?_
    show Steps p.tables e below (T2.setTop (mkF m 5 #[.val (.ref a0_), .val (.int p1)] [(.int p1), (.ref (A 14))])) _
    refine XS.iconst X2.here hx rfl (hb hby own_d14_5) ?_
    show Steps p.tables e below (T2.setTop (mkF m 6 #[.val (.ref a0_), .val (.int p1)] [(.int (1 : Int32)), (.int p1), (.ref (A 14))])) _
    refine st4 _ ?_
    show Steps p.tables e below (T4.setTop (mkF m 7 #[.val (.ref a0_), .val (.int p1)] [])) _
    refine XS.aloadN Xf4.here hx rfl (hb hby own_d14_7) rfl rfl ?_
    show Steps p.tables e below (T4.setTop (mkF m 8 #[.val (.ref a0_), .val (.int p1)] [(.ref a0_)])) _
    refine st6 _ ?_
    show Steps p.tables e below (T6.setTop (mkF m 11 #[.val (.ref a0_), .val (.int p1)] [(.ref (A 3))])) _
    refine XS.aloadN X6.here hx rfl (hb hby own_d14_11) rfl rfl ?_
    show Steps p.tables e below (T6.setTop (mkF m 12 #[.val (.ref a0_), .val (.int p1)] [(.ref a0_), (.ref (A 3))])) _
    refine XS.dup X6.here hx rfl (hb hby own_d14_12) rfl rfl ?_
    show Steps p.tables e below (T6.setTop (mkF m 13 #[.val (.ref a0_), .val (.int p1)] [(.ref a0_), (.ref a0_), (.ref (A 3))])) _
    refine st8 _ ?_
    show Steps p.tables e below (T8.setTop (mkF m 16 #[.val (.ref a0_), .val (.int p1)] [(.int (I 7)), (.ref a0_), (.ref (A 3))])) _
    refine XS.dupX1 X8.here hx rfl (hb hby own_d14_16) rfl rfl rfl ?_
    show Steps p.tables e below (T8.setTop (mkF m 17 #[.val (.ref a0_), .val (.int p1)] [(.int (I 7)), (.ref a0_), (.int (I 7)), (.ref (A 3))])) _
    refine XS.iconst X8.here hx rfl (hb hby own_d14_17) ?_
    show Steps p.tables e below (T8.setTop (mkF m 18 #[.val (.ref a0_), .val (.int p1)] [(.int (1 : Int32)), (.int (I 7)), (.ref a0_), (.int (I 7)), (.ref (A 3))])) _
    exact q)
  have Fg10 : Fld Z h4 a0_ "com/example/hornloom/hornloom/engine/WaitList" "matchedCount" "I" (.int (I 7)) := HW4.2.1 7 (by decide)
  obtain ⟨T11, h11, X11, e11, W11, st11⟩ := putF X8 hx hZ hown (host := "") (Or.inl (hw _ (List.mem_of_getElem? (i := 83) rfl))) Via.refl e8 Fg10 HW4.1 (Or.inl (hw _ (List.mem_of_getElem? (i := 84) rfl))) (hw _ (List.mem_of_getElem? (i := 2) rfl)) (ty := .int) (by decide) rfl rfl (g := (mkF m 19 #[.val (.ref a0_), .val (.int p1)] [(.int ((I 7) + (1 : Int32))), (.ref a0_), (.int (I 7)), (.ref (A 3))])) rfl rfl (hb hby own_d14_19)
  have N11 := Fr.snoc X11 Nf4 HD.1
  obtain ⟨Lf11, Nf11, Xf11⟩ := own_fold X11 N11
  have HW11 : own_W Z h11 a0_ A (own_u I 7 ((I 7) + (1 : Int32))) (own_g G 14 (p1).toNatClampNeg (nar .boolean (1 : Int32))) := HW4.putI HD Lw 7 (by decide) W11
  obtain ⟨clr12, Arr12, Sr12, Mr12, Hhr12⟩ : own_B Z h11 (A 3) .int (4 : Int32) ((own_g G 14 (p1).toNatClampNeg (nar .boolean (1 : Int32))) 3) := HW11.2.2.2.1 3 (by decide)
  have hinr12 : ¬ ((I 7) < 0 ∨ clr12.slots.size ≤ ((I 7)).toNatClampNeg) := inb_of Sr12 hc
  obtain ⟨T13, h13, X13, e13, W13, st13⟩ := stI Xf11 hx hZ e11 Arr12 (j := (I 7)) hinr12 (g := (mkF m 23 #[.val (.ref a0_), .val (.int p1)] [(.int p1), (.int (I 7)), (.ref (A 3))])) rfl rfl (hb hby own_d14_23)
  have N13 := Fr.snoc X13 Nf11 (HD.2.1 3 (by decide)).1
  obtain ⟨Lf13, Nf13, Xf13⟩ := own_fold X13 N13
  have HW13 : own_W Z h13 a0_ A (own_u I 7 ((I 7) + (1 : Int32))) (own_g (own_g G 14 (p1).toNatClampNeg (nar .boolean (1 : Int32))) 3 ((I 7)).toNatClampNeg p1) := HW11.putA HD 3 (by decide) W13
  have K14 : Keep h0 h13 [a0_, (A 0), (A 1), (A 2), (A 3), (A 4), (A 5), (A 6), (A 7), (A 8), (A 9), (A 10), (A 11), (A 12), (A 13), (A 14), (A 15)] := ((((Keep.refl h0 [a0_, (A 0), (A 1), (A 2), (A 3), (A 4), (A 5), (A 6), (A 7), (A 8), (A 9), (A 10), (A 11), (A 12), (A 13), (A 14), (A 15)]).wr W4 (Or.inl (List.mem_of_getElem? (i := 15) rfl))).wr W11 (Or.inl (List.mem_of_getElem? (i := 0) rfl))).wr W13 (Or.inl (List.mem_of_getElem? (i := 4) rfl)))
  have k15 : own_To p e below T13 (mkF m 24 #[.val (.ref a0_), .val (.int p1)] []) s₁ (mkF m 0 #[.val (.ref a0_), .val (.int p1)] []) := fun t q => k9 t (by
    refine XS.iadd X8.here hx rfl (hb hby own_d14_18) rfl ?_
    show Steps p.tables e below (T8.setTop (mkF m 19 #[.val (.ref a0_), .val (.int p1)] [(.int ((I 7) + (1 : Int32))), (.ref a0_), (.int (I 7)), (.ref (A 3))])) _
    refine st11 _ ?_
    show Steps p.tables e below (T11.setTop (mkF m 22 #[.val (.ref a0_), .val (.int p1)] [(.int (I 7)), (.ref (A 3))])) _
    refine XS.iloadN Xf11.here hx rfl (hb hby own_d14_22) rfl ?_
    show Steps p.tables e below (T11.setTop (mkF m 23 #[.val (.ref a0_), .val (.int p1)] [(.int p1), (.int (I 7)), (.ref (A 3))])) _
    refine st13 _ ?_
    show Steps p.tables e below (T13.setTop (mkF m 24 #[.val (.ref a0_), .val (.int p1)] [])) _
    exact q)
  obtain ⟨fs, hr, hrun, hended, hW, hsame⟩ := Xf13.leave (v := none) (fun _ => rfl)
  refine ⟨_, _, k0 _ (k15 _ ?_), hrun, hended, _, _, rfl, ?_, ⟨_, rfl⟩, hW, hsame.mono (by decide) (by decide)⟩
  · show Steps p.tables e below (T13.setTop (mkF m 24 #[.val (.ref a0_), .val (.int p1)] [])) _
    exact Xf13.returnOut hx Bd.returns (hb hby own_d14_24) hr
  · show Qmm Z a0_ p1 A I G h0 n0 _ T13.heap _
    rw [e13]
    exact ⟨rfl, Nf13, K14, HW13⟩
theorem own_d15_0 : decode prog_35_method_15_code 0 = .ok (.aload_n 0, 1) := by decide +kernel
theorem own_d15_1 : decode prog_35_method_15_code 1 = .ok (.getfield 106, 3) := by decide +kernel
theorem own_d15_4 : decode prog_35_method_15_code 4 = .ok (.aload_n 0, 1) := by decide +kernel
theorem own_d15_5 : decode prog_35_method_15_code 5 = .ok (.getfield 7, 3) := by decide +kernel
theorem own_d15_8 : decode prog_35_method_15_code 8 = .ok (.arraylength, 1) := by decide +kernel
theorem own_d15_9 : decode prog_35_method_15_code 9 = .ok (.if_icmp .ne 20, 3) := by decide +kernel
theorem own_d15_29 : decode prog_35_method_15_code 29 = .ok (.aload_n 0, 1) := by decide +kernel
theorem own_d15_30 : decode prog_35_method_15_code 30 = .ok (.getfield 7, 3) := by decide +kernel
theorem own_d15_33 : decode prog_35_method_15_code 33 = .ok (.aload_n 0, 1) := by decide +kernel
theorem own_d15_34 : decode prog_35_method_15_code 34 = .ok (.dup, 1) := by decide +kernel
theorem own_d15_35 : decode prog_35_method_15_code 35 = .ok (.getfield 106, 3) := by decide +kernel
theorem own_d15_38 : decode prog_35_method_15_code 38 = .ok (.dup_x1, 1) := by decide +kernel
theorem own_d15_39 : decode prog_35_method_15_code 39 = .ok (.iconst 1, 1) := by decide +kernel
theorem own_d15_40 : decode prog_35_method_15_code 40 = .ok (.iadd, 1) := by decide +kernel
theorem own_d15_41 : decode prog_35_method_15_code 41 = .ok (.putfield 106, 3) := by decide +kernel
theorem own_d15_44 : decode prog_35_method_15_code 44 = .ok (.iload_n 1, 1) := by decide +kernel
theorem own_d15_45 : decode prog_35_method_15_code 45 = .ok (.iastore, 1) := by decide +kernel
theorem own_d15_46 : decode prog_35_method_15_code 46 = .ok (.return_, 1) := by decide +kernel
theorem own_pn15 : plainName "com/example/hornloom/hornloom/engine/WaitList" = true := by first | (simp [plainName, overriddenIn]; done) | decide +kernel
theorem own_efrd (m : MethodId) (x0 : Addr) (x1 : Int32) : entryFrame m #[(.ref x0), (.int x1)] 2 = mkF m 0 #[.val (.ref x0), .val (.int x1)] [] := by first | (simp [entryFrame, mkF, argsToLocals, Value.category]; done) | rfl
def Qrd (Z : State) (a0_ : Addr) (p1 : Int32) (A : Nat → Addr) (I : Nat → Int32) (G : Nat → Nat → Int32) (h0 : Heap) (n0 : Nat) (v : Option Value) (h : Heap) (L : List Loc) : Prop := v = none ∧ Fr n0 L ∧ Keep h0 h [a0_, (A 0), (A 1), (A 2), (A 3), (A 4), (A 5), (A 6), (A 7), (A 8), (A 9), (A 10), (A 11), (A 12), (A 13), (A 14), (A 15)] ∧ own_W Z h a0_ A (own_u I 5 ((I 5) + (1 : Int32))) (own_g G 0 ((I 5)).toNatClampNeg p1)
set_option maxRecDepth 65536 in
set_option maxHeartbeats 40000000 in
theorem rmrd (l : Launch) (Z : State) (a0 : Array Value) (hw : ∀ d ∈ tables_1, d.before a0 Z = true) (ws : List Jvm.Cond) (a0_ : Addr) (p1 : Int32) (A : Nat → Addr) (I : Nat → Int32) (G : Nat → Nat → Int32) (h0 : Heap) (n0 : Nat) (Z0 : n0 ≤ h0.size) (HW : own_W Z h0 a0_ A I G) (HD : own_D n0 a0_ A) (hc : ¬ I 5 < 0 ∧ I 5 < (16 : Int32)) (hq : ¬ I 5 = (16 : Int32)) :
    MetFree l (⟨"com/example/hornloom/hornloom/engine/WaitList", "ready", "(I)V"⟩ : MethodName) (head1 (Jvm.Cond.code (⟨"com/example/hornloom/hornloom/engine/WaitList", "ready", "(I)V"⟩ : MethodName) prog_35_method_15_code 2 none :: ws) ({ frames := 0, cells := 0, slots := 0, locals := 0 } : Room)) (fun a U => a = #[(.ref a0_), (.int p1)] ∧ Z.Warmed39 U.vm ∧ U.heap = h0) (fun _ _ _ _ _ => True) (fun _ U o U' => ∃ v L, o = .returned v ∧ Qrd Z a0_ p1 A I G h0 n0 v U'.heap L ∧ FrameEnd U o U' L ({ frames := 0, cells := 0, slots := 0, locals := 0 } : Room).cells ({ frames := 0, cells := 0, slots := 0, locals := 0 } : Room).slots) := by
  refine MetFree.of_bodySF (plainFor_of_name own_pn15) hisR ?_
  intro p e s m args below meth c s₁ Bd hml0 hP hK
  obtain ⟨rfl, hZ, hh⟩ := hP
  have hx := Bd.exec
  have hby := Bd.bytes
  have hml : c.maxLocals = 2 := hml0
  have hown : s.vm.findClass "com/example/hornloom/hornloom/engine/WaitList" = some m.cls := findClass_of_methodNamed Bd.named
  have hnm := (name_of_methodNamed Bd.named Bd.method).1
  have X0 : Stand p l e ({ frames := 0, cells := 0, slots := 0, locals := 0 } : Room) s m #[(.ref a0_), (.int p1)] below meth c s₁ [] 0 0 := Stand.of_body Bd
  have e0 : s₁.heap = h0 := by rw [← hh, Bd.state]; rfl
  have N0 := Fr.nil n0
  have k0 : own_To p e below s₁ (mkF m 0 #[.val (.ref a0_), .val (.int p1)] []) s₁ (entryFrame m #[(.ref a0_), (.int p1)] 2) := fun t k => castTop (own_efrd m a0_ p1) k
  have ki : own_To p e below s₁ (mkF m 0 #[.val (.ref a0_), .val (.int p1)] []) s₁ (mkF m 0 #[.val (.ref a0_), .val (.int p1)] []) := fun t q => q
  have Lw := own_Lw Z a0 hw
  have Fg1 : Fld Z h0 a0_ "com/example/hornloom/hornloom/engine/WaitList" "readyCount" "I" (.int (I 5)) := HW.2.1 5 (by decide)
  obtain ⟨T2, X2, e2, st2⟩ := getF X0 hx hZ hown (host := "") (Or.inl (hw _ (List.mem_of_getElem? (i := 79) rfl))) Via.refl e0 Fg1 (g := (mkF m 1 #[.val (.ref a0_), .val (.int p1)] [(.ref a0_)])) rfl rfl (hb hby own_d15_1)
  have Fg3 : Fld Z h0 a0_ "com/example/hornloom/hornloom/engine/WaitList" "readyDisjunctions" "[I" (.ref (A 0)) := HW.2.2.1 0 (by decide)
  obtain ⟨T4, X4, e4, st4⟩ := getF X2 hx hZ hown (host := "") (Or.inl (hw _ (List.mem_of_getElem? (i := 10) rfl))) Via.refl e2 Fg3 (g := (mkF m 5 #[.val (.ref a0_), .val (.int p1)] [(.ref a0_), (.int (I 5))])) rfl rfl (hb hby own_d15_5)
  obtain ⟨clr5, Arr5, Sr5, Mr5, Hhr5⟩ : own_B Z h0 (A 0) .int (16 : Int32) (G 0) := HW.2.2.2.1 0 (by decide)
  have Fg6 : Fld Z h0 a0_ "com/example/hornloom/hornloom/engine/WaitList" "readyDisjunctions" "[I" (.ref (A 0)) := HW.2.2.1 0 (by decide)
  obtain ⟨T7, X7, e7, st7⟩ := getF X4 hx hZ hown (host := "") (Or.inl (hw _ (List.mem_of_getElem? (i := 10) rfl))) Via.refl e4 Fg6 (g := (mkF m 30 #[.val (.ref a0_), .val (.int p1)] [(.ref a0_)])) rfl rfl (hb hby own_d15_30)
  have Fg8 : Fld Z h0 a0_ "com/example/hornloom/hornloom/engine/WaitList" "readyCount" "I" (.int (I 5)) := HW.2.1 5 (by decide)
  obtain ⟨T9, X9, e9, st9⟩ := getF X7 hx hZ hown (host := "") (Or.inl (hw _ (List.mem_of_getElem? (i := 79) rfl))) Via.refl e7 Fg8 (g := (mkF m 35 #[.val (.ref a0_), .val (.int p1)] [(.ref a0_), (.ref a0_), (.ref (A 0))])) rfl rfl (hb hby own_d15_35)
  have k10 : own_To p e below T9 (mkF m 39 #[.val (.ref a0_), .val (.int p1)] [(.int (I 5)), (.ref a0_), (.int (I 5)), (.ref (A 0))]) s₁ (mkF m 0 #[.val (.ref a0_), .val (.int p1)] []) := fun t q => ki t (by
    refine XS.aloadN X0.here hx rfl (hb hby own_d15_0) rfl rfl ?_
    show Steps p.tables e below (s₁.setTop (mkF m 1 #[.val (.ref a0_), .val (.int p1)] [(.ref a0_)])) _
    refine st2 _ ?_
    show Steps p.tables e below (T2.setTop (mkF m 4 #[.val (.ref a0_), .val (.int p1)] [(.int (I 5))])) _
    refine XS.aloadN X2.here hx rfl (hb hby own_d15_4) rfl rfl ?_
    show Steps p.tables e below (T2.setTop (mkF m 5 #[.val (.ref a0_), .val (.int p1)] [(.ref a0_), (.int (I 5))])) _
    refine st4 _ ?_
    show Steps p.tables e below (T4.setTop (mkF m 8 #[.val (.ref a0_), .val (.int p1)] [(.ref (A 0)), (.int (I 5))])) _
    refine X4.arraylength hx (by rw [e4]; exact Arr5.1) (State.isArrayOf_alike hZ.alike Arr5.2.1) (g := (mkF m 8 #[.val (.ref a0_), .val (.int p1)] [(.ref (A 0)), (.int (I 5))])) rfl rfl (hb hby own_d15_8) _ ?_
    rw [len_of Sr5 Mr5]
    show Steps p.tables e below (T4.setTop (mkF m 9 #[.val (.ref a0_), .val (.int p1)] [(.int (16 : Int32)), (.int (I 5))])) _
    refine XS.icmpYes X4.here hx rfl (pc0 := 9) (pc' := 29) rfl (hb hby own_d15_9) rfl (feq hq).2 (by decide) (by decide) ?_
    show Steps p.tables e below (T4.setTop (mkF m 29 #[.val (.ref a0_), .val (.int p1)] [])) _
    refine XS.aloadN X4.here hx rfl (hb hby own_d15_29) rfl rfl ?_
    show Steps p.tables e below (T4.setTop (mkF m 30 #[.val (.ref a0_), .val (.int p1)] [(.ref a0_)])) _
    refine st7 _ ?_
    show Steps p.tables e below (T7.setTop (mkF m 33 #[.val (.ref a0_), .val (.int p1)] [(.ref (A 0))])) _
    refine XS.aloadN X7.here hx rfl (hb hby own_d15_33) rfl rfl ?_
    show Steps p.tables e below (T7.setTop (mkF m 34 #[.val (.ref a0_), .val (.int p1)] [(.ref a0_), (.ref (A 0))])) _
    refine XS.dup X7.here hx rfl (hb hby own_d15_34) rfl rfl ?_
    show Steps p.tables e below (T7.setTop (mkF m 35 #[.val (.ref a0_), .val (.int p1)] [(.ref a0_), (.ref a0_), (.ref (A 0))])) _
    refine st9 _ ?_
    show Steps p.tables e below (T9.setTop (mkF m 38 #[.val (.ref a0_), .val (.int p1)] [(.int (I 5)), (.ref a0_), (.ref (A 0))])) _
    refine XS.dupX1 X9.here hx rfl (hb hby own_d15_38) rfl rfl rfl ?_
    show Steps p.tables e below (T9.setTop (mkF m 39 #[.val (.ref a0_), .val (.int p1)] [(.int (I 5)), (.ref a0_), (.int (I 5)), (.ref (A 0))])) _
    exact q)
  have Fg11 : Fld Z h0 a0_ "com/example/hornloom/hornloom/engine/WaitList" "readyCount" "I" (.int (I 5)) := HW.2.1 5 (by decide)
  obtain ⟨T12, h12, X12, e12, W12, st12⟩ := putF X9 hx hZ hown (host := "") (Or.inl (hw _ (List.mem_of_getElem? (i := 79) rfl))) Via.refl e9 Fg11 HW.1 (Or.inl (hw _ (List.mem_of_getElem? (i := 80) rfl))) (hw _ (List.mem_of_getElem? (i := 2) rfl)) (ty := .int) (by decide) rfl rfl (g := (mkF m 41 #[.val (.ref a0_), .val (.int p1)] [(.int ((I 5) + (1 : Int32))), (.ref a0_), (.int (I 5)), (.ref (A 0))])) rfl rfl (hb hby own_d15_41)
  have N12 := Fr.snoc X12 N0 HD.1
  obtain ⟨Lf12, Nf12, Xf12⟩ := own_fold X12 N12
  have HW12 : own_W Z h12 a0_ A (own_u I 5 ((I 5) + (1 : Int32))) G := HW.putI HD Lw 5 (by decide) W12
  obtain ⟨clr13, Arr13, Sr13, Mr13, Hhr13⟩ : own_B Z h12 (A 0) .int (16 : Int32) (G 0) := HW12.2.2.2.1 0 (by decide)
  have hinr13 : ¬ ((I 5) < 0 ∨ clr13.slots.size ≤ ((I 5)).toNatClampNeg) := inb_of Sr13 hc
  obtain ⟨T14, h14, X14, e14, W14, st14⟩ := stI Xf12 hx hZ e12 Arr13 (j := (I 5)) hinr13 (g := (mkF m 45 #[.val (.ref a0_), .val (.int p1)] [(.int p1), (.int (I 5)), (.ref (A 0))])) rfl rfl (hb hby own_d15_45)
  have N14 := Fr.snoc X14 Nf12 (HD.2.1 0 (by decide)).1
  obtain ⟨Lf14, Nf14, Xf14⟩ := own_fold X14 N14
  have HW14 : own_W Z h14 a0_ A (own_u I 5 ((I 5) + (1 : Int32))) (own_g G 0 ((I 5)).toNatClampNeg p1) := HW12.putA HD 0 (by decide) W14
  have K15 : Keep h0 h14 [a0_, (A 0), (A 1), (A 2), (A 3), (A 4), (A 5), (A 6), (A 7), (A 8), (A 9), (A 10), (A 11), (A 12), (A 13), (A 14), (A 15)] := (((Keep.refl h0 [a0_, (A 0), (A 1), (A 2), (A 3), (A 4), (A 5), (A 6), (A 7), (A 8), (A 9), (A 10), (A 11), (A 12), (A 13), (A 14), (A 15)]).wr W12 (Or.inl (List.mem_of_getElem? (i := 0) rfl))).wr W14 (Or.inl (List.mem_of_getElem? (i := 1) rfl)))
  have k16 : own_To p e below T14 (mkF m 46 #[.val (.ref a0_), .val (.int p1)] []) s₁ (mkF m 0 #[.val (.ref a0_), .val (.int p1)] []) := fun t q => k10 t (by
    refine XS.iconst X9.here hx rfl (hb hby own_d15_39) ?_
    show Steps p.tables e below (T9.setTop (mkF m 40 #[.val (.ref a0_), .val (.int p1)] [(.int (1 : Int32)), (.int (I 5)), (.ref a0_), (.int (I 5)), (.ref (A 0))])) _
    refine XS.iadd X9.here hx rfl (hb hby own_d15_40) rfl ?_
    show Steps p.tables e below (T9.setTop (mkF m 41 #[.val (.ref a0_), .val (.int p1)] [(.int ((I 5) + (1 : Int32))), (.ref a0_), (.int (I 5)), (.ref (A 0))])) _
    refine st12 _ ?_
    show Steps p.tables e below (T12.setTop (mkF m 44 #[.val (.ref a0_), .val (.int p1)] [(.int (I 5)), (.ref (A 0))])) _
    refine XS.iloadN Xf12.here hx rfl (hb hby own_d15_44) rfl ?_
    show Steps p.tables e below (T12.setTop (mkF m 45 #[.val (.ref a0_), .val (.int p1)] [(.int p1), (.int (I 5)), (.ref (A 0))])) _
    refine st14 _ ?_
    show Steps p.tables e below (T14.setTop (mkF m 46 #[.val (.ref a0_), .val (.int p1)] [])) _
    exact q)
  obtain ⟨fs, hr, hrun, hended, hW, hsame⟩ := Xf14.leave (v := none) (fun _ => rfl)
  refine ⟨_, _, k0 _ (k16 _ ?_), hrun, hended, _, _, rfl, ?_, ⟨_, rfl⟩, hW, hsame.mono (by decide) (by decide)⟩
  · show Steps p.tables e below (T14.setTop (mkF m 46 #[.val (.ref a0_), .val (.int p1)] [])) _
    exact Xf14.returnOut hx Bd.returns (hb hby own_d15_46) hr
  · show Qrd Z a0_ p1 A I G h0 n0 _ T14.heap _
    rw [e14]
    exact ⟨rfl, Nf14, K15, HW14⟩
theorem own_d11_0 : decode prog_35_method_5_code 0 = .ok (.aload_n 0, 1) := by decide +kernel
theorem own_d11_1 : decode prog_35_method_5_code 1 = .ok (.getfield 90, 3) := by decide +kernel
theorem own_d11_4 : decode prog_35_method_5_code 4 = .ok (.ifCond .ne 14, 3) := by decide +kernel
theorem own_d11_7 : decode prog_35_method_5_code 7 = .ok (.aload_n 0, 1) := by decide +kernel
theorem own_d11_8 : decode prog_35_method_5_code 8 = .ok (.getfield 94, 3) := by decide +kernel
theorem own_d11_11 : decode prog_35_method_5_code 11 = .ok (.ifCond .ne 7, 3) := by decide +kernel
theorem own_d11_14 : decode prog_35_method_5_code 14 = .ok (.iconst 1, 1) := by decide +kernel
theorem own_d11_15 : decode prog_35_method_5_code 15 = .ok (.goto 4, 3) := by decide +kernel
theorem own_d11_18 : decode prog_35_method_5_code 18 = .ok (.iconst 0, 1) := by decide +kernel
theorem own_d11_19 : decode prog_35_method_5_code 19 = .ok (.ireturn, 1) := by decide +kernel
theorem own_pn11 : plainName "com/example/hornloom/hornloom/engine/WaitList" = true := by first | (simp [plainName, overriddenIn]; done) | decide +kernel
theorem own_efem (m : MethodId) (x0 : Addr) : entryFrame m #[(.ref x0)] 1 = mkF m 0 #[.val (.ref x0)] [] := by first | (simp [entryFrame, mkF, argsToLocals, Value.category]; done) | rfl
def own_em (I : Nat → Int32) : Int32 := (if (I 0) = (0 : Int32) then (if (I 1) = (0 : Int32) then (1 : Int32) else (0 : Int32)) else (0 : Int32))
def Qem (Z : State) (a0_ : Addr) (A : Nat → Addr) (I : Nat → Int32) (G : Nat → Nat → Int32) (h0 : Heap) (n0 : Nat) (v : Option Value) (h : Heap) (L : List Loc) : Prop := v = some (.int (own_em I)) ∧ Fr n0 L ∧ h = h0
set_option maxRecDepth 65536 in
set_option maxHeartbeats 40000000 in
theorem rmem (l : Launch) (Z : State) (a0 : Array Value) (hw : ∀ d ∈ tables_1, d.before a0 Z = true) (ws : List Jvm.Cond) (a0_ : Addr) (A : Nat → Addr) (I : Nat → Int32) (G : Nat → Nat → Int32) (h0 : Heap) (n0 : Nat) (Z0 : n0 ≤ h0.size) (HW : own_W Z h0 a0_ A I G) (HD : own_D n0 a0_ A) :
    MetFree l (⟨"com/example/hornloom/hornloom/engine/WaitList", "isEmpty", "()Z"⟩ : MethodName) (head1 (Jvm.Cond.code (⟨"com/example/hornloom/hornloom/engine/WaitList", "isEmpty", "()Z"⟩ : MethodName) prog_35_method_5_code 1 (some .boolean) :: ws) ({ frames := 0, cells := 0, slots := 0, locals := 0 } : Room)) (fun a U => a = #[(.ref a0_)] ∧ Z.Warmed39 U.vm ∧ U.heap = h0) (fun _ _ _ _ _ => True) (fun _ U o U' => ∃ v L, o = .returned v ∧ Qem Z a0_ A I G h0 n0 v U'.heap L ∧ FrameEnd U o U' L ({ frames := 0, cells := 0, slots := 0, locals := 0 } : Room).cells ({ frames := 0, cells := 0, slots := 0, locals := 0 } : Room).slots) := by
  refine MetFree.of_bodySF (plainFor_of_name own_pn11) hisR ?_
  intro p e s m args below meth c s₁ Bd hml0 hP hK
  obtain ⟨rfl, hZ, hh⟩ := hP
  have hx := Bd.exec
  have hby := Bd.bytes
  have hml : c.maxLocals = 1 := hml0
  have hown : s.vm.findClass "com/example/hornloom/hornloom/engine/WaitList" = some m.cls := findClass_of_methodNamed Bd.named
  have hnm := (name_of_methodNamed Bd.named Bd.method).1
  have X0 : Stand p l e ({ frames := 0, cells := 0, slots := 0, locals := 0 } : Room) s m #[(.ref a0_)] below meth c s₁ [] 0 0 := Stand.of_body Bd
  have e0 : s₁.heap = h0 := by rw [← hh, Bd.state]; rfl
  have N0 := Fr.nil n0
  have k0 : own_To p e below s₁ (mkF m 0 #[.val (.ref a0_)] []) s₁ (entryFrame m #[(.ref a0_)] 1) := fun t k => castTop (own_efem m a0_) k
  have ki : own_To p e below s₁ (mkF m 0 #[.val (.ref a0_)] []) s₁ (mkF m 0 #[.val (.ref a0_)] []) := fun t q => q
  have Lw := own_Lw Z a0 hw
  have Fg1 : Fld Z h0 a0_ "com/example/hornloom/hornloom/engine/WaitList" "builtinCount" "I" (.int (I 0)) := HW.2.1 0 (by decide)
  obtain ⟨T2, X2, e2, st2⟩ := getF X0 hx hZ hown (host := "") (Or.inl (hw _ (List.mem_of_getElem? (i := 69) rfl))) Via.refl e0 Fg1 (g := (mkF m 1 #[.val (.ref a0_)] [(.ref a0_)])) rfl rfl (hb hby own_d11_1)
  have k3 : own_To p e below T2 (mkF m 4 #[.val (.ref a0_)] [(.int (I 0))]) s₁ (mkF m 0 #[.val (.ref a0_)] []) := fun t q => ki t (by
    refine XS.aloadN X0.here hx rfl (hb hby own_d11_0) rfl rfl ?_
    show Steps p.tables e below (s₁.setTop (mkF m 1 #[.val (.ref a0_)] [(.ref a0_)])) _
    refine st2 _ ?_
    show Steps p.tables e below (T2.setTop (mkF m 4 #[.val (.ref a0_)] [(.int (I 0))])) _
    exact q)
  by_cases hc4 : (I 0) = (0 : Int32)
  ·
    have Fg5 : Fld Z h0 a0_ "com/example/hornloom/hornloom/engine/WaitList" "disjunctionCount" "I" (.int (I 1)) := HW.2.1 1 (by decide)
    obtain ⟨T6, X6, e6, st6⟩ := getF X2 hx hZ hown (host := "") (Or.inl (hw _ (List.mem_of_getElem? (i := 71) rfl))) Via.refl e2 Fg5 (g := (mkF m 8 #[.val (.ref a0_)] [(.ref a0_)])) rfl rfl (hb hby own_d11_8)
    have k7 : own_To p e below T6 (mkF m 11 #[.val (.ref a0_)] [(.int (I 1))]) s₁ (mkF m 0 #[.val (.ref a0_)] []) := fun t q => k3 t (by
      refine XS.ifNo X2.here hx rfl (hb hby own_d11_4) rfl ((if0 _ _).trans (teq hc4).2) ?_
      show Steps p.tables e below (T2.setTop (mkF m 7 #[.val (.ref a0_)] [])) _
      refine XS.aloadN X2.here hx rfl (hb hby own_d11_7) rfl rfl ?_
      show Steps p.tables e below (T2.setTop (mkF m 8 #[.val (.ref a0_)] [(.ref a0_)])) _
      refine st6 _ ?_
      show Steps p.tables e below (T6.setTop (mkF m 11 #[.val (.ref a0_)] [(.int (I 1))])) _
      exact q)
    by_cases hc8 : (I 1) = (0 : Int32)
    ·
      have k9 : own_To p e below T6 (mkF m 19 #[.val (.ref a0_)] [(.int (1 : Int32))]) s₁ (mkF m 0 #[.val (.ref a0_)] []) := fun t q => k7 t (by
        refine XS.ifNo X6.here hx rfl (hb hby own_d11_11) rfl ((if0 _ _).trans (teq hc8).2) ?_
        show Steps p.tables e below (T6.setTop (mkF m 14 #[.val (.ref a0_)] [])) _
        refine XS.iconst X6.here hx rfl (hb hby own_d11_14) ?_
        show Steps p.tables e below (T6.setTop (mkF m 15 #[.val (.ref a0_)] [(.int (1 : Int32))])) _
        refine XS.goto X6.here hx rfl (pc0 := 15) (pc' := 19) rfl (hb hby own_d11_15) (by decide) (by decide) ?_
        show Steps p.tables e below (T6.setTop (mkF m 19 #[.val (.ref a0_)] [(.int (1 : Int32))])) _
        exact q)
      obtain ⟨fs, hr, hrun, hended, hW, hsame⟩ := X6.leave (v := some (.int (1 : Int32))) (fun h => by rw [Bd.returns] at h; cases h)
      refine ⟨_, _, k0 _ (k9 _ ?_), hrun, hended, _, _, rfl, ?_, ⟨_, rfl⟩, hW, hsame.mono (by decide) (by decide)⟩
      · show Steps p.tables e below (T6.setTop (mkF m 19 #[.val (.ref a0_)] [(.int (1 : Int32))])) _
        exact retN X6 hx (t := .boolean) Bd.returns (by simp) (hb hby own_d11_19) hr
      · show Qem Z a0_ A I G h0 n0 _ T6.heap _
        rw [e6]
        exact ⟨by rw [own_em, if_pos hc4, if_pos hc8], N0, rfl⟩
    ·
      have k10 : own_To p e below T6 (mkF m 19 #[.val (.ref a0_)] [(.int (0 : Int32))]) s₁ (mkF m 0 #[.val (.ref a0_)] []) := fun t q => k7 t (by
        refine XS.ifYes X6.here hx rfl (pc0 := 11) (pc' := 18) rfl (hb hby own_d11_11) rfl ((if0 _ _).trans (feq hc8).2) (by decide) (by decide) ?_
        show Steps p.tables e below (T6.setTop (mkF m 18 #[.val (.ref a0_)] [])) _
        refine XS.iconst X6.here hx rfl (hb hby own_d11_18) ?_
        show Steps p.tables e below (T6.setTop (mkF m 19 #[.val (.ref a0_)] [(.int (0 : Int32))])) _
        exact q)
      obtain ⟨fs, hr, hrun, hended, hW, hsame⟩ := X6.leave (v := some (.int (0 : Int32))) (fun h => by rw [Bd.returns] at h; cases h)
      refine ⟨_, _, k0 _ (k10 _ ?_), hrun, hended, _, _, rfl, ?_, ⟨_, rfl⟩, hW, hsame.mono (by decide) (by decide)⟩
      · show Steps p.tables e below (T6.setTop (mkF m 19 #[.val (.ref a0_)] [(.int (0 : Int32))])) _
        exact retN X6 hx (t := .boolean) Bd.returns (by simp) (hb hby own_d11_19) hr
      · show Qem Z a0_ A I G h0 n0 _ T6.heap _
        rw [e6]
        exact ⟨by rw [own_em, if_pos hc4, if_neg hc8], N0, rfl⟩
  ·
    have k11 : own_To p e below T2 (mkF m 19 #[.val (.ref a0_)] [(.int (0 : Int32))]) s₁ (mkF m 0 #[.val (.ref a0_)] []) := fun t q => k3 t (by
      refine XS.ifYes X2.here hx rfl (pc0 := 4) (pc' := 18) rfl (hb hby own_d11_4) rfl ((if0 _ _).trans (feq hc4).2) (by decide) (by decide) ?_
      show Steps p.tables e below (T2.setTop (mkF m 18 #[.val (.ref a0_)] [])) _
      refine XS.iconst X2.here hx rfl (hb hby own_d11_18) ?_
      show Steps p.tables e below (T2.setTop (mkF m 19 #[.val (.ref a0_)] [(.int (0 : Int32))])) _
      exact q)
    obtain ⟨fs, hr, hrun, hended, hW, hsame⟩ := X2.leave (v := some (.int (0 : Int32))) (fun h => by rw [Bd.returns] at h; cases h)
    refine ⟨_, _, k0 _ (k11 _ ?_), hrun, hended, _, _, rfl, ?_, ⟨_, rfl⟩, hW, hsame.mono (by decide) (by decide)⟩
    · show Steps p.tables e below (T2.setTop (mkF m 19 #[.val (.ref a0_)] [(.int (0 : Int32))])) _
      exact retN X2 hx (t := .boolean) Bd.returns (by simp) (hb hby own_d11_19) hr
    · show Qem Z a0_ A I G h0 n0 _ T2.heap _
      rw [e2]
      exact ⟨by rw [own_em, if_neg hc4], N0, rfl⟩
theorem own_d12_0 : decode prog_35_method_18_code 0 = .ok (.aload_n 0, 1) := by decide +kernel
theorem own_d12_1 : decode prog_35_method_18_code 1 = .ok (.getfield 112, 3) := by decide +kernel
theorem own_d12_4 : decode prog_35_method_18_code 4 = .ok (.aload_n 0, 1) := by decide +kernel
theorem own_d12_5 : decode prog_35_method_18_code 5 = .ok (.getfield 90, 3) := by decide +kernel
theorem own_d12_8 : decode prog_35_method_18_code 8 = .ok (.aload_n 0, 1) := by decide +kernel
theorem own_d12_9 : decode prog_35_method_18_code 9 = .ok (.getfield 94, 3) := by decide +kernel
theorem own_d12_12 : decode prog_35_method_18_code 12 = .ok (.iadd, 1) := by decide +kernel
theorem own_d12_13 : decode prog_35_method_18_code 13 = .ok (.if_icmp .ne 7, 3) := by decide +kernel
theorem own_d12_16 : decode prog_35_method_18_code 16 = .ok (.iconst 1, 1) := by decide +kernel
theorem own_d12_17 : decode prog_35_method_18_code 17 = .ok (.goto 4, 3) := by decide +kernel
theorem own_d12_20 : decode prog_35_method_18_code 20 = .ok (.iconst 0, 1) := by decide +kernel
theorem own_d12_21 : decode prog_35_method_18_code 21 = .ok (.ireturn, 1) := by decide +kernel
theorem own_pn12 : plainName "com/example/hornloom/hornloom/engine/WaitList" = true := by first | (simp [plainName, overriddenIn]; done) | decide +kernel
theorem own_efam (m : MethodId) (x0 : Addr) : entryFrame m #[(.ref x0)] 1 = mkF m 0 #[.val (.ref x0)] [] := by first | (simp [entryFrame, mkF, argsToLocals, Value.category]; done) | rfl
def own_am (I : Nat → Int32) : Int32 := (if (I 7) = ((I 0) + (I 1)) then (1 : Int32) else (0 : Int32))
def Qam (Z : State) (a0_ : Addr) (A : Nat → Addr) (I : Nat → Int32) (G : Nat → Nat → Int32) (h0 : Heap) (n0 : Nat) (v : Option Value) (h : Heap) (L : List Loc) : Prop := v = some (.int (own_am I)) ∧ Fr n0 L ∧ h = h0
set_option maxRecDepth 65536 in
set_option maxHeartbeats 40000000 in
theorem rmam (l : Launch) (Z : State) (a0 : Array Value) (hw : ∀ d ∈ tables_1, d.before a0 Z = true) (ws : List Jvm.Cond) (a0_ : Addr) (A : Nat → Addr) (I : Nat → Int32) (G : Nat → Nat → Int32) (h0 : Heap) (n0 : Nat) (Z0 : n0 ≤ h0.size) (HW : own_W Z h0 a0_ A I G) (HD : own_D n0 a0_ A) :
    MetFree l (⟨"com/example/hornloom/hornloom/engine/WaitList", "allMatched", "()Z"⟩ : MethodName) (head1 (Jvm.Cond.code (⟨"com/example/hornloom/hornloom/engine/WaitList", "allMatched", "()Z"⟩ : MethodName) prog_35_method_18_code 1 (some .boolean) :: ws) ({ frames := 0, cells := 0, slots := 0, locals := 0 } : Room)) (fun a U => a = #[(.ref a0_)] ∧ Z.Warmed39 U.vm ∧ U.heap = h0) (fun _ _ _ _ _ => True) (fun _ U o U' => ∃ v L, o = .returned v ∧ Qam Z a0_ A I G h0 n0 v U'.heap L ∧ FrameEnd U o U' L ({ frames := 0, cells := 0, slots := 0, locals := 0 } : Room).cells ({ frames := 0, cells := 0, slots := 0, locals := 0 } : Room).slots) := by
  refine MetFree.of_bodySF (plainFor_of_name own_pn12) hisR ?_
  intro p e s m args below meth c s₁ Bd hml0 hP hK
  obtain ⟨rfl, hZ, hh⟩ := hP
  have hx := Bd.exec
  have hby := Bd.bytes
  have hml : c.maxLocals = 1 := hml0
  have hown : s.vm.findClass "com/example/hornloom/hornloom/engine/WaitList" = some m.cls := findClass_of_methodNamed Bd.named
  have hnm := (name_of_methodNamed Bd.named Bd.method).1
  have X0 : Stand p l e ({ frames := 0, cells := 0, slots := 0, locals := 0 } : Room) s m #[(.ref a0_)] below meth c s₁ [] 0 0 := Stand.of_body Bd
  have e0 : s₁.heap = h0 := by rw [← hh, Bd.state]; rfl
  have N0 := Fr.nil n0
  have k0 : own_To p e below s₁ (mkF m 0 #[.val (.ref a0_)] []) s₁ (entryFrame m #[(.ref a0_)] 1) := fun t k => castTop (own_efam m a0_) k
  have ki : own_To p e below s₁ (mkF m 0 #[.val (.ref a0_)] []) s₁ (mkF m 0 #[.val (.ref a0_)] []) := fun t q => q
  have Lw := own_Lw Z a0 hw
  have Fg1 : Fld Z h0 a0_ "com/example/hornloom/hornloom/engine/WaitList" "matchedCount" "I" (.int (I 7)) := HW.2.1 7 (by decide)
  obtain ⟨T2, X2, e2, st2⟩ := getF X0 hx hZ hown (host := "") (Or.inl (hw _ (List.mem_of_getElem? (i := 83) rfl))) Via.refl e0 Fg1 (g := (mkF m 1 #[.val (.ref a0_)] [(.ref a0_)])) rfl rfl (hb hby own_d12_1)
  have Fg3 : Fld Z h0 a0_ "com/example/hornloom/hornloom/engine/WaitList" "builtinCount" "I" (.int (I 0)) := HW.2.1 0 (by decide)
  obtain ⟨T4, X4, e4, st4⟩ := getF X2 hx hZ hown (host := "") (Or.inl (hw _ (List.mem_of_getElem? (i := 69) rfl))) Via.refl e2 Fg3 (g := (mkF m 5 #[.val (.ref a0_)] [(.ref a0_), (.int (I 7))])) rfl rfl (hb hby own_d12_5)
  have Fg5 : Fld Z h0 a0_ "com/example/hornloom/hornloom/engine/WaitList" "disjunctionCount" "I" (.int (I 1)) := HW.2.1 1 (by decide)
  obtain ⟨T6, X6, e6, st6⟩ := getF X4 hx hZ hown (host := "") (Or.inl (hw _ (List.mem_of_getElem? (i := 71) rfl))) Via.refl e4 Fg5 (g := (mkF m 9 #[.val (.ref a0_)] [(.ref a0_), (.int (I 0)), (.int (I 7))])) rfl rfl (hb hby own_d12_9)
  have k7 : own_To p e below T6 (mkF m 13 #[.val (.ref a0_)] [(.int ((I 0) + (I 1))), (.int (I 7))]) s₁ (mkF m 0 #[.val (.ref a0_)] []) := fun t q => ki t (by
    refine XS.aloadN X0.here hx rfl (hb hby own_d12_0) rfl rfl ?_
    show Steps p.tables e below (s₁.setTop (mkF m 1 #[.val (.ref a0_)] [(.ref a0_)])) _
    refine st2 _ ?_
    show Steps p.tables e below (T2.setTop (mkF m 4 #[.val (.ref a0_)] [(.int (I 7))])) _
    refine XS.aloadN X2.here hx rfl (hb hby own_d12_4) rfl rfl ?_
    show Steps p.tables e below (T2.setTop (mkF m 5 #[.val (.ref a0_)] [(.ref a0_), (.int (I 7))])) _
    refine st4 _ ?_
    show Steps p.tables e below (T4.setTop (mkF m 8 #[.val (.ref a0_)] [(.int (I 0)), (.int (I 7))])) _
    refine XS.aloadN X4.here hx rfl (hb hby own_d12_8) rfl rfl ?_
    show Steps p.tables e below (T4.setTop (mkF m 9 #[.val (.ref a0_)] [(.ref a0_), (.int (I 0)), (.int (I 7))])) _
    refine st6 _ ?_
    show Steps p.tables e below (T6.setTop (mkF m 12 #[.val (.ref a0_)] [(.int (I 1)), (.int (I 0)), (.int (I 7))])) _
    refine XS.iadd X6.here hx rfl (hb hby own_d12_12) rfl ?_
    show Steps p.tables e below (T6.setTop (mkF m 13 #[.val (.ref a0_)] [(.int ((I 0) + (I 1))), (.int (I 7))])) _
    exact q)
  by_cases hc8 : (I 7) = ((I 0) + (I 1))
  ·
    have k9 : own_To p e below T6 (mkF m 21 #[.val (.ref a0_)] [(.int (1 : Int32))]) s₁ (mkF m 0 #[.val (.ref a0_)] []) := fun t q => k7 t (by
      refine XS.icmpNo X6.here hx rfl (hb hby own_d12_13) rfl (teq hc8).2 ?_
      show Steps p.tables e below (T6.setTop (mkF m 16 #[.val (.ref a0_)] [])) _
      refine XS.iconst X6.here hx rfl (hb hby own_d12_16) ?_
      show Steps p.tables e below (T6.setTop (mkF m 17 #[.val (.ref a0_)] [(.int (1 : Int32))])) _
      refine XS.goto X6.here hx rfl (pc0 := 17) (pc' := 21) rfl (hb hby own_d12_17) (by decide) (by decide) ?_
      show Steps p.tables e below (T6.setTop (mkF m 21 #[.val (.ref a0_)] [(.int (1 : Int32))])) _
      exact q)
    obtain ⟨fs, hr, hrun, hended, hW, hsame⟩ := X6.leave (v := some (.int (1 : Int32))) (fun h => by rw [Bd.returns] at h; cases h)
    refine ⟨_, _, k0 _ (k9 _ ?_), hrun, hended, _, _, rfl, ?_, ⟨_, rfl⟩, hW, hsame.mono (by decide) (by decide)⟩
    · show Steps p.tables e below (T6.setTop (mkF m 21 #[.val (.ref a0_)] [(.int (1 : Int32))])) _
      exact retN X6 hx (t := .boolean) Bd.returns (by simp) (hb hby own_d12_21) hr
    · show Qam Z a0_ A I G h0 n0 _ T6.heap _
      rw [e6]
      exact ⟨by rw [own_am, if_pos hc8], N0, rfl⟩
  ·
    have k10 : own_To p e below T6 (mkF m 21 #[.val (.ref a0_)] [(.int (0 : Int32))]) s₁ (mkF m 0 #[.val (.ref a0_)] []) := fun t q => k7 t (by
      refine XS.icmpYes X6.here hx rfl (pc0 := 13) (pc' := 20) rfl (hb hby own_d12_13) rfl (feq hc8).2 (by decide) (by decide) ?_
      show Steps p.tables e below (T6.setTop (mkF m 20 #[.val (.ref a0_)] [])) _
      refine XS.iconst X6.here hx rfl (hb hby own_d12_20) ?_
      show Steps p.tables e below (T6.setTop (mkF m 21 #[.val (.ref a0_)] [(.int (0 : Int32))])) _
      exact q)
    obtain ⟨fs, hr, hrun, hended, hW, hsame⟩ := X6.leave (v := some (.int (0 : Int32))) (fun h => by rw [Bd.returns] at h; cases h)
    refine ⟨_, _, k0 _ (k10 _ ?_), hrun, hended, _, _, rfl, ?_, ⟨_, rfl⟩, hW, hsame.mono (by decide) (by decide)⟩
    · show Steps p.tables e below (T6.setTop (mkF m 21 #[.val (.ref a0_)] [(.int (0 : Int32))])) _
      exact retN X6 hx (t := .boolean) Bd.returns (by simp) (hb hby own_d12_21) hr
    · show Qam Z a0_ A I G h0 n0 _ T6.heap _
      rw [e6]
      exact ⟨by rw [own_am, if_neg hc8], N0, rfl⟩
theorem own_d13_0 : decode prog_35_method_24_code 0 = .ok (.aload_n 0, 1) := by decide +kernel
theorem own_d13_1 : decode prog_35_method_24_code 1 = .ok (.getfield 103, 3) := by decide +kernel
theorem own_d13_4 : decode prog_35_method_24_code 4 = .ok (.aload_n 0, 1) := by decide +kernel
theorem own_d13_5 : decode prog_35_method_24_code 5 = .ok (.getfield 94, 3) := by decide +kernel
theorem own_d13_8 : decode prog_35_method_24_code 8 = .ok (.if_icmp .ge 33, 3) := by decide +kernel
theorem own_d13_41 : decode prog_35_method_24_code 41 = .ok (.aload_n 0, 1) := by decide +kernel
theorem own_d13_42 : decode prog_35_method_24_code 42 = .ok (.getfield 103, 3) := by decide +kernel
theorem own_d13_45 : decode prog_35_method_24_code 45 = .ok (.aload_n 0, 1) := by decide +kernel
theorem own_d13_46 : decode prog_35_method_24_code 46 = .ok (.getfield 94, 3) := by decide +kernel
theorem own_d13_49 : decode prog_35_method_24_code 49 = .ok (.if_icmp .ge 15, 3) := by decide +kernel
theorem own_d13_64 : decode prog_35_method_24_code 64 = .ok (.iconst (-1), 1) := by decide +kernel
theorem own_d13_65 : decode prog_35_method_24_code 65 = .ok (.ireturn, 1) := by decide +kernel
theorem own_pn13 : plainName "com/example/hornloom/hornloom/engine/WaitList" = true := by first | (simp [plainName, overriddenIn]; done) | decide +kernel
theorem own_effa (m : MethodId) (x0 : Addr) : entryFrame m #[(.ref x0)] 1 = mkF m 0 #[.val (.ref x0)] [] := by first | (simp [entryFrame, mkF, argsToLocals, Value.category]; done) | rfl
def Qfa (Z : State) (a0_ : Addr) (A : Nat → Addr) (I : Nat → Int32) (G : Nat → Nat → Int32) (h0 : Heap) (n0 : Nat) (v : Option Value) (h : Heap) (L : List Loc) : Prop := v = some (.int (-1 : Int32)) ∧ Fr n0 L ∧ h = h0
set_option maxRecDepth 65536 in
set_option maxHeartbeats 40000000 in
theorem rmfa (l : Launch) (Z : State) (a0 : Array Value) (hw : ∀ d ∈ tables_1, d.before a0 Z = true) (ws : List Jvm.Cond) (a0_ : Addr) (A : Nat → Addr) (I : Nat → Int32) (G : Nat → Nat → Int32) (h0 : Heap) (n0 : Nat) (Z0 : n0 ≤ h0.size) (HW : own_W Z h0 a0_ A I G) (HD : own_D n0 a0_ A) (hA : ¬ I 4 < I 1) :
    MetFree l (⟨"com/example/hornloom/hornloom/engine/WaitList", "firstDisjunction", "()I"⟩ : MethodName) (head1 (Jvm.Cond.code (⟨"com/example/hornloom/hornloom/engine/WaitList", "firstDisjunction", "()I"⟩ : MethodName) prog_35_method_24_code 1 (some .int) :: ws) ({ frames := 0, cells := 0, slots := 0, locals := 0 } : Room)) (fun a U => a = #[(.ref a0_)] ∧ Z.Warmed39 U.vm ∧ U.heap = h0) (fun _ _ _ _ _ => True) (fun _ U o U' => ∃ v L, o = .returned v ∧ Qfa Z a0_ A I G h0 n0 v U'.heap L ∧ FrameEnd U o U' L ({ frames := 0, cells := 0, slots := 0, locals := 0 } : Room).cells ({ frames := 0, cells := 0, slots := 0, locals := 0 } : Room).slots) := by
  refine MetFree.of_bodySF (plainFor_of_name own_pn13) hisR ?_
  intro p e s m args below meth c s₁ Bd hml0 hP hK
  obtain ⟨rfl, hZ, hh⟩ := hP
  have hx := Bd.exec
  have hby := Bd.bytes
  have hml : c.maxLocals = 1 := hml0
  have hown : s.vm.findClass "com/example/hornloom/hornloom/engine/WaitList" = some m.cls := findClass_of_methodNamed Bd.named
  have hnm := (name_of_methodNamed Bd.named Bd.method).1
  have X0 : Stand p l e ({ frames := 0, cells := 0, slots := 0, locals := 0 } : Room) s m #[(.ref a0_)] below meth c s₁ [] 0 0 := Stand.of_body Bd
  have e0 : s₁.heap = h0 := by rw [← hh, Bd.state]; rfl
  have N0 := Fr.nil n0
  have k0 : own_To p e below s₁ (mkF m 0 #[.val (.ref a0_)] []) s₁ (entryFrame m #[(.ref a0_)] 1) := fun t k => castTop (own_effa m a0_) k
  have ki : own_To p e below s₁ (mkF m 0 #[.val (.ref a0_)] []) s₁ (mkF m 0 #[.val (.ref a0_)] []) := fun t q => q
  have Lw := own_Lw Z a0 hw
  have Fg1 : Fld Z h0 a0_ "com/example/hornloom/hornloom/engine/WaitList" "settledDisjunctions" "I" (.int (I 4)) := HW.2.1 4 (by decide)
  obtain ⟨T2, X2, e2, st2⟩ := getF X0 hx hZ hown (host := "") (Or.inl (hw _ (List.mem_of_getElem? (i := 77) rfl))) Via.refl e0 Fg1 (g := (mkF m 1 #[.val (.ref a0_)] [(.ref a0_)])) rfl rfl (hb hby own_d13_1)
  have Fg3 : Fld Z h0 a0_ "com/example/hornloom/hornloom/engine/WaitList" "disjunctionCount" "I" (.int (I 1)) := HW.2.1 1 (by decide)
  obtain ⟨T4, X4, e4, st4⟩ := getF X2 hx hZ hown (host := "") (Or.inl (hw _ (List.mem_of_getElem? (i := 71) rfl))) Via.refl e2 Fg3 (g := (mkF m 5 #[.val (.ref a0_)] [(.ref a0_), (.int (I 4))])) rfl rfl (hb hby own_d13_5)
  have Fg5 : Fld Z h0 a0_ "com/example/hornloom/hornloom/engine/WaitList" "settledDisjunctions" "I" (.int (I 4)) := HW.2.1 4 (by decide)
  obtain ⟨T6, X6, e6, st6⟩ := getF X4 hx hZ hown (host := "") (Or.inl (hw _ (List.mem_of_getElem? (i := 77) rfl))) Via.refl e4 Fg5 (g := (mkF m 42 #[.val (.ref a0_)] [(.ref a0_)])) rfl rfl (hb hby own_d13_42)
  have Fg7 : Fld Z h0 a0_ "com/example/hornloom/hornloom/engine/WaitList" "disjunctionCount" "I" (.int (I 1)) := HW.2.1 1 (by decide)
  obtain ⟨T8, X8, e8, st8⟩ := getF X6 hx hZ hown (host := "") (Or.inl (hw _ (List.mem_of_getElem? (i := 71) rfl))) Via.refl e6 Fg7 (g := (mkF m 46 #[.val (.ref a0_)] [(.ref a0_), (.int (I 4))])) rfl rfl (hb hby own_d13_46)
  have k9 : own_To p e below T8 (mkF m 65 #[.val (.ref a0_)] [(.int (-1 : Int32))]) s₁ (mkF m 0 #[.val (.ref a0_)] []) := fun t q => ki t (by
    refine XS.aloadN X0.here hx rfl (hb hby own_d13_0) rfl rfl ?_
    show Steps p.tables e below (s₁.setTop (mkF m 1 #[.val (.ref a0_)] [(.ref a0_)])) _
    refine st2 _ ?_
    show Steps p.tables e below (T2.setTop (mkF m 4 #[.val (.ref a0_)] [(.int (I 4))])) _
    refine XS.aloadN X2.here hx rfl (hb hby own_d13_4) rfl rfl ?_
    show Steps p.tables e below (T2.setTop (mkF m 5 #[.val (.ref a0_)] [(.ref a0_), (.int (I 4))])) _
    refine st4 _ ?_
    show Steps p.tables e below (T4.setTop (mkF m 8 #[.val (.ref a0_)] [(.int (I 1)), (.int (I 4))])) _
    refine XS.icmpYes X4.here hx rfl (pc0 := 8) (pc' := 41) rfl (hb hby own_d13_8) rfl (flt hA).2.1 (by decide) (by decide) ?_
    show Steps p.tables e below (T4.setTop (mkF m 41 #[.val (.ref a0_)] [])) _
    refine XS.aloadN X4.here hx rfl (hb hby own_d13_41) rfl rfl ?_
    show Steps p.tables e below (T4.setTop (mkF m 42 #[.val (.ref a0_)] [(.ref a0_)])) _
    refine st6 _ ?_
    show Steps p.tables e below (T6.setTop (mkF m 45 #[.val (.ref a0_)] [(.int (I 4))])) _
    refine XS.aloadN X6.here hx rfl (hb hby own_d13_45) rfl rfl ?_
    show Steps p.tables e below (T6.setTop (mkF m 46 #[.val (.ref a0_)] [(.ref a0_), (.int (I 4))])) _
    refine st8 _ ?_
    show Steps p.tables e below (T8.setTop (mkF m 49 #[.val (.ref a0_)] [(.int (I 1)), (.int (I 4))])) _
    refine XS.icmpYes X8.here hx rfl (pc0 := 49) (pc' := 64) rfl (hb hby own_d13_49) rfl (flt hA).2.1 (by decide) (by decide) ?_
    show Steps p.tables e below (T8.setTop (mkF m 64 #[.val (.ref a0_)] [])) _
    refine XS.iconst X8.here hx rfl (hb hby own_d13_64) ?_
    show Steps p.tables e below (T8.setTop (mkF m 65 #[.val (.ref a0_)] [(.int (-1 : Int32))])) _
    exact q)
  obtain ⟨fs, hr, hrun, hended, hW, hsame⟩ := X8.leave (v := some (.int (-1 : Int32))) (fun h => by rw [Bd.returns] at h; cases h)
  refine ⟨_, _, k0 _ (k9 _ ?_), hrun, hended, _, _, rfl, ?_, ⟨_, rfl⟩, hW, hsame.mono (by decide) (by decide)⟩
  · show Steps p.tables e below (T8.setTop (mkF m 65 #[.val (.ref a0_)] [(.int (-1 : Int32))])) _
    exact retOut X8 hx Bd.returns rfl (Or.inl ⟨rfl, Or.inl rfl, _, rfl⟩) (hb hby own_d13_65) hr
  · show Qfa Z a0_ A I G h0 n0 _ T8.heap _
    rw [e8]
    exact ⟨rfl, N0, rfl⟩
theorem own_d13_11 : decode prog_35_method_24_code 11 = .ok (.aload_n 0, 1) := by decide +kernel
theorem own_d13_12 : decode prog_35_method_24_code 12 = .ok (.getfield 33, 3) := by decide +kernel
theorem own_d13_15 : decode prog_35_method_24_code 15 = .ok (.aload_n 0, 1) := by decide +kernel
theorem own_d13_16 : decode prog_35_method_24_code 16 = .ok (.getfield 25, 3) := by decide +kernel
theorem own_d13_19 : decode prog_35_method_24_code 19 = .ok (.aload_n 0, 1) := by decide +kernel
theorem own_d13_20 : decode prog_35_method_24_code 20 = .ok (.getfield 103, 3) := by decide +kernel
theorem own_d13_23 : decode prog_35_method_24_code 23 = .ok (.iaload, 1) := by decide +kernel
theorem own_d13_24 : decode prog_35_method_24_code 24 = .ok (.baload, 1) := by decide +kernel
theorem own_d13_25 : decode prog_35_method_24_code 25 = .ok (.ifCond .eq 16, 3) := by decide +kernel
theorem own_d13_52 : decode prog_35_method_24_code 52 = .ok (.aload_n 0, 1) := by decide +kernel
theorem own_d13_53 : decode prog_35_method_24_code 53 = .ok (.getfield 25, 3) := by decide +kernel
theorem own_d13_56 : decode prog_35_method_24_code 56 = .ok (.aload_n 0, 1) := by decide +kernel
theorem own_d13_57 : decode prog_35_method_24_code 57 = .ok (.getfield 103, 3) := by decide +kernel
theorem own_d13_60 : decode prog_35_method_24_code 60 = .ok (.iaload, 1) := by decide +kernel
theorem own_d13_61 : decode prog_35_method_24_code 61 = .ok (.goto 4, 3) := by decide +kernel
theorem own_effb (m : MethodId) (x0 : Addr) : entryFrame m #[(.ref x0)] 1 = mkF m 0 #[.val (.ref x0)] [] := by first | (simp [entryFrame, mkF, argsToLocals, Value.category]; done) | rfl
def Qfb (Z : State) (a0_ : Addr) (A : Nat → Addr) (I : Nat → Int32) (G : Nat → Nat → Int32) (h0 : Heap) (n0 : Nat) (v : Option Value) (h : Heap) (L : List Loc) : Prop := v = some (.int (G 2 ((I 4)).toNatClampNeg)) ∧ Fr n0 L ∧ h = h0
set_option maxRecDepth 65536 in
set_option maxHeartbeats 40000000 in
theorem rmfb (l : Launch) (Z : State) (a0 : Array Value) (hw : ∀ d ∈ tables_1, d.before a0 Z = true) (ws : List Jvm.Cond) (a0_ : Addr) (A : Nat → Addr) (I : Nat → Int32) (G : Nat → Nat → Int32) (h0 : Heap) (n0 : Nat) (Z0 : n0 ≤ h0.size) (HW : own_W Z h0 a0_ A I G) (HD : own_D n0 a0_ A) (hB : I 4 < I 1) (h4 : ¬ I 4 < 0 ∧ I 4 < (4 : Int32)) (hxx : ¬ (G 2 ((I 4)).toNatClampNeg) < 0 ∧ (G 2 ((I 4)).toNatClampNeg) < (4 : Int32)) (hz : G 14 ((G 2 ((I 4)).toNatClampNeg)).toNatClampNeg = (0 : Int32)) :
    MetFree l (⟨"com/example/hornloom/hornloom/engine/WaitList", "firstDisjunction", "()I"⟩ : MethodName) (head1 (Jvm.Cond.code (⟨"com/example/hornloom/hornloom/engine/WaitList", "firstDisjunction", "()I"⟩ : MethodName) prog_35_method_24_code 1 (some .int) :: ws) ({ frames := 0, cells := 0, slots := 0, locals := 0 } : Room)) (fun a U => a = #[(.ref a0_)] ∧ Z.Warmed39 U.vm ∧ U.heap = h0) (fun _ _ _ _ _ => True) (fun _ U o U' => ∃ v L, o = .returned v ∧ Qfb Z a0_ A I G h0 n0 v U'.heap L ∧ FrameEnd U o U' L ({ frames := 0, cells := 0, slots := 0, locals := 0 } : Room).cells ({ frames := 0, cells := 0, slots := 0, locals := 0 } : Room).slots) := by
  refine MetFree.of_bodySF (plainFor_of_name own_pn13) hisR ?_
  intro p e s m args below meth c s₁ Bd hml0 hP hK
  obtain ⟨rfl, hZ, hh⟩ := hP
  have hx := Bd.exec
  have hby := Bd.bytes
  have hml : c.maxLocals = 1 := hml0
  have hown : s.vm.findClass "com/example/hornloom/hornloom/engine/WaitList" = some m.cls := findClass_of_methodNamed Bd.named
  have hnm := (name_of_methodNamed Bd.named Bd.method).1
  have X0 : Stand p l e ({ frames := 0, cells := 0, slots := 0, locals := 0 } : Room) s m #[(.ref a0_)] below meth c s₁ [] 0 0 := Stand.of_body Bd
  have e0 : s₁.heap = h0 := by rw [← hh, Bd.state]; rfl
  have N0 := Fr.nil n0
  have k0 : own_To p e below s₁ (mkF m 0 #[.val (.ref a0_)] []) s₁ (entryFrame m #[(.ref a0_)] 1) := fun t k => castTop (own_effb m a0_) k
  have ki : own_To p e below s₁ (mkF m 0 #[.val (.ref a0_)] []) s₁ (mkF m 0 #[.val (.ref a0_)] []) := fun t q => q
  have Lw := own_Lw Z a0 hw
  have Fg1 : Fld Z h0 a0_ "com/example/hornloom/hornloom/engine/WaitList" "settledDisjunctions" "I" (.int (I 4)) := HW.2.1 4 (by decide)
  obtain ⟨T2, X2, e2, st2⟩ := getF X0 hx hZ hown (host := "") (Or.inl (hw _ (List.mem_of_getElem? (i := 77) rfl))) Via.refl e0 Fg1 (g := (mkF m 1 #[.val (.ref a0_)] [(.ref a0_)])) rfl rfl (hb hby own_d13_1)
  have Fg3 : Fld Z h0 a0_ "com/example/hornloom/hornloom/engine/WaitList" "disjunctionCount" "I" (.int (I 1)) := HW.2.1 1 (by decide)
  obtain ⟨T4, X4, e4, st4⟩ := getF X2 hx hZ hown (host := "") (Or.inl (hw _ (List.mem_of_getElem? (i := 71) rfl))) Via.refl e2 Fg3 (g := (mkF m 5 #[.val (.ref a0_)] [(.ref a0_), (.int (I 4))])) rfl rfl (hb hby own_d13_5)
  have Fg5 : Fld Z h0 a0_ "com/example/hornloom/hornloom/engine/WaitList" "matched" "[Z" (.ref (A 14)) := HW.2.2.1 14 (by decide)
  obtain ⟨T6, X6, e6, st6⟩ := getF X4 hx hZ hown (host := "") (Or.inl (hw _ (List.mem_of_getElem? (i := 27) rfl))) Via.refl e4 Fg5 (g := (mkF m 12 #[.val (.ref a0_)] [(.ref a0_)])) rfl rfl (hb hby own_d13_12)
  have Fg7 : Fld Z h0 a0_ "com/example/hornloom/hornloom/engine/WaitList" "disjunctions" "[I" (.ref (A 2)) := HW.2.2.1 2 (by decide)
  obtain ⟨T8, X8, e8, st8⟩ := getF X6 hx hZ hown (host := "") (Or.inl (hw _ (List.mem_of_getElem? (i := 20) rfl))) Via.refl e6 Fg7 (g := (mkF m 16 #[.val (.ref a0_)] [(.ref a0_), (.ref (A 14))])) rfl rfl (hb hby own_d13_16)
  have Fg9 : Fld Z h0 a0_ "com/example/hornloom/hornloom/engine/WaitList" "settledDisjunctions" "I" (.int (I 4)) := HW.2.1 4 (by decide)
  obtain ⟨T10, X10, e10, st10⟩ := getF X8 hx hZ hown (host := "") (Or.inl (hw _ (List.mem_of_getElem? (i := 77) rfl))) Via.refl e8 Fg9 (g := (mkF m 20 #[.val (.ref a0_)] [(.ref a0_), (.ref (A 2)), (.ref (A 14))])) rfl rfl (hb hby own_d13_20)
  obtain ⟨clr11, Arr11, Sr11, Mr11, Hhr11⟩ : own_B Z h0 (A 2) .int (4 : Int32) (G 2) := HW.2.2.2.1 2 (by decide)
  have hinr11 : ¬ ((I 4) < 0 ∨ clr11.slots.size ≤ ((I 4)).toNatClampNeg) := inb_of Sr11 h4
  have hatr11 : clr11.slots[((I 4)).toNatClampNeg]? = some (.int (G 2 ((I 4)).toNatClampNeg)) := Hhr11 _ (Nat.lt_of_not_le fun y => hinr11 (Or.inr y))
  have k12 : own_To p e below T10 (mkF m 24 #[.val (.ref a0_)] [(.int (G 2 ((I 4)).toNatClampNeg)), (.ref (A 14))]) s₁ (mkF m 0 #[.val (.ref a0_)] []) := fun t q => ki t (by
    refine XS.aloadN X0.here hx rfl (hb hby own_d13_0) rfl rfl ?_
    show Steps p.tables e below (s₁.setTop (mkF m 1 #[.val (.ref a0_)] [(.ref a0_)])) _
    refine st2 _ ?_
    show Steps p.tables e below (T2.setTop (mkF m 4 #[.val (.ref a0_)] [(.int (I 4))])) _
    refine XS.aloadN X2.here hx rfl (hb hby own_d13_4) rfl rfl ?_
    show Steps p.tables e below (T2.setTop (mkF m 5 #[.val (.ref a0_)] [(.ref a0_), (.int (I 4))])) _
    refine st4 _ ?_
    show Steps p.tables e below (T4.setTop (mkF m 8 #[.val (.ref a0_)] [(.int (I 1)), (.int (I 4))])) _
    refine XS.icmpNo X4.here hx rfl (hb hby own_d13_8) rfl (tlt hB).2.1 ?_
    show Steps p.tables e below (T4.setTop (mkF m 11 #[.val (.ref a0_)] [])) _
    refine XS.aloadN X4.here hx rfl (hb hby own_d13_11) rfl rfl ?_
    show Steps p.tables e below (T4.setTop (mkF m 12 #[.val (.ref a0_)] [(.ref a0_)])) _
    refine st6 _ ?_
    show Steps p.tables e below (T6.setTop (mkF m 15 #[.val (.ref a0_)] [(.ref (A 14))])) _
    refine XS.aloadN X6.here hx rfl (hb hby own_d13_15) rfl rfl ?_
    show Steps p.tables e below (T6.setTop (mkF m 16 #[.val (.ref a0_)] [(.ref a0_), (.ref (A 14))])) _
    refine st8 _ ?_
    show Steps p.tables e below (T8.setTop (mkF m 19 #[.val (.ref a0_)] [(.ref (A 2)), (.ref (A 14))])) _
    refine XS.aloadN X8.here hx rfl (hb hby own_d13_19) rfl rfl ?_
    show Steps p.tables e below (T8.setTop (mkF m 20 #[.val (.ref a0_)] [(.ref a0_), (.ref (A 2)), (.ref (A 14))])) _
    refine st10 _ ?_
    show Steps p.tables e below (T10.setTop (mkF m 23 #[.val (.ref a0_)] [(.int (I 4)), (.ref (A 2)), (.ref (A 14))])) _
    refine X10.iaload hx (j := (I 4)) (v := (.int (G 2 ((I 4)).toNatClampNeg))) (by rw [e10]; exact Arr11.1) (State.isArrayOf_alike hZ.alike Arr11.2.1) Arr11.2.2 hinr11 hatr11 (g := (mkF m 23 #[.val (.ref a0_)] [(.int (I 4)), (.ref (A 2)), (.ref (A 14))])) rfl rfl (hb hby own_d13_23) _ ?_
    show Steps p.tables e below (T10.setTop (mkF m 24 #[.val (.ref a0_)] [(.int (G 2 ((I 4)).toNatClampNeg)), (.ref (A 14))])) _
    exact q)
  obtain ⟨clr13, Arr13, Sr13, Mr13, Hhr13⟩ : own_B Z h0 (A 14) .boolean (4 : Int32) (G 14) := HW.2.2.2.1 14 (by decide)
  have hinr13 : ¬ ((G 2 ((I 4)).toNatClampNeg) < 0 ∨ clr13.slots.size ≤ ((G 2 ((I 4)).toNatClampNeg)).toNatClampNeg) := inb_of Sr13 hxx
  have hatr13 : clr13.slots[((G 2 ((I 4)).toNatClampNeg)).toNatClampNeg]? = some (.int (G 14 ((G 2 ((I 4)).toNatClampNeg)).toNatClampNeg)) := Hhr13 _ (Nat.lt_of_not_le fun y => hinr13 (Or.inr y))
  have Fg14 : Fld Z h0 a0_ "com/example/hornloom/hornloom/engine/WaitList" "settledDisjunctions" "I" (.int (I 4)) := HW.2.1 4 (by decide)
  obtain ⟨T15, X15, e15, st15⟩ := getF X10 hx hZ hown (host := "") (Or.inl (hw _ (List.mem_of_getElem? (i := 77) rfl))) Via.refl e10 Fg14 (g := (mkF m 42 #[.val (.ref a0_)] [(.ref a0_)])) rfl rfl (hb hby own_d13_42)
  have Fg16 : Fld Z h0 a0_ "com/example/hornloom/hornloom/engine/WaitList" "disjunctionCount" "I" (.int (I 1)) := HW.2.1 1 (by decide)
  obtain ⟨T17, X17, e17, st17⟩ := getF X15 hx hZ hown (host := "") (Or.inl (hw _ (List.mem_of_getElem? (i := 71) rfl))) Via.refl e15 Fg16 (g := (mkF m 46 #[.val (.ref a0_)] [(.ref a0_), (.int (I 4))])) rfl rfl (hb hby own_d13_46)
  have Fg18 : Fld Z h0 a0_ "com/example/hornloom/hornloom/engine/WaitList" "disjunctions" "[I" (.ref (A 2)) := HW.2.2.1 2 (by decide)
  obtain ⟨T19, X19, e19, st19⟩ := getF X17 hx hZ hown (host := "") (Or.inl (hw _ (List.mem_of_getElem? (i := 20) rfl))) Via.refl e17 Fg18 (g := (mkF m 53 #[.val (.ref a0_)] [(.ref a0_)])) rfl rfl (hb hby own_d13_53)
  have Fg20 : Fld Z h0 a0_ "com/example/hornloom/hornloom/engine/WaitList" "settledDisjunctions" "I" (.int (I 4)) := HW.2.1 4 (by decide)
  obtain ⟨T21, X21, e21, st21⟩ := getF X19 hx hZ hown (host := "") (Or.inl (hw _ (List.mem_of_getElem? (i := 77) rfl))) Via.refl e19 Fg20 (g := (mkF m 57 #[.val (.ref a0_)] [(.ref a0_), (.ref (A 2))])) rfl rfl (hb hby own_d13_57)
  obtain ⟨clr22, Arr22, Sr22, Mr22, Hhr22⟩ : own_B Z h0 (A 2) .int (4 : Int32) (G 2) := HW.2.2.2.1 2 (by decide)
  have hinr22 : ¬ ((I 4) < 0 ∨ clr22.slots.size ≤ ((I 4)).toNatClampNeg) := inb_of Sr22 h4
  have hatr22 : clr22.slots[((I 4)).toNatClampNeg]? = some (.int (G 2 ((I 4)).toNatClampNeg)) := Hhr22 _ (Nat.lt_of_not_le fun y => hinr22 (Or.inr y))
  have k23 : own_To p e below T21 (mkF m 61 #[.val (.ref a0_)] [(.int (G 2 ((I 4)).toNatClampNeg))]) s₁ (mkF m 0 #[.val (.ref a0_)] []) := fun t q => k12 t (by
    refine X10.baloadBooleans hx (j := (G 2 ((I 4)).toNatClampNeg)) (v := (.int (G 14 ((G 2 ((I 4)).toNatClampNeg)).toNatClampNeg))) (by rw [e10]; exact Arr13.1) (State.isArrayOf_alike hZ.alike Arr13.2.1) Arr13.2.2 hinr13 hatr13 (g := (mkF m 24 #[.val (.ref a0_)] [(.int (G 2 ((I 4)).toNatClampNeg)), (.ref (A 14))])) rfl rfl (hb hby own_d13_24) _ ?_
    show Steps p.tables e below (T10.setTop (mkF m 25 #[.val (.ref a0_)] [(.int (G 14 ((G 2 ((I 4)).toNatClampNeg)).toNatClampNeg))])) _
    refine XS.ifYes X10.here hx rfl (pc0 := 25) (pc' := 41) rfl (hb hby own_d13_25) rfl ((if0 _ _).trans (teq hz).1) (by decide) (by decide) ?_
    show Steps p.tables e below (T10.setTop (mkF m 41 #[.val (.ref a0_)] [])) _
    refine XS.aloadN X10.here hx rfl (hb hby own_d13_41) rfl rfl ?_
    show Steps p.tables e below (T10.setTop (mkF m 42 #[.val (.ref a0_)] [(.ref a0_)])) _
    refine st15 _ ?_
    show Steps p.tables e below (T15.setTop (mkF m 45 #[.val (.ref a0_)] [(.int (I 4))])) _
    refine XS.aloadN X15.here hx rfl (hb hby own_d13_45) rfl rfl ?_
    show Steps p.tables e below (T15.setTop (mkF m 46 #[.val (.ref a0_)] [(.ref a0_), (.int (I 4))])) _
    refine st17 _ ?_
    show Steps p.tables e below (T17.setTop (mkF m 49 #[.val (.ref a0_)] [(.int (I 1)), (.int (I 4))])) _
    refine XS.icmpNo X17.here hx rfl (hb hby own_d13_49) rfl (tlt hB).2.1 ?_
    show Steps p.tables e below (T17.setTop (mkF m 52 #[.val (.ref a0_)] [])) _
    refine XS.aloadN X17.here hx rfl (hb hby own_d13_52) rfl rfl ?_
    show Steps p.tables e below (T17.setTop (mkF m 53 #[.val (.ref a0_)] [(.ref a0_)])) _
    refine st19 _ ?_
    show Steps p.tables e below (T19.setTop (mkF m 56 #[.val (.ref a0_)] [(.ref (A 2))])) _
    refine XS.aloadN X19.here hx rfl (hb hby own_d13_56) rfl rfl ?_
    show Steps p.tables e below (T19.setTop (mkF m 57 #[.val (.ref a0_)] [(.ref a0_), (.ref (A 2))])) _
    refine st21 _ ?_
    show Steps p.tables e below (T21.setTop (mkF m 60 #[.val (.ref a0_)] [(.int (I 4)), (.ref (A 2))])) _
    refine X21.iaload hx (j := (I 4)) (v := (.int (G 2 ((I 4)).toNatClampNeg))) (by rw [e21]; exact Arr22.1) (State.isArrayOf_alike hZ.alike Arr22.2.1) Arr22.2.2 hinr22 hatr22 (g := (mkF m 60 #[.val (.ref a0_)] [(.int (I 4)), (.ref (A 2))])) rfl rfl (hb hby own_d13_60) _ ?_
    show Steps p.tables e below (T21.setTop (mkF m 61 #[.val (.ref a0_)] [(.int (G 2 ((I 4)).toNatClampNeg))])) _
    exact q)
  have k24 : own_To p e below T21 (mkF m 65 #[.val (.ref a0_)] [(.int (G 2 ((I 4)).toNatClampNeg))]) s₁ (mkF m 0 #[.val (.ref a0_)] []) := fun t q => k23 t (by
    refine XS.goto X21.here hx rfl (pc0 := 61) (pc' := 65) rfl (hb hby own_d13_61) (by decide) (by decide) ?_
    show Steps p.tables e below (T21.setTop (mkF m 65 #[.val (.ref a0_)] [(.int (G 2 ((I 4)).toNatClampNeg))])) _
    exact q)
  obtain ⟨fs, hr, hrun, hended, hW, hsame⟩ := X21.leave (v := some (.int (G 2 ((I 4)).toNatClampNeg))) (fun h => by rw [Bd.returns] at h; cases h)
  refine ⟨_, _, k0 _ (k24 _ ?_), hrun, hended, _, _, rfl, ?_, ⟨_, rfl⟩, hW, hsame.mono (by decide) (by decide)⟩
  · show Steps p.tables e below (T21.setTop (mkF m 65 #[.val (.ref a0_)] [(.int (G 2 ((I 4)).toNatClampNeg))])) _
    exact retOut X21 hx Bd.returns rfl (Or.inl ⟨rfl, Or.inl rfl, _, rfl⟩) (hb hby own_d13_65) hr
  · show Qfb Z a0_ A I G h0 n0 _ T21.heap _
    rw [e21]
    exact ⟨rfl, N0, rfl⟩
theorem own_d9_0 : decode prog_35_method_4_code 0 = .ok (.aload_n 0, 1) := by decide +kernel
theorem own_d9_1 : decode prog_35_method_4_code 1 = .ok (.aload_n 0, 1) := by decide +kernel
theorem own_d9_2 : decode prog_35_method_4_code 2 = .ok (.getfield 49, 3) := by decide +kernel
theorem own_d9_5 : decode prog_35_method_4_code 5 = .ok (.iload_n 1, 1) := by decide +kernel
theorem own_d9_6 : decode prog_35_method_4_code 6 = .ok (.iaload, 1) := by decide +kernel
theorem own_d9_7 : decode prog_35_method_4_code 7 = .ok (.putfield 90, 3) := by decide +kernel
theorem own_d9_10 : decode prog_35_method_4_code 10 = .ok (.aload_n 0, 1) := by decide +kernel
theorem own_d9_11 : decode prog_35_method_4_code 11 = .ok (.aload_n 0, 1) := by decide +kernel
theorem own_d9_12 : decode prog_35_method_4_code 12 = .ok (.getfield 52, 3) := by decide +kernel
theorem own_d9_15 : decode prog_35_method_4_code 15 = .ok (.iload_n 1, 1) := by decide +kernel
theorem own_d9_16 : decode prog_35_method_4_code 16 = .ok (.iaload, 1) := by decide +kernel
theorem own_d9_17 : decode prog_35_method_4_code 17 = .ok (.putfield 94, 3) := by decide +kernel
theorem own_d9_20 : decode prog_35_method_4_code 20 = .ok (.aload_n 0, 1) := by decide +kernel
theorem own_d9_21 : decode prog_35_method_4_code 21 = .ok (.aload_n 0, 1) := by decide +kernel
theorem own_d9_22 : decode prog_35_method_4_code 22 = .ok (.getfield 55, 3) := by decide +kernel
theorem own_d9_25 : decode prog_35_method_4_code 25 = .ok (.iload_n 1, 1) := by decide +kernel
theorem own_d9_26 : decode prog_35_method_4_code 26 = .ok (.iaload, 1) := by decide +kernel
theorem own_d9_27 : decode prog_35_method_4_code 27 = .ok (.putfield 97, 3) := by decide +kernel
theorem own_d9_30 : decode prog_35_method_4_code 30 = .ok (.aload_n 0, 1) := by decide +kernel
theorem own_d9_31 : decode prog_35_method_4_code 31 = .ok (.aload_n 0, 1) := by decide +kernel
theorem own_d9_32 : decode prog_35_method_4_code 32 = .ok (.getfield 58, 3) := by decide +kernel
theorem own_d9_35 : decode prog_35_method_4_code 35 = .ok (.iload_n 1, 1) := by decide +kernel
theorem own_d9_36 : decode prog_35_method_4_code 36 = .ok (.iaload, 1) := by decide +kernel
theorem own_d9_37 : decode prog_35_method_4_code 37 = .ok (.putfield 100, 3) := by decide +kernel
theorem own_d9_40 : decode prog_35_method_4_code 40 = .ok (.aload_n 0, 1) := by decide +kernel
theorem own_d9_41 : decode prog_35_method_4_code 41 = .ok (.aload_n 0, 1) := by decide +kernel
theorem own_d9_42 : decode prog_35_method_4_code 42 = .ok (.getfield 61, 3) := by decide +kernel
theorem own_d9_45 : decode prog_35_method_4_code 45 = .ok (.iload_n 1, 1) := by decide +kernel
theorem own_d9_46 : decode prog_35_method_4_code 46 = .ok (.iaload, 1) := by decide +kernel
theorem own_d9_47 : decode prog_35_method_4_code 47 = .ok (.putfield 103, 3) := by decide +kernel
theorem own_d9_50 : decode prog_35_method_4_code 50 = .ok (.aload_n 0, 1) := by decide +kernel
theorem own_d9_51 : decode prog_35_method_4_code 51 = .ok (.aload_n 0, 1) := by decide +kernel
theorem own_d9_52 : decode prog_35_method_4_code 52 = .ok (.getfield 64, 3) := by decide +kernel
theorem own_d9_55 : decode prog_35_method_4_code 55 = .ok (.iload_n 1, 1) := by decide +kernel
theorem own_d9_56 : decode prog_35_method_4_code 56 = .ok (.iaload, 1) := by decide +kernel
theorem own_d9_57 : decode prog_35_method_4_code 57 = .ok (.putfield 106, 3) := by decide +kernel
theorem own_d9_60 : decode prog_35_method_4_code 60 = .ok (.aload_n 0, 1) := by decide +kernel
theorem own_d9_61 : decode prog_35_method_4_code 61 = .ok (.aload_n 0, 1) := by decide +kernel
theorem own_d9_62 : decode prog_35_method_4_code 62 = .ok (.getfield 67, 3) := by decide +kernel
theorem own_d9_65 : decode prog_35_method_4_code 65 = .ok (.iload_n 1, 1) := by decide +kernel
theorem own_d9_66 : decode prog_35_method_4_code 66 = .ok (.iaload, 1) := by decide +kernel
theorem own_d9_67 : decode prog_35_method_4_code 67 = .ok (.putfield 109, 3) := by decide +kernel
theorem own_d9_70 : decode prog_35_method_4_code 70 = .ok (.aload_n 0, 1) := by decide +kernel
theorem own_d9_71 : decode prog_35_method_4_code 71 = .ok (.getfield 112, 3) := by decide +kernel
theorem own_d9_74 : decode prog_35_method_4_code 74 = .ok (.aload_n 0, 1) := by decide +kernel
theorem own_d9_75 : decode prog_35_method_4_code 75 = .ok (.getfield 70, 3) := by decide +kernel
theorem own_d9_78 : decode prog_35_method_4_code 78 = .ok (.iload_n 1, 1) := by decide +kernel
theorem own_d9_79 : decode prog_35_method_4_code 79 = .ok (.iaload, 1) := by decide +kernel
theorem own_d9_80 : decode prog_35_method_4_code 80 = .ok (.if_icmp .le 28, 3) := by decide +kernel
theorem own_d9_108 : decode prog_35_method_4_code 108 = .ok (.aload_n 0, 1) := by decide +kernel
theorem own_d9_109 : decode prog_35_method_4_code 109 = .ok (.getfield 115, 3) := by decide +kernel
theorem own_d9_112 : decode prog_35_method_4_code 112 = .ok (.aload_n 0, 1) := by decide +kernel
theorem own_d9_113 : decode prog_35_method_4_code 113 = .ok (.getfield 73, 3) := by decide +kernel
theorem own_d9_116 : decode prog_35_method_4_code 116 = .ok (.iload_n 1, 1) := by decide +kernel
theorem own_d9_117 : decode prog_35_method_4_code 117 = .ok (.iaload, 1) := by decide +kernel
theorem own_d9_118 : decode prog_35_method_4_code 118 = .ok (.if_icmp .le 39, 3) := by decide +kernel
theorem own_d9_157 : decode prog_35_method_4_code 157 = .ok (.aload_n 0, 1) := by decide +kernel
theorem own_d9_158 : decode prog_35_method_4_code 158 = .ok (.aload_n 0, 1) := by decide +kernel
theorem own_d9_159 : decode prog_35_method_4_code 159 = .ok (.getfield 76, 3) := by decide +kernel
theorem own_d9_162 : decode prog_35_method_4_code 162 = .ok (.iload_n 1, 1) := by decide +kernel
theorem own_d9_163 : decode prog_35_method_4_code 163 = .ok (.iaload, 1) := by decide +kernel
theorem own_d9_164 : decode prog_35_method_4_code 164 = .ok (.putfield 118, 3) := by decide +kernel
theorem own_d9_167 : decode prog_35_method_4_code 167 = .ok (.return_, 1) := by decide +kernel
theorem own_pn9 : plainName "com/example/hornloom/hornloom/engine/WaitList" = true := by first | (simp [plainName, overriddenIn]; done) | decide +kernel
theorem own_efrw0 (m : MethodId) (x0 : Addr) (x1 : Int32) : entryFrame m #[(.ref x0), (.int x1)] 2 = mkF m 0 #[.val (.ref x0), .val (.int x1)] [] := by first | (simp [entryFrame, mkF, argsToLocals, Value.category]; done) | rfl
def Qrw0 (Z : State) (a0_ : Addr) (p1 : Int32) (A : Nat → Addr) (I : Nat → Int32) (G : Nat → Nat → Int32) (h0 : Heap) (n0 : Nat) (v : Option Value) (h : Heap) (L : List Loc) : Prop := v = none ∧ Fr n0 L ∧ Keep h0 h [a0_, (A 0), (A 1), (A 2), (A 3), (A 4), (A 5), (A 6), (A 7), (A 8), (A 9), (A 10), (A 11), (A 12), (A 13), (A 14), (A 15)] ∧ own_W Z h a0_ A (own_u (own_u (own_u (own_u (own_u (own_u (own_u (own_u I 0 (G 4 (p1).toNatClampNeg)) 1 (G 5 (p1).toNatClampNeg)) 2 (G 6 (p1).toNatClampNeg)) 3 (G 7 (p1).toNatClampNeg)) 4 (G 8 (p1).toNatClampNeg)) 5 (G 9 (p1).toNatClampNeg)) 6 (G 10 (p1).toNatClampNeg)) 9 (G 13 (p1).toNatClampNeg)) G
set_option maxRecDepth 65536 in
set_option maxHeartbeats 40000000 in
theorem rmrw0 (l : Launch) (Z : State) (a0 : Array Value) (hw : ∀ d ∈ tables_1, d.before a0 Z = true) (ws : List Jvm.Cond) (a0_ : Addr) (p1 : Int32) (A : Nat → Addr) (I : Nat → Int32) (G : Nat → Nat → Int32) (h0 : Heap) (n0 : Nat) (Z0 : n0 ≤ h0.size) (HW : own_W Z h0 a0_ A I G) (HD : own_D n0 a0_ A) (hp : ¬ p1 < 0 ∧ p1 < (4 : Int32)) (hm : ¬ G 11 (p1).toNatClampNeg < I 7) (hwc : ¬ G 12 (p1).toNatClampNeg < I 8) :
    MetFree l (⟨"com/example/hornloom/hornloom/engine/WaitList", "rewind", "(I)V"⟩ : MethodName) (head1 (Jvm.Cond.code (⟨"com/example/hornloom/hornloom/engine/WaitList", "rewind", "(I)V"⟩ : MethodName) prog_35_method_4_code 2 none :: ws) ({ frames := 0, cells := 0, slots := 0, locals := 0 } : Room)) (fun a U => a = #[(.ref a0_), (.int p1)] ∧ Z.Warmed39 U.vm ∧ U.heap = h0) (fun _ _ _ _ _ => True) (fun _ U o U' => ∃ v L, o = .returned v ∧ Qrw0 Z a0_ p1 A I G h0 n0 v U'.heap L ∧ FrameEnd U o U' L ({ frames := 0, cells := 0, slots := 0, locals := 0 } : Room).cells ({ frames := 0, cells := 0, slots := 0, locals := 0 } : Room).slots) := by
  refine MetFree.of_bodySF (plainFor_of_name own_pn9) hisR ?_
  intro p e s m args below meth c s₁ Bd hml0 hP hK
  obtain ⟨rfl, hZ, hh⟩ := hP
  have hx := Bd.exec
  have hby := Bd.bytes
  have hml : c.maxLocals = 2 := hml0
  have hown : s.vm.findClass "com/example/hornloom/hornloom/engine/WaitList" = some m.cls := findClass_of_methodNamed Bd.named
  have hnm := (name_of_methodNamed Bd.named Bd.method).1
  have X0 : Stand p l e ({ frames := 0, cells := 0, slots := 0, locals := 0 } : Room) s m #[(.ref a0_), (.int p1)] below meth c s₁ [] 0 0 := Stand.of_body Bd
  have e0 : s₁.heap = h0 := by rw [← hh, Bd.state]; rfl
  have N0 := Fr.nil n0
  have k0 : own_To p e below s₁ (mkF m 0 #[.val (.ref a0_), .val (.int p1)] []) s₁ (entryFrame m #[(.ref a0_), (.int p1)] 2) := fun t k => castTop (own_efrw0 m a0_ p1) k
  have ki : own_To p e below s₁ (mkF m 0 #[.val (.ref a0_), .val (.int p1)] []) s₁ (mkF m 0 #[.val (.ref a0_), .val (.int p1)] []) := fun t q => q
  have Lw := own_Lw Z a0 hw
  have Fg1 : Fld Z h0 a0_ "com/example/hornloom/hornloom/engine/WaitList" "builtinMarks" "[I" (.ref (A 4)) := HW.2.2.1 4 (by decide)
  obtain ⟨T2, X2, e2, st2⟩ := getF X0 hx hZ hown (host := "") (Or.inl (hw _ (List.mem_of_getElem? (i := 37) rfl))) Via.refl e0 Fg1 (g := (mkF m 2 #[.val (.ref a0_), .val (.int p1)] [(.ref a0_), (.ref a0_)])) rfl rfl (hb hby own_d9_2)
  obtain ⟨clr3, Arr3, Sr3, Mr3, Hhr3⟩ : own_B Z h0 (A 4) .int (4 : Int32) (G 4) := HW.2.2.2.1 4 (by decide)
  have hinr3 : ¬ (p1 < 0 ∨ clr3.slots.size ≤ (p1).toNatClampNeg) := inb_of Sr3 hp
  have hatr3 : clr3.slots[(p1).toNatClampNeg]? = some (.int (G 4 (p1).toNatClampNeg)) := Hhr3 _ (Nat.lt_of_not_le fun y => hinr3 (Or.inr y))
  have Fg4 : Fld Z h0 a0_ "com/example/hornloom/hornloom/engine/WaitList" "builtinCount" "I" (.int (I 0)) := HW.2.1 0 (by decide)
  obtain ⟨T5, h5, X5, e5, W5, st5⟩ := putF X2 hx hZ hown (host := "") (Or.inl (hw _ (List.mem_of_getElem? (i := 69) rfl))) Via.refl e2 Fg4 HW.1 (Or.inl (hw _ (List.mem_of_getElem? (i := 70) rfl))) (hw _ (List.mem_of_getElem? (i := 2) rfl)) (ty := .int) (by decide) rfl rfl (g := (mkF m 7 #[.val (.ref a0_), .val (.int p1)] [(.int (G 4 (p1).toNatClampNeg)), (.ref a0_)])) rfl rfl (hb hby own_d9_7)
  have N5 := Fr.snoc X5 N0 HD.1
  obtain ⟨Lf5, Nf5, Xf5⟩ := own_fold X5 N5
  have HW5 : own_W Z h5 a0_ A (own_u I 0 (G 4 (p1).toNatClampNeg)) G := HW.putI HD Lw 0 (by decide) W5
  have Fg6 : Fld Z h5 a0_ "com/example/hornloom/hornloom/engine/WaitList" "disjunctionMarks" "[I" (.ref (A 5)) := HW5.2.2.1 5 (by decide)
  obtain ⟨T7, X7, e7, st7⟩ := getF Xf5 hx hZ hown (host := "") (Or.inl (hw _ (List.mem_of_getElem? (i := 39) rfl))) Via.refl e5 Fg6 (g := (mkF m 12 #[.val (.ref a0_), .val (.int p1)] [(.ref a0_), (.ref a0_)])) rfl rfl (hb hby own_d9_12)
  obtain ⟨clr8, Arr8, Sr8, Mr8, Hhr8⟩ : own_B Z h5 (A 5) .int (4 : Int32) (G 5) := HW5.2.2.2.1 5 (by decide)
  have hinr8 : ¬ (p1 < 0 ∨ clr8.slots.size ≤ (p1).toNatClampNeg) := inb_of Sr8 hp
  have hatr8 : clr8.slots[(p1).toNatClampNeg]? = some (.int (G 5 (p1).toNatClampNeg)) := Hhr8 _ (Nat.lt_of_not_le fun y => hinr8 (Or.inr y))
  have Fg9 : Fld Z h5 a0_ "com/example/hornloom/hornloom/engine/WaitList" "disjunctionCount" "I" (.int (I 1)) := HW5.2.1 1 (by decide)
  obtain ⟨T10, h10, X10, e10, W10, st10⟩ := putF X7 hx hZ hown (host := "") (Or.inl (hw _ (List.mem_of_getElem? (i := 71) rfl))) Via.refl e7 Fg9 HW5.1 (Or.inl (hw _ (List.mem_of_getElem? (i := 72) rfl))) (hw _ (List.mem_of_getElem? (i := 2) rfl)) (ty := .int) (by decide) rfl rfl (g := (mkF m 17 #[.val (.ref a0_), .val (.int p1)] [(.int (G 5 (p1).toNatClampNeg)), (.ref a0_)])) rfl rfl (hb hby own_d9_17)
  have N10 := Fr.snoc X10 Nf5 HD.1
  obtain ⟨Lf10, Nf10, Xf10⟩ := own_fold X10 N10
  have HW10 : own_W Z h10 a0_ A (own_u (own_u I 0 (G 4 (p1).toNatClampNeg)) 1 (G 5 (p1).toNatClampNeg)) G := HW5.putI HD Lw 1 (by decide) W10
  have k11 : own_To p e below T10 (mkF m 20 #[.val (.ref a0_), .val (.int p1)] []) s₁ (mkF m 0 #[.val (.ref a0_), .val (.int p1)] []) := fun t q => ki t (by
    refine XS.aloadN X0.here hx rfl (hb hby own_d9_0) rfl rfl ?_
    show Steps p.tables e below (s₁.setTop (mkF m 1 #[.val (.ref a0_), .val (.int p1)] [(.ref a0_)])) _
    refine XS.aloadN X0.here hx rfl (hb hby own_d9_1) rfl rfl ?_
    show Steps p.tables e below (s₁.setTop (mkF m 2 #[.val (.ref a0_), .val (.int p1)] [(.ref a0_), (.ref a0_)])) _
    refine st2 _ ?_
    show Steps p.tables e below (T2.setTop (mkF m 5 #[.val (.ref a0_), .val (.int p1)] [(.ref (A 4)), (.ref a0_)])) _
    refine XS.iloadN X2.here hx rfl (hb hby own_d9_5) rfl ?_
    show Steps p.tables e below (T2.setTop (mkF m 6 #[.val (.ref a0_), .val (.int p1)] [(.int p1), (.ref (A 4)), (.ref a0_)])) _
    refine X2.iaload hx (j := p1) (v := (.int (G 4 (p1).toNatClampNeg))) (by rw [e2]; exact Arr3.1) (State.isArrayOf_alike hZ.alike Arr3.2.1) Arr3.2.2 hinr3 hatr3 (g := (mkF m 6 #[.val (.ref a0_), .val (.int p1)] [(.int p1), (.ref (A 4)), (.ref a0_)])) rfl rfl (hb hby own_d9_6) _ ?_
    show Steps p.tables e below (T2.setTop (mkF m 7 #[.val (.ref a0_), .val (.int p1)] [(.int (G 4 (p1).toNatClampNeg)), (.ref a0_)])) _
    refine st5 _ ?_
    show Steps p.tables e below (T5.setTop (mkF m 10 #[.val (.ref a0_), .val (.int p1)] [])) _
    refine XS.aloadN Xf5.here hx rfl (hb hby own_d9_10) rfl rfl ?_
    show Steps p.tables e below (T5.setTop (mkF m 11 #[.val (.ref a0_), .val (.int p1)] [(.ref a0_)])) _
    refine XS.aloadN Xf5.here hx rfl (hb hby own_d9_11) rfl rfl ?_
    show Steps p.tables e below (T5.setTop (mkF m 12 #[.val (.ref a0_), .val (.int p1)] [(.ref a0_), (.ref a0_)])) _
    refine st7 _ ?_
    show Steps p.tables e below (T7.setTop (mkF m 15 #[.val (.ref a0_), .val (.int p1)] [(.ref (A 5)), (.ref a0_)])) _
    refine XS.iloadN X7.here hx rfl (hb hby own_d9_15) rfl ?_
    show Steps p.tables e below (T7.setTop (mkF m 16 #[.val (.ref a0_), .val (.int p1)] [(.int p1), (.ref (A 5)), (.ref a0_)])) _
    refine X7.iaload hx (j := p1) (v := (.int (G 5 (p1).toNatClampNeg))) (by rw [e7]; exact Arr8.1) (State.isArrayOf_alike hZ.alike Arr8.2.1) Arr8.2.2 hinr8 hatr8 (g := (mkF m 16 #[.val (.ref a0_), .val (.int p1)] [(.int p1), (.ref (A 5)), (.ref a0_)])) rfl rfl (hb hby own_d9_16) _ ?_
    show Steps p.tables e below (T7.setTop (mkF m 17 #[.val (.ref a0_), .val (.int p1)] [(.int (G 5 (p1).toNatClampNeg)), (.ref a0_)])) _
    refine st10 _ ?_
    show Steps p.tables e below (T10.setTop (mkF m 20 #[.val (.ref a0_), .val (.int p1)] [])) _
    exact q)
  have Fg12 : Fld Z h10 a0_ "com/example/hornloom/hornloom/engine/WaitList" "builtinsLookedMarks" "[I" (.ref (A 6)) := HW10.2.2.1 6 (by decide)
  obtain ⟨T13, X13, e13, st13⟩ := getF Xf10 hx hZ hown (host := "") (Or.inl (hw _ (List.mem_of_getElem? (i := 41) rfl))) Via.refl e10 Fg12 (g := (mkF m 22 #[.val (.ref a0_), .val (.int p1)] [(.ref a0_), (.ref a0_)])) rfl rfl (hb hby own_d9_22)
  obtain ⟨clr14, Arr14, Sr14, Mr14, Hhr14⟩ : own_B Z h10 (A 6) .int (4 : Int32) (G 6) := HW10.2.2.2.1 6 (by decide)
  have hinr14 : ¬ (p1 < 0 ∨ clr14.slots.size ≤ (p1).toNatClampNeg) := inb_of Sr14 hp
  have hatr14 : clr14.slots[(p1).toNatClampNeg]? = some (.int (G 6 (p1).toNatClampNeg)) := Hhr14 _ (Nat.lt_of_not_le fun y => hinr14 (Or.inr y))
  have Fg15 : Fld Z h10 a0_ "com/example/hornloom/hornloom/engine/WaitList" "builtinsLooked" "I" (.int (I 2)) := HW10.2.1 2 (by decide)
  obtain ⟨T16, h16, X16, e16, W16, st16⟩ := putF X13 hx hZ hown (host := "") (Or.inl (hw _ (List.mem_of_getElem? (i := 73) rfl))) Via.refl e13 Fg15 HW10.1 (Or.inl (hw _ (List.mem_of_getElem? (i := 74) rfl))) (hw _ (List.mem_of_getElem? (i := 2) rfl)) (ty := .int) (by decide) rfl rfl (g := (mkF m 27 #[.val (.ref a0_), .val (.int p1)] [(.int (G 6 (p1).toNatClampNeg)), (.ref a0_)])) rfl rfl (hb hby own_d9_27)
  have N16 := Fr.snoc X16 Nf10 HD.1
  obtain ⟨Lf16, Nf16, Xf16⟩ := own_fold X16 N16
  have HW16 : own_W Z h16 a0_ A (own_u (own_u (own_u I 0 (G 4 (p1).toNatClampNeg)) 1 (G 5 (p1).toNatClampNeg)) 2 (G 6 (p1).toNatClampNeg)) G := HW10.putI HD Lw 2 (by decide) W16
  have Fg17 : Fld Z h16 a0_ "com/example/hornloom/hornloom/engine/WaitList" "disjunctionsLookedMarks" "[I" (.ref (A 7)) := HW16.2.2.1 7 (by decide)
  obtain ⟨T18, X18, e18, st18⟩ := getF Xf16 hx hZ hown (host := "") (Or.inl (hw _ (List.mem_of_getElem? (i := 43) rfl))) Via.refl e16 Fg17 (g := (mkF m 32 #[.val (.ref a0_), .val (.int p1)] [(.ref a0_), (.ref a0_)])) rfl rfl (hb hby own_d9_32)
  obtain ⟨clr19, Arr19, Sr19, Mr19, Hhr19⟩ : own_B Z h16 (A 7) .int (4 : Int32) (G 7) := HW16.2.2.2.1 7 (by decide)
  have hinr19 : ¬ (p1 < 0 ∨ clr19.slots.size ≤ (p1).toNatClampNeg) := inb_of Sr19 hp
  have hatr19 : clr19.slots[(p1).toNatClampNeg]? = some (.int (G 7 (p1).toNatClampNeg)) := Hhr19 _ (Nat.lt_of_not_le fun y => hinr19 (Or.inr y))
  have Fg20 : Fld Z h16 a0_ "com/example/hornloom/hornloom/engine/WaitList" "disjunctionsLooked" "I" (.int (I 3)) := HW16.2.1 3 (by decide)
  obtain ⟨T21, h21, X21, e21, W21, st21⟩ := putF X18 hx hZ hown (host := "") (Or.inl (hw _ (List.mem_of_getElem? (i := 75) rfl))) Via.refl e18 Fg20 HW16.1 (Or.inl (hw _ (List.mem_of_getElem? (i := 76) rfl))) (hw _ (List.mem_of_getElem? (i := 2) rfl)) (ty := .int) (by decide) rfl rfl (g := (mkF m 37 #[.val (.ref a0_), .val (.int p1)] [(.int (G 7 (p1).toNatClampNeg)), (.ref a0_)])) rfl rfl (hb hby own_d9_37)
  have N21 := Fr.snoc X21 Nf16 HD.1
  obtain ⟨Lf21, Nf21, Xf21⟩ := own_fold X21 N21
  have HW21 : own_W Z h21 a0_ A (own_u (own_u (own_u (own_u I 0 (G 4 (p1).toNatClampNeg)) 1 (G 5 (p1).toNatClampNeg)) 2 (G 6 (p1).toNatClampNeg)) 3 (G 7 (p1).toNatClampNeg)) G := HW16.putI HD Lw 3 (by decide) W21
  have k22 : own_To p e below T21 (mkF m 40 #[.val (.ref a0_), .val (.int p1)] []) s₁ (mkF m 0 #[.val (.ref a0_), .val (.int p1)] []) := fun t q => k11 t (by
    refine XS.aloadN Xf10.here hx rfl (hb hby own_d9_20) rfl rfl ?_
    show Steps p.tables e below (T10.setTop (mkF m 21 #[.val (.ref a0_), .val (.int p1)] [(.ref a0_)])) _
    refine XS.aloadN Xf10.here hx rfl (hb hby own_d9_21) rfl rfl ?_
    show Steps p.tables e below (T10.setTop (mkF m 22 #[.val (.ref a0_), .val (.int p1)] [(.ref a0_), (.ref a0_)])) _
    refine st13 _ ?_
    show Steps p.tables e below (T13.setTop (mkF m 25 #[.val (.ref a0_), .val (.int p1)] [(.ref (A 6)), (.ref a0_)])) _
    refine XS.iloadN X13.here hx rfl (hb hby own_d9_25) rfl ?_
    show Steps p.tables e below (T13.setTop (mkF m 26 #[.val (.ref a0_), .val (.int p1)] [(.int p1), (.ref (A 6)), (.ref a0_)])) _
    refine X13.iaload hx (j := p1) (v := (.int (G 6 (p1).toNatClampNeg))) (by rw [e13]; exact Arr14.1) (State.isArrayOf_alike hZ.alike Arr14.2.1) Arr14.2.2 hinr14 hatr14 (g := (mkF m 26 #[.val (.ref a0_), .val (.int p1)] [(.int p1), (.ref (A 6)), (.ref a0_)])) rfl rfl (hb hby own_d9_26) _ ?_
    show Steps p.tables e below (T13.setTop (mkF m 27 #[.val (.ref a0_), .val (.int p1)] [(.int (G 6 (p1).toNatClampNeg)), (.ref a0_)])) _
    refine st16 _ ?_
    show Steps p.tables e below (T16.setTop (mkF m 30 #[.val (.ref a0_), .val (.int p1)] [])) _
    refine XS.aloadN Xf16.here hx rfl (hb hby own_d9_30) rfl rfl ?_
    show Steps p.tables e below (T16.setTop (mkF m 31 #[.val (.ref a0_), .val (.int p1)] [(.ref a0_)])) _
    refine XS.aloadN Xf16.here hx rfl (hb hby own_d9_31) rfl rfl ?_
    show Steps p.tables e below (T16.setTop (mkF m 32 #[.val (.ref a0_), .val (.int p1)] [(.ref a0_), (.ref a0_)])) _
    refine st18 _ ?_
    show Steps p.tables e below (T18.setTop (mkF m 35 #[.val (.ref a0_), .val (.int p1)] [(.ref (A 7)), (.ref a0_)])) _
    refine XS.iloadN X18.here hx rfl (hb hby own_d9_35) rfl ?_
    show Steps p.tables e below (T18.setTop (mkF m 36 #[.val (.ref a0_), .val (.int p1)] [(.int p1), (.ref (A 7)), (.ref a0_)])) _
    refine X18.iaload hx (j := p1) (v := (.int (G 7 (p1).toNatClampNeg))) (by rw [e18]; exact Arr19.1) (State.isArrayOf_alike hZ.alike Arr19.2.1) Arr19.2.2 hinr19 hatr19 (g := (mkF m 36 #[.val (.ref a0_), .val (.int p1)] [(.int p1), (.ref (A 7)), (.ref a0_)])) rfl rfl (hb hby own_d9_36) _ ?_
    show Steps p.tables e below (T18.setTop (mkF m 37 #[.val (.ref a0_), .val (.int p1)] [(.int (G 7 (p1).toNatClampNeg)), (.ref a0_)])) _
    refine st21 _ ?_
    show Steps p.tables e below (T21.setTop (mkF m 40 #[.val (.ref a0_), .val (.int p1)] [])) _
    exact q)
  have Fg23 : Fld Z h21 a0_ "com/example/hornloom/hornloom/engine/WaitList" "settledMarks" "[I" (.ref (A 8)) := HW21.2.2.1 8 (by decide)
  obtain ⟨T24, X24, e24, st24⟩ := getF Xf21 hx hZ hown (host := "") (Or.inl (hw _ (List.mem_of_getElem? (i := 45) rfl))) Via.refl e21 Fg23 (g := (mkF m 42 #[.val (.ref a0_), .val (.int p1)] [(.ref a0_), (.ref a0_)])) rfl rfl (hb hby own_d9_42)
  obtain ⟨clr25, Arr25, Sr25, Mr25, Hhr25⟩ : own_B Z h21 (A 8) .int (4 : Int32) (G 8) := HW21.2.2.2.1 8 (by decide)
  have hinr25 : ¬ (p1 < 0 ∨ clr25.slots.size ≤ (p1).toNatClampNeg) := inb_of Sr25 hp
  have hatr25 : clr25.slots[(p1).toNatClampNeg]? = some (.int (G 8 (p1).toNatClampNeg)) := Hhr25 _ (Nat.lt_of_not_le fun y => hinr25 (Or.inr y))
  have Fg26 : Fld Z h21 a0_ "com/example/hornloom/hornloom/engine/WaitList" "settledDisjunctions" "I" (.int (I 4)) := HW21.2.1 4 (by decide)
  obtain ⟨T27, h27, X27, e27, W27, st27⟩ := putF X24 hx hZ hown (host := "") (Or.inl (hw _ (List.mem_of_getElem? (i := 77) rfl))) Via.refl e24 Fg26 HW21.1 (Or.inl (hw _ (List.mem_of_getElem? (i := 78) rfl))) (hw _ (List.mem_of_getElem? (i := 2) rfl)) (ty := .int) (by decide) rfl rfl (g := (mkF m 47 #[.val (.ref a0_), .val (.int p1)] [(.int (G 8 (p1).toNatClampNeg)), (.ref a0_)])) rfl rfl (hb hby own_d9_47)
  have N27 := Fr.snoc X27 Nf21 HD.1
  obtain ⟨Lf27, Nf27, Xf27⟩ := own_fold X27 N27
  have HW27 : own_W Z h27 a0_ A (own_u (own_u (own_u (own_u (own_u I 0 (G 4 (p1).toNatClampNeg)) 1 (G 5 (p1).toNatClampNeg)) 2 (G 6 (p1).toNatClampNeg)) 3 (G 7 (p1).toNatClampNeg)) 4 (G 8 (p1).toNatClampNeg)) G := HW21.putI HD Lw 4 (by decide) W27
  have Fg28 : Fld Z h27 a0_ "com/example/hornloom/hornloom/engine/WaitList" "readyMarks" "[I" (.ref (A 9)) := HW27.2.2.1 9 (by decide)
  obtain ⟨T29, X29, e29, st29⟩ := getF Xf27 hx hZ hown (host := "") (Or.inl (hw _ (List.mem_of_getElem? (i := 47) rfl))) Via.refl e27 Fg28 (g := (mkF m 52 #[.val (.ref a0_), .val (.int p1)] [(.ref a0_), (.ref a0_)])) rfl rfl (hb hby own_d9_52)
  obtain ⟨clr30, Arr30, Sr30, Mr30, Hhr30⟩ : own_B Z h27 (A 9) .int (4 : Int32) (G 9) := HW27.2.2.2.1 9 (by decide)
  have hinr30 : ¬ (p1 < 0 ∨ clr30.slots.size ≤ (p1).toNatClampNeg) := inb_of Sr30 hp
  have hatr30 : clr30.slots[(p1).toNatClampNeg]? = some (.int (G 9 (p1).toNatClampNeg)) := Hhr30 _ (Nat.lt_of_not_le fun y => hinr30 (Or.inr y))
  have Fg31 : Fld Z h27 a0_ "com/example/hornloom/hornloom/engine/WaitList" "readyCount" "I" (.int (I 5)) := HW27.2.1 5 (by decide)
  obtain ⟨T32, h32, X32, e32, W32, st32⟩ := putF X29 hx hZ hown (host := "") (Or.inl (hw _ (List.mem_of_getElem? (i := 79) rfl))) Via.refl e29 Fg31 HW27.1 (Or.inl (hw _ (List.mem_of_getElem? (i := 80) rfl))) (hw _ (List.mem_of_getElem? (i := 2) rfl)) (ty := .int) (by decide) rfl rfl (g := (mkF m 57 #[.val (.ref a0_), .val (.int p1)] [(.int (G 9 (p1).toNatClampNeg)), (.ref a0_)])) rfl rfl (hb hby own_d9_57)
  have N32 := Fr.snoc X32 Nf27 HD.1
  obtain ⟨Lf32, Nf32, Xf32⟩ := own_fold X32 N32
  have HW32 : own_W Z h32 a0_ A (own_u (own_u (own_u (own_u (own_u (own_u I 0 (G 4 (p1).toNatClampNeg)) 1 (G 5 (p1).toNatClampNeg)) 2 (G 6 (p1).toNatClampNeg)) 3 (G 7 (p1).toNatClampNeg)) 4 (G 8 (p1).toNatClampNeg)) 5 (G 9 (p1).toNatClampNeg)) G := HW27.putI HD Lw 5 (by decide) W32
  have k33 : own_To p e below T32 (mkF m 60 #[.val (.ref a0_), .val (.int p1)] []) s₁ (mkF m 0 #[.val (.ref a0_), .val (.int p1)] []) := fun t q => k22 t (by
    refine XS.aloadN Xf21.here hx rfl (hb hby own_d9_40) rfl rfl ?_
    show Steps p.tables e below (T21.setTop (mkF m 41 #[.val (.ref a0_), .val (.int p1)] [(.ref a0_)])) _
    refine XS.aloadN Xf21.here hx rfl (hb hby own_d9_41) rfl rfl ?_
    show Steps p.tables e below (T21.setTop (mkF m 42 #[.val (.ref a0_), .val (.int p1)] [(.ref a0_), (.ref a0_)])) _
    refine st24 _ ?_
    show Steps p.tables e below (T24.setTop (mkF m 45 #[.val (.ref a0_), .val (.int p1)] [(.ref (A 8)), (.ref a0_)])) _
    refine XS.iloadN X24.here hx rfl (hb hby own_d9_45) rfl ?_
    show Steps p.tables e below (T24.setTop (mkF m 46 #[.val (.ref a0_), .val (.int p1)] [(.int p1), (.ref (A 8)), (.ref a0_)])) _
    refine X24.iaload hx (j := p1) (v := (.int (G 8 (p1).toNatClampNeg))) (by rw [e24]; exact Arr25.1) (State.isArrayOf_alike hZ.alike Arr25.2.1) Arr25.2.2 hinr25 hatr25 (g := (mkF m 46 #[.val (.ref a0_), .val (.int p1)] [(.int p1), (.ref (A 8)), (.ref a0_)])) rfl rfl (hb hby own_d9_46) _ ?_
    show Steps p.tables e below (T24.setTop (mkF m 47 #[.val (.ref a0_), .val (.int p1)] [(.int (G 8 (p1).toNatClampNeg)), (.ref a0_)])) _
    refine st27 _ ?_
    show Steps p.tables e below (T27.setTop (mkF m 50 #[.val (.ref a0_), .val (.int p1)] [])) _
    refine XS.aloadN Xf27.here hx rfl (hb hby own_d9_50) rfl rfl ?_
    show Steps p.tables e below (T27.setTop (mkF m 51 #[.val (.ref a0_), .val (.int p1)] [(.ref a0_)])) _
    refine XS.aloadN Xf27.here hx rfl (hb hby own_d9_51) rfl rfl ?_
    show Steps p.tables e below (T27.setTop (mkF m 52 #[.val (.ref a0_), .val (.int p1)] [(.ref a0_), (.ref a0_)])) _
    refine st29 _ ?_
    show Steps p.tables e below (T29.setTop (mkF m 55 #[.val (.ref a0_), .val (.int p1)] [(.ref (A 9)), (.ref a0_)])) _
    refine XS.iloadN X29.here hx rfl (hb hby own_d9_55) rfl ?_
    show Steps p.tables e below (T29.setTop (mkF m 56 #[.val (.ref a0_), .val (.int p1)] [(.int p1), (.ref (A 9)), (.ref a0_)])) _
    refine X29.iaload hx (j := p1) (v := (.int (G 9 (p1).toNatClampNeg))) (by rw [e29]; exact Arr30.1) (State.isArrayOf_alike hZ.alike Arr30.2.1) Arr30.2.2 hinr30 hatr30 (g := (mkF m 56 #[.val (.ref a0_), .val (.int p1)] [(.int p1), (.ref (A 9)), (.ref a0_)])) rfl rfl (hb hby own_d9_56) _ ?_
    show Steps p.tables e below (T29.setTop (mkF m 57 #[.val (.ref a0_), .val (.int p1)] [(.int (G 9 (p1).toNatClampNeg)), (.ref a0_)])) _
    refine st32 _ ?_
    show Steps p.tables e below (T32.setTop (mkF m 60 #[.val (.ref a0_), .val (.int p1)] [])) _
    exact q)
  have Fg34 : Fld Z h32 a0_ "com/example/hornloom/hornloom/engine/WaitList" "readyTakenMarks" "[I" (.ref (A 10)) := HW32.2.2.1 10 (by decide)
  obtain ⟨T35, X35, e35, st35⟩ := getF Xf32 hx hZ hown (host := "") (Or.inl (hw _ (List.mem_of_getElem? (i := 49) rfl))) Via.refl e32 Fg34 (g := (mkF m 62 #[.val (.ref a0_), .val (.int p1)] [(.ref a0_), (.ref a0_)])) rfl rfl (hb hby own_d9_62)
  obtain ⟨clr36, Arr36, Sr36, Mr36, Hhr36⟩ : own_B Z h32 (A 10) .int (4 : Int32) (G 10) := HW32.2.2.2.1 10 (by decide)
  have hinr36 : ¬ (p1 < 0 ∨ clr36.slots.size ≤ (p1).toNatClampNeg) := inb_of Sr36 hp
  have hatr36 : clr36.slots[(p1).toNatClampNeg]? = some (.int (G 10 (p1).toNatClampNeg)) := Hhr36 _ (Nat.lt_of_not_le fun y => hinr36 (Or.inr y))
  have Fg37 : Fld Z h32 a0_ "com/example/hornloom/hornloom/engine/WaitList" "readyTaken" "I" (.int (I 6)) := HW32.2.1 6 (by decide)
  obtain ⟨T38, h38, X38, e38, W38, st38⟩ := putF X35 hx hZ hown (host := "") (Or.inl (hw _ (List.mem_of_getElem? (i := 81) rfl))) Via.refl e35 Fg37 HW32.1 (Or.inl (hw _ (List.mem_of_getElem? (i := 82) rfl))) (hw _ (List.mem_of_getElem? (i := 2) rfl)) (ty := .int) (by decide) rfl rfl (g := (mkF m 67 #[.val (.ref a0_), .val (.int p1)] [(.int (G 10 (p1).toNatClampNeg)), (.ref a0_)])) rfl rfl (hb hby own_d9_67)
  have N38 := Fr.snoc X38 Nf32 HD.1
  obtain ⟨Lf38, Nf38, Xf38⟩ := own_fold X38 N38
  have HW38 : own_W Z h38 a0_ A (own_u (own_u (own_u (own_u (own_u (own_u (own_u I 0 (G 4 (p1).toNatClampNeg)) 1 (G 5 (p1).toNatClampNeg)) 2 (G 6 (p1).toNatClampNeg)) 3 (G 7 (p1).toNatClampNeg)) 4 (G 8 (p1).toNatClampNeg)) 5 (G 9 (p1).toNatClampNeg)) 6 (G 10 (p1).toNatClampNeg)) G := HW32.putI HD Lw 6 (by decide) W38
  have Fg39 : Fld Z h38 a0_ "com/example/hornloom/hornloom/engine/WaitList" "matchedCount" "I" (.int (I 7)) := HW38.2.1 7 (by decide)
  obtain ⟨T40, X40, e40, st40⟩ := getF Xf38 hx hZ hown (host := "") (Or.inl (hw _ (List.mem_of_getElem? (i := 83) rfl))) Via.refl e38 Fg39 (g := (mkF m 71 #[.val (.ref a0_), .val (.int p1)] [(.ref a0_)])) rfl rfl (hb hby own_d9_71)
  have Fg41 : Fld Z h38 a0_ "com/example/hornloom/hornloom/engine/WaitList" "matchedMarks" "[I" (.ref (A 11)) := HW38.2.2.1 11 (by decide)
  obtain ⟨T42, X42, e42, st42⟩ := getF X40 hx hZ hown (host := "") (Or.inl (hw _ (List.mem_of_getElem? (i := 51) rfl))) Via.refl e40 Fg41 (g := (mkF m 75 #[.val (.ref a0_), .val (.int p1)] [(.ref a0_), (.int (I 7))])) rfl rfl (hb hby own_d9_75)
  obtain ⟨clr43, Arr43, Sr43, Mr43, Hhr43⟩ : own_B Z h38 (A 11) .int (4 : Int32) (G 11) := HW38.2.2.2.1 11 (by decide)
  have hinr43 : ¬ (p1 < 0 ∨ clr43.slots.size ≤ (p1).toNatClampNeg) := inb_of Sr43 hp
  have hatr43 : clr43.slots[(p1).toNatClampNeg]? = some (.int (G 11 (p1).toNatClampNeg)) := Hhr43 _ (Nat.lt_of_not_le fun y => hinr43 (Or.inr y))
  have k44 : own_To p e below T42 (mkF m 80 #[.val (.ref a0_), .val (.int p1)] [(.int (G 11 (p1).toNatClampNeg)), (.int (I 7))]) s₁ (mkF m 0 #[.val (.ref a0_), .val (.int p1)] []) := fun t q => k33 t (by
    refine XS.aloadN Xf32.here hx rfl (hb hby own_d9_60) rfl rfl ?_
    show Steps p.tables e below (T32.setTop (mkF m 61 #[.val (.ref a0_), .val (.int p1)] [(.ref a0_)])) _
    refine XS.aloadN Xf32.here hx rfl (hb hby own_d9_61) rfl rfl ?_
    show Steps p.tables e below (T32.setTop (mkF m 62 #[.val (.ref a0_), .val (.int p1)] [(.ref a0_), (.ref a0_)])) _
    refine st35 _ ?_
    show Steps p.tables e below (T35.setTop (mkF m 65 #[.val (.ref a0_), .val (.int p1)] [(.ref (A 10)), (.ref a0_)])) _
    refine XS.iloadN X35.here hx rfl (hb hby own_d9_65) rfl ?_
    show Steps p.tables e below (T35.setTop (mkF m 66 #[.val (.ref a0_), .val (.int p1)] [(.int p1), (.ref (A 10)), (.ref a0_)])) _
    refine X35.iaload hx (j := p1) (v := (.int (G 10 (p1).toNatClampNeg))) (by rw [e35]; exact Arr36.1) (State.isArrayOf_alike hZ.alike Arr36.2.1) Arr36.2.2 hinr36 hatr36 (g := (mkF m 66 #[.val (.ref a0_), .val (.int p1)] [(.int p1), (.ref (A 10)), (.ref a0_)])) rfl rfl (hb hby own_d9_66) _ ?_
    show Steps p.tables e below (T35.setTop (mkF m 67 #[.val (.ref a0_), .val (.int p1)] [(.int (G 10 (p1).toNatClampNeg)), (.ref a0_)])) _
    refine st38 _ ?_
    show Steps p.tables e below (T38.setTop (mkF m 70 #[.val (.ref a0_), .val (.int p1)] [])) _
    refine XS.aloadN Xf38.here hx rfl (hb hby own_d9_70) rfl rfl ?_
    show Steps p.tables e below (T38.setTop (mkF m 71 #[.val (.ref a0_), .val (.int p1)] [(.ref a0_)])) _
    refine st40 _ ?_
    show Steps p.tables e below (T40.setTop (mkF m 74 #[.val (.ref a0_), .val (.int p1)] [(.int (I 7))])) _
    refine XS.aloadN X40.here hx rfl (hb hby own_d9_74) rfl rfl ?_
    show Steps p.tables e below (T40.setTop (mkF m 75 #[.val (.ref a0_), .val (.int p1)] [(.ref a0_), (.int (I 7))])) _
    refine st42 _ ?_
    show Steps p.tables e below (T42.setTop (mkF m 78 #[.val (.ref a0_), .val (.int p1)] [(.ref (A 11)), (.int (I 7))])) _
    refine XS.iloadN X42.here hx rfl (hb hby own_d9_78) rfl ?_
    show Steps p.tables e below (T42.setTop (mkF m 79 #[.val (.ref a0_), .val (.int p1)] [(.int p1), (.ref (A 11)), (.int (I 7))])) _
    refine X42.iaload hx (j := p1) (v := (.int (G 11 (p1).toNatClampNeg))) (by rw [e42]; exact Arr43.1) (State.isArrayOf_alike hZ.alike Arr43.2.1) Arr43.2.2 hinr43 hatr43 (g := (mkF m 79 #[.val (.ref a0_), .val (.int p1)] [(.int p1), (.ref (A 11)), (.int (I 7))])) rfl rfl (hb hby own_d9_79) _ ?_
    show Steps p.tables e below (T42.setTop (mkF m 80 #[.val (.ref a0_), .val (.int p1)] [(.int (G 11 (p1).toNatClampNeg)), (.int (I 7))])) _
    exact q)
  have Fg45 : Fld Z h38 a0_ "com/example/hornloom/hornloom/engine/WaitList" "watchCount" "I" (.int (I 8)) := HW38.2.1 8 (by decide)
  obtain ⟨T46, X46, e46, st46⟩ := getF X42 hx hZ hown (host := "") (Or.inl (hw _ (List.mem_of_getElem? (i := 85) rfl))) Via.refl e42 Fg45 (g := (mkF m 109 #[.val (.ref a0_), .val (.int p1)] [(.ref a0_)])) rfl rfl (hb hby own_d9_109)
  have Fg47 : Fld Z h38 a0_ "com/example/hornloom/hornloom/engine/WaitList" "watchMarks" "[I" (.ref (A 12)) := HW38.2.2.1 12 (by decide)
  obtain ⟨T48, X48, e48, st48⟩ := getF X46 hx hZ hown (host := "") (Or.inl (hw _ (List.mem_of_getElem? (i := 53) rfl))) Via.refl e46 Fg47 (g := (mkF m 113 #[.val (.ref a0_), .val (.int p1)] [(.ref a0_), (.int (I 8))])) rfl rfl (hb hby own_d9_113)
  obtain ⟨clr49, Arr49, Sr49, Mr49, Hhr49⟩ : own_B Z h38 (A 12) .int (4 : Int32) (G 12) := HW38.2.2.2.1 12 (by decide)
  have hinr49 : ¬ (p1 < 0 ∨ clr49.slots.size ≤ (p1).toNatClampNeg) := inb_of Sr49 hp
  have hatr49 : clr49.slots[(p1).toNatClampNeg]? = some (.int (G 12 (p1).toNatClampNeg)) := Hhr49 _ (Nat.lt_of_not_le fun y => hinr49 (Or.inr y))
  have Fg50 : Fld Z h38 a0_ "com/example/hornloom/hornloom/engine/WaitList" "trailLookedMarks" "[I" (.ref (A 13)) := HW38.2.2.1 13 (by decide)
  obtain ⟨T51, X51, e51, st51⟩ := getF X48 hx hZ hown (host := "") (Or.inl (hw _ (List.mem_of_getElem? (i := 55) rfl))) Via.refl e48 Fg50 (g := (mkF m 159 #[.val (.ref a0_), .val (.int p1)] [(.ref a0_), (.ref a0_)])) rfl rfl (hb hby own_d9_159)
  have k52 : own_To p e below T51 (mkF m 163 #[.val (.ref a0_), .val (.int p1)] [(.int p1), (.ref (A 13)), (.ref a0_)]) s₁ (mkF m 0 #[.val (.ref a0_), .val (.int p1)] []) := fun t q => k44 t (by
    refine XS.icmpYes X42.here hx rfl (pc0 := 80) (pc' := 108) rfl (hb hby own_d9_80) rfl (flt hm).2.2.2 (by decide) (by decide) ?_
    show Steps p.tables e below (T42.setTop (mkF m 108 #[.val (.ref a0_), .val (.int p1)] [])) _
    refine XS.aloadN X42.here hx rfl (hb hby own_d9_108) rfl rfl ?_
    show Steps p.tables e below (T42.setTop (mkF m 109 #[.val (.ref a0_), .val (.int p1)] [(.ref a0_)])) _
    refine st46 _ ?_
    show Steps p.tables e below (T46.setTop (mkF m 112 #[.val (.ref a0_), .val (.int p1)] [(.int (I 8))])) _
    refine XS.aloadN X46.here hx rfl (hb hby own_d9_112) rfl rfl ?_
    show Steps p.tables e below (T46.setTop (mkF m 113 #[.val (.ref a0_), .val (.int p1)] [(.ref a0_), (.int (I 8))])) _
    refine st48 _ ?_
    show Steps p.tables e below (T48.setTop (mkF m 116 #[.val (.ref a0_), .val (.int p1)] [(.ref (A 12)), (.int (I 8))])) _
    refine XS.iloadN X48.here hx rfl (hb hby own_d9_116) rfl ?_
    show Steps p.tables e below (T48.setTop (mkF m 117 #[.val (.ref a0_), .val (.int p1)] [(.int p1), (.ref (A 12)), (.int (I 8))])) _
    refine X48.iaload hx (j := p1) (v := (.int (G 12 (p1).toNatClampNeg))) (by rw [e48]; exact Arr49.1) (State.isArrayOf_alike hZ.alike Arr49.2.1) Arr49.2.2 hinr49 hatr49 (g := (mkF m 117 #[.val (.ref a0_), .val (.int p1)] [(.int p1), (.ref (A 12)), (.int (I 8))])) rfl rfl (hb hby own_d9_117) _ ?_
    show Steps p.tables e below (T48.setTop (mkF m 118 #[.val (.ref a0_), .val (.int p1)] [(.int (G 12 (p1).toNatClampNeg)), (.int (I 8))])) _
    refine XS.icmpYes X48.here hx rfl (pc0 := 118) (pc' := 157) rfl (hb hby own_d9_118) rfl (flt hwc).2.2.2 (by decide) (by decide) ?_
    show Steps p.tables e below (T48.setTop (mkF m 157 #[.val (.ref a0_), .val (.int p1)] [])) _
    refine XS.aloadN X48.here hx rfl (hb hby own_d9_157) rfl rfl ?_
    show Steps p.tables e below (T48.setTop (mkF m 158 #[.val (.ref a0_), .val (.int p1)] [(.ref a0_)])) _
    refine XS.aloadN X48.here hx rfl (hb hby own_d9_158) rfl rfl ?_
    show Steps p.tables e below (T48.setTop (mkF m 159 #[.val (.ref a0_), .val (.int p1)] [(.ref a0_), (.ref a0_)])) _
    refine st51 _ ?_
    show Steps p.tables e below (T51.setTop (mkF m 162 #[.val (.ref a0_), .val (.int p1)] [(.ref (A 13)), (.ref a0_)])) _
    refine XS.iloadN X51.here hx rfl (hb hby own_d9_162) rfl ?_
    show Steps p.tables e below (T51.setTop (mkF m 163 #[.val (.ref a0_), .val (.int p1)] [(.int p1), (.ref (A 13)), (.ref a0_)])) _
    exact q)
  obtain ⟨clr53, Arr53, Sr53, Mr53, Hhr53⟩ : own_B Z h38 (A 13) .int (4 : Int32) (G 13) := HW38.2.2.2.1 13 (by decide)
  have hinr53 : ¬ (p1 < 0 ∨ clr53.slots.size ≤ (p1).toNatClampNeg) := inb_of Sr53 hp
  have hatr53 : clr53.slots[(p1).toNatClampNeg]? = some (.int (G 13 (p1).toNatClampNeg)) := Hhr53 _ (Nat.lt_of_not_le fun y => hinr53 (Or.inr y))
  have Fg54 : Fld Z h38 a0_ "com/example/hornloom/hornloom/engine/WaitList" "trailLooked" "I" (.int (I 9)) := HW38.2.1 9 (by decide)
  obtain ⟨T55, h55, X55, e55, W55, st55⟩ := putF X51 hx hZ hown (host := "") (Or.inl (hw _ (List.mem_of_getElem? (i := 62) rfl))) Via.refl e51 Fg54 HW38.1 (Or.inl (hw _ (List.mem_of_getElem? (i := 63) rfl))) (hw _ (List.mem_of_getElem? (i := 2) rfl)) (ty := .int) (by decide) rfl rfl (g := (mkF m 164 #[.val (.ref a0_), .val (.int p1)] [(.int (G 13 (p1).toNatClampNeg)), (.ref a0_)])) rfl rfl (hb hby own_d9_164)
  have N55 := Fr.snoc X55 Nf38 HD.1
  obtain ⟨Lf55, Nf55, Xf55⟩ := own_fold X55 N55
  have HW55 : own_W Z h55 a0_ A (own_u (own_u (own_u (own_u (own_u (own_u (own_u (own_u I 0 (G 4 (p1).toNatClampNeg)) 1 (G 5 (p1).toNatClampNeg)) 2 (G 6 (p1).toNatClampNeg)) 3 (G 7 (p1).toNatClampNeg)) 4 (G 8 (p1).toNatClampNeg)) 5 (G 9 (p1).toNatClampNeg)) 6 (G 10 (p1).toNatClampNeg)) 9 (G 13 (p1).toNatClampNeg)) G := HW38.putI HD Lw 9 (by decide) W55
  have K56 := ((((Keep.refl h0 [a0_, (A 0), (A 1), (A 2), (A 3), (A 4), (A 5), (A 6), (A 7), (A 8), (A 9), (A 10), (A 11), (A 12), (A 13), (A 14), (A 15)]).wr W5 (Or.inl (List.mem_of_getElem? (i := 0) rfl))).wr W10 (Or.inl (List.mem_of_getElem? (i := 0) rfl))).wr W16 (Or.inl (List.mem_of_getElem? (i := 0) rfl)))
  have K57 := (((K56.wr W21 (Or.inl (List.mem_of_getElem? (i := 0) rfl))).wr W27 (Or.inl (List.mem_of_getElem? (i := 0) rfl))).wr W32 (Or.inl (List.mem_of_getElem? (i := 0) rfl)))
  have K58 : Keep h0 h55 [a0_, (A 0), (A 1), (A 2), (A 3), (A 4), (A 5), (A 6), (A 7), (A 8), (A 9), (A 10), (A 11), (A 12), (A 13), (A 14), (A 15)] := ((K57.wr W38 (Or.inl (List.mem_of_getElem? (i := 0) rfl))).wr W55 (Or.inl (List.mem_of_getElem? (i := 0) rfl)))
  have k59 : own_To p e below T55 (mkF m 167 #[.val (.ref a0_), .val (.int p1)] []) s₁ (mkF m 0 #[.val (.ref a0_), .val (.int p1)] []) := fun t q => k52 t (by
    refine X51.iaload hx (j := p1) (v := (.int (G 13 (p1).toNatClampNeg))) (by rw [e51]; exact Arr53.1) (State.isArrayOf_alike hZ.alike Arr53.2.1) Arr53.2.2 hinr53 hatr53 (g := (mkF m 163 #[.val (.ref a0_), .val (.int p1)] [(.int p1), (.ref (A 13)), (.ref a0_)])) rfl rfl (hb hby own_d9_163) _ ?_
    show Steps p.tables e below (T51.setTop (mkF m 164 #[.val (.ref a0_), .val (.int p1)] [(.int (G 13 (p1).toNatClampNeg)), (.ref a0_)])) _
    refine st55 _ ?_
    show Steps p.tables e below (T55.setTop (mkF m 167 #[.val (.ref a0_), .val (.int p1)] [])) _
    exact q)
  obtain ⟨fs, hr, hrun, hended, hW, hsame⟩ := Xf55.leave (v := none) (fun _ => rfl)
  refine ⟨_, _, k0 _ (k59 _ ?_), hrun, hended, _, _, rfl, ?_, ⟨_, rfl⟩, hW, hsame.mono (by decide) (by decide)⟩
  · show Steps p.tables e below (T55.setTop (mkF m 167 #[.val (.ref a0_), .val (.int p1)] [])) _
    exact Xf55.returnOut hx Bd.returns (hb hby own_d9_167) hr
  · show Qrw0 Z a0_ p1 A I G h0 n0 _ T55.heap _
    rw [e55]
    exact ⟨rfl, Nf55, K58, HW55⟩
theorem own_d9_83 : decode prog_35_method_4_code 83 = .ok (.aload_n 0, 1) := by decide +kernel
theorem own_d9_84 : decode prog_35_method_4_code 84 = .ok (.getfield 33, 3) := by decide +kernel
theorem own_d9_87 : decode prog_35_method_4_code 87 = .ok (.aload_n 0, 1) := by decide +kernel
theorem own_d9_88 : decode prog_35_method_4_code 88 = .ok (.getfield 37, 3) := by decide +kernel
theorem own_d9_91 : decode prog_35_method_4_code 91 = .ok (.aload_n 0, 1) := by decide +kernel
theorem own_d9_92 : decode prog_35_method_4_code 92 = .ok (.dup, 1) := by decide +kernel
theorem own_d9_93 : decode prog_35_method_4_code 93 = .ok (.getfield 112, 3) := by decide +kernel
theorem own_d9_96 : decode prog_35_method_4_code 96 = .ok (.iconst 1, 1) := by decide +kernel
theorem own_d9_97 : decode prog_35_method_4_code 97 = .ok (.isub, 1) := by decide +kernel
theorem own_d9_98 : decode prog_35_method_4_code 98 = .ok (.dup_x1, 1) := by decide +kernel
theorem own_d9_99 : decode prog_35_method_4_code 99 = .ok (.putfield 112, 3) := by decide +kernel
theorem own_d9_102 : decode prog_35_method_4_code 102 = .ok (.iaload, 1) := by decide +kernel
theorem own_d9_103 : decode prog_35_method_4_code 103 = .ok (.iconst 0, 1) := by decide +kernel
theorem own_d9_104 : decode prog_35_method_4_code 104 = .ok (.bastore, 1) := by decide +kernel
theorem own_d9_105 : decode prog_35_method_4_code 105 = .ok (.goto (-35), 3) := by decide +kernel
theorem own_efrw1 (m : MethodId) (x0 : Addr) (x1 : Int32) : entryFrame m #[(.ref x0), (.int x1)] 2 = mkF m 0 #[.val (.ref x0), .val (.int x1)] [] := by first | (simp [entryFrame, mkF, argsToLocals, Value.category]; done) | rfl
def Qrw1 (Z : State) (a0_ : Addr) (p1 : Int32) (A : Nat → Addr) (I : Nat → Int32) (G : Nat → Nat → Int32) (h0 : Heap) (n0 : Nat) (v : Option Value) (h : Heap) (L : List Loc) : Prop := v = none ∧ Fr n0 L ∧ Keep h0 h [a0_, (A 0), (A 1), (A 2), (A 3), (A 4), (A 5), (A 6), (A 7), (A 8), (A 9), (A 10), (A 11), (A 12), (A 13), (A 14), (A 15)] ∧ own_W Z h a0_ A (own_u (own_u (own_u (own_u (own_u (own_u (own_u (own_u (own_u I 0 (G 4 (p1).toNatClampNeg)) 1 (G 5 (p1).toNatClampNeg)) 2 (G 6 (p1).toNatClampNeg)) 3 (G 7 (p1).toNatClampNeg)) 4 (G 8 (p1).toNatClampNeg)) 5 (G 9 (p1).toNatClampNeg)) 6 (G 10 (p1).toNatClampNeg)) 7 ((I 7) - (1 : Int32))) 9 ((own_g G 14 ((G 3 (((I 7) - (1 : Int32))).toNatClampNeg)).toNatClampNeg (nar .boolean (0 : Int32))) 13 (p1).toNatClampNeg)) (own_g G 14 ((G 3 (((I 7) - (1 : Int32))).toNatClampNeg)).toNatClampNeg (nar .boolean (0 : Int32)))
set_option maxRecDepth 65536 in
set_option maxHeartbeats 40000000 in
theorem rmrw1 (l : Launch) (Z : State) (a0 : Array Value) (hw : ∀ d ∈ tables_1, d.before a0 Z = true) (ws : List Jvm.Cond) (a0_ : Addr) (p1 : Int32) (A : Nat → Addr) (I : Nat → Int32) (G : Nat → Nat → Int32) (h0 : Heap) (n0 : Nat) (Z0 : n0 ≤ h0.size) (HW : own_W Z h0 a0_ A I G) (HD : own_D n0 a0_ A) (hp : ¬ p1 < 0 ∧ p1 < (4 : Int32)) (hm1 : G 11 (p1).toNatClampNeg < I 7) (hm2 : ¬ G 11 (p1).toNatClampNeg < ((I 7) - (1 : Int32))) (hwc : ¬ G 12 (p1).toNatClampNeg < I 8) (he : ¬ ((I 7) - (1 : Int32)) < 0 ∧ ((I 7) - (1 : Int32)) < (4 : Int32)) (hxx : ¬ (G 3 (((I 7) - (1 : Int32))).toNatClampNeg) < 0 ∧ (G 3 (((I 7) - (1 : Int32))).toNatClampNeg) < (4 : Int32)) :
    MetFree l (⟨"com/example/hornloom/hornloom/engine/WaitList", "rewind", "(I)V"⟩ : MethodName) (head1 (Jvm.Cond.code (⟨"com/example/hornloom/hornloom/engine/WaitList", "rewind", "(I)V"⟩ : MethodName) prog_35_method_4_code 2 none :: ws) ({ frames := 0, cells := 0, slots := 0, locals := 0 } : Room)) (fun a U => a = #[(.ref a0_), (.int p1)] ∧ Z.Warmed39 U.vm ∧ U.heap = h0) (fun _ _ _ _ _ => True) (fun _ U o U' => ∃ v L, o = .returned v ∧ Qrw1 Z a0_ p1 A I G h0 n0 v U'.heap L ∧ FrameEnd U o U' L ({ frames := 0, cells := 0, slots := 0, locals := 0 } : Room).cells ({ frames := 0, cells := 0, slots := 0, locals := 0 } : Room).slots) := by
  refine MetFree.of_bodySF (plainFor_of_name own_pn9) hisR ?_
  intro p e s m args below meth c s₁ Bd hml0 hP hK
  obtain ⟨rfl, hZ, hh⟩ := hP
  have hx := Bd.exec
  have hby := Bd.bytes
  have hml : c.maxLocals = 2 := hml0
  have hown : s.vm.findClass "com/example/hornloom/hornloom/engine/WaitList" = some m.cls := findClass_of_methodNamed Bd.named
  have hnm := (name_of_methodNamed Bd.named Bd.method).1
  have X0 : Stand p l e ({ frames := 0, cells := 0, slots := 0, locals := 0 } : Room) s m #[(.ref a0_), (.int p1)] below meth c s₁ [] 0 0 := Stand.of_body Bd
  have e0 : s₁.heap = h0 := by rw [← hh, Bd.state]; rfl
  have N0 := Fr.nil n0
  have k0 : own_To p e below s₁ (mkF m 0 #[.val (.ref a0_), .val (.int p1)] []) s₁ (entryFrame m #[(.ref a0_), (.int p1)] 2) := fun t k => castTop (own_efrw1 m a0_ p1) k
  have ki : own_To p e below s₁ (mkF m 0 #[.val (.ref a0_), .val (.int p1)] []) s₁ (mkF m 0 #[.val (.ref a0_), .val (.int p1)] []) := fun t q => q
  have Lw := own_Lw Z a0 hw
  have Fg1 : Fld Z h0 a0_ "com/example/hornloom/hornloom/engine/WaitList" "builtinMarks" "[I" (.ref (A 4)) := HW.2.2.1 4 (by decide)
  obtain ⟨T2, X2, e2, st2⟩ := getF X0 hx hZ hown (host := "") (Or.inl (hw _ (List.mem_of_getElem? (i := 37) rfl))) Via.refl e0 Fg1 (g := (mkF m 2 #[.val (.ref a0_), .val (.int p1)] [(.ref a0_), (.ref a0_)])) rfl rfl (hb hby own_d9_2)
  obtain ⟨clr3, Arr3, Sr3, Mr3, Hhr3⟩ : own_B Z h0 (A 4) .int (4 : Int32) (G 4) := HW.2.2.2.1 4 (by decide)
  have hinr3 : ¬ (p1 < 0 ∨ clr3.slots.size ≤ (p1).toNatClampNeg) := inb_of Sr3 hp
  have hatr3 : clr3.slots[(p1).toNatClampNeg]? = some (.int (G 4 (p1).toNatClampNeg)) := Hhr3 _ (Nat.lt_of_not_le fun y => hinr3 (Or.inr y))
  have Fg4 : Fld Z h0 a0_ "com/example/hornloom/hornloom/engine/WaitList" "builtinCount" "I" (.int (I 0)) := HW.2.1 0 (by decide)
  obtain ⟨T5, h5, X5, e5, W5, st5⟩ := putF X2 hx hZ hown (host := "") (Or.inl (hw _ (List.mem_of_getElem? (i := 69) rfl))) Via.refl e2 Fg4 HW.1 (Or.inl (hw _ (List.mem_of_getElem? (i := 70) rfl))) (hw _ (List.mem_of_getElem? (i := 2) rfl)) (ty := .int) (by decide) rfl rfl (g := (mkF m 7 #[.val (.ref a0_), .val (.int p1)] [(.int (G 4 (p1).toNatClampNeg)), (.ref a0_)])) rfl rfl (hb hby own_d9_7)
  have N5 := Fr.snoc X5 N0 HD.1
  obtain ⟨Lf5, Nf5, Xf5⟩ := own_fold X5 N5
  have HW5 : own_W Z h5 a0_ A (own_u I 0 (G 4 (p1).toNatClampNeg)) G := HW.putI HD Lw 0 (by decide) W5
  have Fg6 : Fld Z h5 a0_ "com/example/hornloom/hornloom/engine/WaitList" "disjunctionMarks" "[I" (.ref (A 5)) := HW5.2.2.1 5 (by decide)
  obtain ⟨T7, X7, e7, st7⟩ := getF Xf5 hx hZ hown (host := "") (Or.inl (hw _ (List.mem_of_getElem? (i := 39) rfl))) Via.refl e5 Fg6 (g := (mkF m 12 #[.val (.ref a0_), .val (.int p1)] [(.ref a0_), (.ref a0_)])) rfl rfl (hb hby own_d9_12)
  obtain ⟨clr8, Arr8, Sr8, Mr8, Hhr8⟩ : own_B Z h5 (A 5) .int (4 : Int32) (G 5) := HW5.2.2.2.1 5 (by decide)
  have hinr8 : ¬ (p1 < 0 ∨ clr8.slots.size ≤ (p1).toNatClampNeg) := inb_of Sr8 hp
  have hatr8 : clr8.slots[(p1).toNatClampNeg]? = some (.int (G 5 (p1).toNatClampNeg)) := Hhr8 _ (Nat.lt_of_not_le fun y => hinr8 (Or.inr y))
  have Fg9 : Fld Z h5 a0_ "com/example/hornloom/hornloom/engine/WaitList" "disjunctionCount" "I" (.int (I 1)) := HW5.2.1 1 (by decide)
  obtain ⟨T10, h10, X10, e10, W10, st10⟩ := putF X7 hx hZ hown (host := "") (Or.inl (hw _ (List.mem_of_getElem? (i := 71) rfl))) Via.refl e7 Fg9 HW5.1 (Or.inl (hw _ (List.mem_of_getElem? (i := 72) rfl))) (hw _ (List.mem_of_getElem? (i := 2) rfl)) (ty := .int) (by decide) rfl rfl (g := (mkF m 17 #[.val (.ref a0_), .val (.int p1)] [(.int (G 5 (p1).toNatClampNeg)), (.ref a0_)])) rfl rfl (hb hby own_d9_17)
  have N10 := Fr.snoc X10 Nf5 HD.1
  obtain ⟨Lf10, Nf10, Xf10⟩ := own_fold X10 N10
  have HW10 : own_W Z h10 a0_ A (own_u (own_u I 0 (G 4 (p1).toNatClampNeg)) 1 (G 5 (p1).toNatClampNeg)) G := HW5.putI HD Lw 1 (by decide) W10
  have k11 : own_To p e below T10 (mkF m 20 #[.val (.ref a0_), .val (.int p1)] []) s₁ (mkF m 0 #[.val (.ref a0_), .val (.int p1)] []) := fun t q => ki t (by
    refine XS.aloadN X0.here hx rfl (hb hby own_d9_0) rfl rfl ?_
    show Steps p.tables e below (s₁.setTop (mkF m 1 #[.val (.ref a0_), .val (.int p1)] [(.ref a0_)])) _
    refine XS.aloadN X0.here hx rfl (hb hby own_d9_1) rfl rfl ?_
    show Steps p.tables e below (s₁.setTop (mkF m 2 #[.val (.ref a0_), .val (.int p1)] [(.ref a0_), (.ref a0_)])) _
    refine st2 _ ?_
    show Steps p.tables e below (T2.setTop (mkF m 5 #[.val (.ref a0_), .val (.int p1)] [(.ref (A 4)), (.ref a0_)])) _
    refine XS.iloadN X2.here hx rfl (hb hby own_d9_5) rfl ?_
    show Steps p.tables e below (T2.setTop (mkF m 6 #[.val (.ref a0_), .val (.int p1)] [(.int p1), (.ref (A 4)), (.ref a0_)])) _
    refine X2.iaload hx (j := p1) (v := (.int (G 4 (p1).toNatClampNeg))) (by rw [e2]; exact Arr3.1) (State.isArrayOf_alike hZ.alike Arr3.2.1) Arr3.2.2 hinr3 hatr3 (g := (mkF m 6 #[.val (.ref a0_), .val (.int p1)] [(.int p1), (.ref (A 4)), (.ref a0_)])) rfl rfl (hb hby own_d9_6) _ ?_
    show Steps p.tables e below (T2.setTop (mkF m 7 #[.val (.ref a0_), .val (.int p1)] [(.int (G 4 (p1).toNatClampNeg)), (.ref a0_)])) _
    refine st5 _ ?_
    show Steps p.tables e below (T5.setTop (mkF m 10 #[.val (.ref a0_), .val (.int p1)] [])) _
    refine XS.aloadN Xf5.here hx rfl (hb hby own_d9_10) rfl rfl ?_
    show Steps p.tables e below (T5.setTop (mkF m 11 #[.val (.ref a0_), .val (.int p1)] [(.ref a0_)])) _
    refine XS.aloadN Xf5.here hx rfl (hb hby own_d9_11) rfl rfl ?_
    show Steps p.tables e below (T5.setTop (mkF m 12 #[.val (.ref a0_), .val (.int p1)] [(.ref a0_), (.ref a0_)])) _
    refine st7 _ ?_
    show Steps p.tables e below (T7.setTop (mkF m 15 #[.val (.ref a0_), .val (.int p1)] [(.ref (A 5)), (.ref a0_)])) _
    refine XS.iloadN X7.here hx rfl (hb hby own_d9_15) rfl ?_
    show Steps p.tables e below (T7.setTop (mkF m 16 #[.val (.ref a0_), .val (.int p1)] [(.int p1), (.ref (A 5)), (.ref a0_)])) _
    refine X7.iaload hx (j := p1) (v := (.int (G 5 (p1).toNatClampNeg))) (by rw [e7]; exact Arr8.1) (State.isArrayOf_alike hZ.alike Arr8.2.1) Arr8.2.2 hinr8 hatr8 (g := (mkF m 16 #[.val (.ref a0_), .val (.int p1)] [(.int p1), (.ref (A 5)), (.ref a0_)])) rfl rfl (hb hby own_d9_16) _ ?_
    show Steps p.tables e below (T7.setTop (mkF m 17 #[.val (.ref a0_), .val (.int p1)] [(.int (G 5 (p1).toNatClampNeg)), (.ref a0_)])) _
    refine st10 _ ?_
    show Steps p.tables e below (T10.setTop (mkF m 20 #[.val (.ref a0_), .val (.int p1)] [])) _
    exact q)
  have Fg12 : Fld Z h10 a0_ "com/example/hornloom/hornloom/engine/WaitList" "builtinsLookedMarks" "[I" (.ref (A 6)) := HW10.2.2.1 6 (by decide)
  obtain ⟨T13, X13, e13, st13⟩ := getF Xf10 hx hZ hown (host := "") (Or.inl (hw _ (List.mem_of_getElem? (i := 41) rfl))) Via.refl e10 Fg12 (g := (mkF m 22 #[.val (.ref a0_), .val (.int p1)] [(.ref a0_), (.ref a0_)])) rfl rfl (hb hby own_d9_22)
  obtain ⟨clr14, Arr14, Sr14, Mr14, Hhr14⟩ : own_B Z h10 (A 6) .int (4 : Int32) (G 6) := HW10.2.2.2.1 6 (by decide)
  have hinr14 : ¬ (p1 < 0 ∨ clr14.slots.size ≤ (p1).toNatClampNeg) := inb_of Sr14 hp
  have hatr14 : clr14.slots[(p1).toNatClampNeg]? = some (.int (G 6 (p1).toNatClampNeg)) := Hhr14 _ (Nat.lt_of_not_le fun y => hinr14 (Or.inr y))
  have Fg15 : Fld Z h10 a0_ "com/example/hornloom/hornloom/engine/WaitList" "builtinsLooked" "I" (.int (I 2)) := HW10.2.1 2 (by decide)
  obtain ⟨T16, h16, X16, e16, W16, st16⟩ := putF X13 hx hZ hown (host := "") (Or.inl (hw _ (List.mem_of_getElem? (i := 73) rfl))) Via.refl e13 Fg15 HW10.1 (Or.inl (hw _ (List.mem_of_getElem? (i := 74) rfl))) (hw _ (List.mem_of_getElem? (i := 2) rfl)) (ty := .int) (by decide) rfl rfl (g := (mkF m 27 #[.val (.ref a0_), .val (.int p1)] [(.int (G 6 (p1).toNatClampNeg)), (.ref a0_)])) rfl rfl (hb hby own_d9_27)
  have N16 := Fr.snoc X16 Nf10 HD.1
  obtain ⟨Lf16, Nf16, Xf16⟩ := own_fold X16 N16
  have HW16 : own_W Z h16 a0_ A (own_u (own_u (own_u I 0 (G 4 (p1).toNatClampNeg)) 1 (G 5 (p1).toNatClampNeg)) 2 (G 6 (p1).toNatClampNeg)) G := HW10.putI HD Lw 2 (by decide) W16
  have Fg17 : Fld Z h16 a0_ "com/example/hornloom/hornloom/engine/WaitList" "disjunctionsLookedMarks" "[I" (.ref (A 7)) := HW16.2.2.1 7 (by decide)
  obtain ⟨T18, X18, e18, st18⟩ := getF Xf16 hx hZ hown (host := "") (Or.inl (hw _ (List.mem_of_getElem? (i := 43) rfl))) Via.refl e16 Fg17 (g := (mkF m 32 #[.val (.ref a0_), .val (.int p1)] [(.ref a0_), (.ref a0_)])) rfl rfl (hb hby own_d9_32)
  obtain ⟨clr19, Arr19, Sr19, Mr19, Hhr19⟩ : own_B Z h16 (A 7) .int (4 : Int32) (G 7) := HW16.2.2.2.1 7 (by decide)
  have hinr19 : ¬ (p1 < 0 ∨ clr19.slots.size ≤ (p1).toNatClampNeg) := inb_of Sr19 hp
  have hatr19 : clr19.slots[(p1).toNatClampNeg]? = some (.int (G 7 (p1).toNatClampNeg)) := Hhr19 _ (Nat.lt_of_not_le fun y => hinr19 (Or.inr y))
  have Fg20 : Fld Z h16 a0_ "com/example/hornloom/hornloom/engine/WaitList" "disjunctionsLooked" "I" (.int (I 3)) := HW16.2.1 3 (by decide)
  obtain ⟨T21, h21, X21, e21, W21, st21⟩ := putF X18 hx hZ hown (host := "") (Or.inl (hw _ (List.mem_of_getElem? (i := 75) rfl))) Via.refl e18 Fg20 HW16.1 (Or.inl (hw _ (List.mem_of_getElem? (i := 76) rfl))) (hw _ (List.mem_of_getElem? (i := 2) rfl)) (ty := .int) (by decide) rfl rfl (g := (mkF m 37 #[.val (.ref a0_), .val (.int p1)] [(.int (G 7 (p1).toNatClampNeg)), (.ref a0_)])) rfl rfl (hb hby own_d9_37)
  have N21 := Fr.snoc X21 Nf16 HD.1
  obtain ⟨Lf21, Nf21, Xf21⟩ := own_fold X21 N21
  have HW21 : own_W Z h21 a0_ A (own_u (own_u (own_u (own_u I 0 (G 4 (p1).toNatClampNeg)) 1 (G 5 (p1).toNatClampNeg)) 2 (G 6 (p1).toNatClampNeg)) 3 (G 7 (p1).toNatClampNeg)) G := HW16.putI HD Lw 3 (by decide) W21
  have k22 : own_To p e below T21 (mkF m 40 #[.val (.ref a0_), .val (.int p1)] []) s₁ (mkF m 0 #[.val (.ref a0_), .val (.int p1)] []) := fun t q => k11 t (by
    refine XS.aloadN Xf10.here hx rfl (hb hby own_d9_20) rfl rfl ?_
    show Steps p.tables e below (T10.setTop (mkF m 21 #[.val (.ref a0_), .val (.int p1)] [(.ref a0_)])) _
    refine XS.aloadN Xf10.here hx rfl (hb hby own_d9_21) rfl rfl ?_
    show Steps p.tables e below (T10.setTop (mkF m 22 #[.val (.ref a0_), .val (.int p1)] [(.ref a0_), (.ref a0_)])) _
    refine st13 _ ?_
    show Steps p.tables e below (T13.setTop (mkF m 25 #[.val (.ref a0_), .val (.int p1)] [(.ref (A 6)), (.ref a0_)])) _
    refine XS.iloadN X13.here hx rfl (hb hby own_d9_25) rfl ?_
    show Steps p.tables e below (T13.setTop (mkF m 26 #[.val (.ref a0_), .val (.int p1)] [(.int p1), (.ref (A 6)), (.ref a0_)])) _
    refine X13.iaload hx (j := p1) (v := (.int (G 6 (p1).toNatClampNeg))) (by rw [e13]; exact Arr14.1) (State.isArrayOf_alike hZ.alike Arr14.2.1) Arr14.2.2 hinr14 hatr14 (g := (mkF m 26 #[.val (.ref a0_), .val (.int p1)] [(.int p1), (.ref (A 6)), (.ref a0_)])) rfl rfl (hb hby own_d9_26) _ ?_
    show Steps p.tables e below (T13.setTop (mkF m 27 #[.val (.ref a0_), .val (.int p1)] [(.int (G 6 (p1).toNatClampNeg)), (.ref a0_)])) _
    refine st16 _ ?_
    show Steps p.tables e below (T16.setTop (mkF m 30 #[.val (.ref a0_), .val (.int p1)] [])) _
    refine XS.aloadN Xf16.here hx rfl (hb hby own_d9_30) rfl rfl ?_
    show Steps p.tables e below (T16.setTop (mkF m 31 #[.val (.ref a0_), .val (.int p1)] [(.ref a0_)])) _
    refine XS.aloadN Xf16.here hx rfl (hb hby own_d9_31) rfl rfl ?_
    show Steps p.tables e below (T16.setTop (mkF m 32 #[.val (.ref a0_), .val (.int p1)] [(.ref a0_), (.ref a0_)])) _
    refine st18 _ ?_
    show Steps p.tables e below (T18.setTop (mkF m 35 #[.val (.ref a0_), .val (.int p1)] [(.ref (A 7)), (.ref a0_)])) _
    refine XS.iloadN X18.here hx rfl (hb hby own_d9_35) rfl ?_
    show Steps p.tables e below (T18.setTop (mkF m 36 #[.val (.ref a0_), .val (.int p1)] [(.int p1), (.ref (A 7)), (.ref a0_)])) _
    refine X18.iaload hx (j := p1) (v := (.int (G 7 (p1).toNatClampNeg))) (by rw [e18]; exact Arr19.1) (State.isArrayOf_alike hZ.alike Arr19.2.1) Arr19.2.2 hinr19 hatr19 (g := (mkF m 36 #[.val (.ref a0_), .val (.int p1)] [(.int p1), (.ref (A 7)), (.ref a0_)])) rfl rfl (hb hby own_d9_36) _ ?_
    show Steps p.tables e below (T18.setTop (mkF m 37 #[.val (.ref a0_), .val (.int p1)] [(.int (G 7 (p1).toNatClampNeg)), (.ref a0_)])) _
    refine st21 _ ?_
    show Steps p.tables e below (T21.setTop (mkF m 40 #[.val (.ref a0_), .val (.int p1)] [])) _
    exact q)
  have Fg23 : Fld Z h21 a0_ "com/example/hornloom/hornloom/engine/WaitList" "settledMarks" "[I" (.ref (A 8)) := HW21.2.2.1 8 (by decide)
  obtain ⟨T24, X24, e24, st24⟩ := getF Xf21 hx hZ hown (host := "") (Or.inl (hw _ (List.mem_of_getElem? (i := 45) rfl))) Via.refl e21 Fg23 (g := (mkF m 42 #[.val (.ref a0_), .val (.int p1)] [(.ref a0_), (.ref a0_)])) rfl rfl (hb hby own_d9_42)
  obtain ⟨clr25, Arr25, Sr25, Mr25, Hhr25⟩ : own_B Z h21 (A 8) .int (4 : Int32) (G 8) := HW21.2.2.2.1 8 (by decide)
  have hinr25 : ¬ (p1 < 0 ∨ clr25.slots.size ≤ (p1).toNatClampNeg) := inb_of Sr25 hp
  have hatr25 : clr25.slots[(p1).toNatClampNeg]? = some (.int (G 8 (p1).toNatClampNeg)) := Hhr25 _ (Nat.lt_of_not_le fun y => hinr25 (Or.inr y))
  have Fg26 : Fld Z h21 a0_ "com/example/hornloom/hornloom/engine/WaitList" "settledDisjunctions" "I" (.int (I 4)) := HW21.2.1 4 (by decide)
  obtain ⟨T27, h27, X27, e27, W27, st27⟩ := putF X24 hx hZ hown (host := "") (Or.inl (hw _ (List.mem_of_getElem? (i := 77) rfl))) Via.refl e24 Fg26 HW21.1 (Or.inl (hw _ (List.mem_of_getElem? (i := 78) rfl))) (hw _ (List.mem_of_getElem? (i := 2) rfl)) (ty := .int) (by decide) rfl rfl (g := (mkF m 47 #[.val (.ref a0_), .val (.int p1)] [(.int (G 8 (p1).toNatClampNeg)), (.ref a0_)])) rfl rfl (hb hby own_d9_47)
  have N27 := Fr.snoc X27 Nf21 HD.1
  obtain ⟨Lf27, Nf27, Xf27⟩ := own_fold X27 N27
  have HW27 : own_W Z h27 a0_ A (own_u (own_u (own_u (own_u (own_u I 0 (G 4 (p1).toNatClampNeg)) 1 (G 5 (p1).toNatClampNeg)) 2 (G 6 (p1).toNatClampNeg)) 3 (G 7 (p1).toNatClampNeg)) 4 (G 8 (p1).toNatClampNeg)) G := HW21.putI HD Lw 4 (by decide) W27
  have Fg28 : Fld Z h27 a0_ "com/example/hornloom/hornloom/engine/WaitList" "readyMarks" "[I" (.ref (A 9)) := HW27.2.2.1 9 (by decide)
  obtain ⟨T29, X29, e29, st29⟩ := getF Xf27 hx hZ hown (host := "") (Or.inl (hw _ (List.mem_of_getElem? (i := 47) rfl))) Via.refl e27 Fg28 (g := (mkF m 52 #[.val (.ref a0_), .val (.int p1)] [(.ref a0_), (.ref a0_)])) rfl rfl (hb hby own_d9_52)
  obtain ⟨clr30, Arr30, Sr30, Mr30, Hhr30⟩ : own_B Z h27 (A 9) .int (4 : Int32) (G 9) := HW27.2.2.2.1 9 (by decide)
  have hinr30 : ¬ (p1 < 0 ∨ clr30.slots.size ≤ (p1).toNatClampNeg) := inb_of Sr30 hp
  have hatr30 : clr30.slots[(p1).toNatClampNeg]? = some (.int (G 9 (p1).toNatClampNeg)) := Hhr30 _ (Nat.lt_of_not_le fun y => hinr30 (Or.inr y))
  have Fg31 : Fld Z h27 a0_ "com/example/hornloom/hornloom/engine/WaitList" "readyCount" "I" (.int (I 5)) := HW27.2.1 5 (by decide)
  obtain ⟨T32, h32, X32, e32, W32, st32⟩ := putF X29 hx hZ hown (host := "") (Or.inl (hw _ (List.mem_of_getElem? (i := 79) rfl))) Via.refl e29 Fg31 HW27.1 (Or.inl (hw _ (List.mem_of_getElem? (i := 80) rfl))) (hw _ (List.mem_of_getElem? (i := 2) rfl)) (ty := .int) (by decide) rfl rfl (g := (mkF m 57 #[.val (.ref a0_), .val (.int p1)] [(.int (G 9 (p1).toNatClampNeg)), (.ref a0_)])) rfl rfl (hb hby own_d9_57)
  have N32 := Fr.snoc X32 Nf27 HD.1
  obtain ⟨Lf32, Nf32, Xf32⟩ := own_fold X32 N32
  have HW32 : own_W Z h32 a0_ A (own_u (own_u (own_u (own_u (own_u (own_u I 0 (G 4 (p1).toNatClampNeg)) 1 (G 5 (p1).toNatClampNeg)) 2 (G 6 (p1).toNatClampNeg)) 3 (G 7 (p1).toNatClampNeg)) 4 (G 8 (p1).toNatClampNeg)) 5 (G 9 (p1).toNatClampNeg)) G := HW27.putI HD Lw 5 (by decide) W32
  have k33 : own_To p e below T32 (mkF m 60 #[.val (.ref a0_), .val (.int p1)] []) s₁ (mkF m 0 #[.val (.ref a0_), .val (.int p1)] []) := fun t q => k22 t (by
    refine XS.aloadN Xf21.here hx rfl (hb hby own_d9_40) rfl rfl ?_
    show Steps p.tables e below (T21.setTop (mkF m 41 #[.val (.ref a0_), .val (.int p1)] [(.ref a0_)])) _
    refine XS.aloadN Xf21.here hx rfl (hb hby own_d9_41) rfl rfl ?_
    show Steps p.tables e below (T21.setTop (mkF m 42 #[.val (.ref a0_), .val (.int p1)] [(.ref a0_), (.ref a0_)])) _
    refine st24 _ ?_
    show Steps p.tables e below (T24.setTop (mkF m 45 #[.val (.ref a0_), .val (.int p1)] [(.ref (A 8)), (.ref a0_)])) _
    refine XS.iloadN X24.here hx rfl (hb hby own_d9_45) rfl ?_
    show Steps p.tables e below (T24.setTop (mkF m 46 #[.val (.ref a0_), .val (.int p1)] [(.int p1), (.ref (A 8)), (.ref a0_)])) _
    refine X24.iaload hx (j := p1) (v := (.int (G 8 (p1).toNatClampNeg))) (by rw [e24]; exact Arr25.1) (State.isArrayOf_alike hZ.alike Arr25.2.1) Arr25.2.2 hinr25 hatr25 (g := (mkF m 46 #[.val (.ref a0_), .val (.int p1)] [(.int p1), (.ref (A 8)), (.ref a0_)])) rfl rfl (hb hby own_d9_46) _ ?_
    show Steps p.tables e below (T24.setTop (mkF m 47 #[.val (.ref a0_), .val (.int p1)] [(.int (G 8 (p1).toNatClampNeg)), (.ref a0_)])) _
    refine st27 _ ?_
    show Steps p.tables e below (T27.setTop (mkF m 50 #[.val (.ref a0_), .val (.int p1)] [])) _
    refine XS.aloadN Xf27.here hx rfl (hb hby own_d9_50) rfl rfl ?_
    show Steps p.tables e below (T27.setTop (mkF m 51 #[.val (.ref a0_), .val (.int p1)] [(.ref a0_)])) _
    refine XS.aloadN Xf27.here hx rfl (hb hby own_d9_51) rfl rfl ?_
    show Steps p.tables e below (T27.setTop (mkF m 52 #[.val (.ref a0_), .val (.int p1)] [(.ref a0_), (.ref a0_)])) _
    refine st29 _ ?_
    show Steps p.tables e below (T29.setTop (mkF m 55 #[.val (.ref a0_), .val (.int p1)] [(.ref (A 9)), (.ref a0_)])) _
    refine XS.iloadN X29.here hx rfl (hb hby own_d9_55) rfl ?_
    show Steps p.tables e below (T29.setTop (mkF m 56 #[.val (.ref a0_), .val (.int p1)] [(.int p1), (.ref (A 9)), (.ref a0_)])) _
    refine X29.iaload hx (j := p1) (v := (.int (G 9 (p1).toNatClampNeg))) (by rw [e29]; exact Arr30.1) (State.isArrayOf_alike hZ.alike Arr30.2.1) Arr30.2.2 hinr30 hatr30 (g := (mkF m 56 #[.val (.ref a0_), .val (.int p1)] [(.int p1), (.ref (A 9)), (.ref a0_)])) rfl rfl (hb hby own_d9_56) _ ?_
    show Steps p.tables e below (T29.setTop (mkF m 57 #[.val (.ref a0_), .val (.int p1)] [(.int (G 9 (p1).toNatClampNeg)), (.ref a0_)])) _
    refine st32 _ ?_
    show Steps p.tables e below (T32.setTop (mkF m 60 #[.val (.ref a0_), .val (.int p1)] [])) _
    exact q)
  have Fg34 : Fld Z h32 a0_ "com/example/hornloom/hornloom/engine/WaitList" "readyTakenMarks" "[I" (.ref (A 10)) := HW32.2.2.1 10 (by decide)
  obtain ⟨T35, X35, e35, st35⟩ := getF Xf32 hx hZ hown (host := "") (Or.inl (hw _ (List.mem_of_getElem? (i := 49) rfl))) Via.refl e32 Fg34 (g := (mkF m 62 #[.val (.ref a0_), .val (.int p1)] [(.ref a0_), (.ref a0_)])) rfl rfl (hb hby own_d9_62)
  obtain ⟨clr36, Arr36, Sr36, Mr36, Hhr36⟩ : own_B Z h32 (A 10) .int (4 : Int32) (G 10) := HW32.2.2.2.1 10 (by decide)
  have hinr36 : ¬ (p1 < 0 ∨ clr36.slots.size ≤ (p1).toNatClampNeg) := inb_of Sr36 hp
  have hatr36 : clr36.slots[(p1).toNatClampNeg]? = some (.int (G 10 (p1).toNatClampNeg)) := Hhr36 _ (Nat.lt_of_not_le fun y => hinr36 (Or.inr y))
  have Fg37 : Fld Z h32 a0_ "com/example/hornloom/hornloom/engine/WaitList" "readyTaken" "I" (.int (I 6)) := HW32.2.1 6 (by decide)
  obtain ⟨T38, h38, X38, e38, W38, st38⟩ := putF X35 hx hZ hown (host := "") (Or.inl (hw _ (List.mem_of_getElem? (i := 81) rfl))) Via.refl e35 Fg37 HW32.1 (Or.inl (hw _ (List.mem_of_getElem? (i := 82) rfl))) (hw _ (List.mem_of_getElem? (i := 2) rfl)) (ty := .int) (by decide) rfl rfl (g := (mkF m 67 #[.val (.ref a0_), .val (.int p1)] [(.int (G 10 (p1).toNatClampNeg)), (.ref a0_)])) rfl rfl (hb hby own_d9_67)
  have N38 := Fr.snoc X38 Nf32 HD.1
  obtain ⟨Lf38, Nf38, Xf38⟩ := own_fold X38 N38
  have HW38 : own_W Z h38 a0_ A (own_u (own_u (own_u (own_u (own_u (own_u (own_u I 0 (G 4 (p1).toNatClampNeg)) 1 (G 5 (p1).toNatClampNeg)) 2 (G 6 (p1).toNatClampNeg)) 3 (G 7 (p1).toNatClampNeg)) 4 (G 8 (p1).toNatClampNeg)) 5 (G 9 (p1).toNatClampNeg)) 6 (G 10 (p1).toNatClampNeg)) G := HW32.putI HD Lw 6 (by decide) W38
  have Fg39 : Fld Z h38 a0_ "com/example/hornloom/hornloom/engine/WaitList" "matchedCount" "I" (.int (I 7)) := HW38.2.1 7 (by decide)
  obtain ⟨T40, X40, e40, st40⟩ := getF Xf38 hx hZ hown (host := "") (Or.inl (hw _ (List.mem_of_getElem? (i := 83) rfl))) Via.refl e38 Fg39 (g := (mkF m 71 #[.val (.ref a0_), .val (.int p1)] [(.ref a0_)])) rfl rfl (hb hby own_d9_71)
  have Fg41 : Fld Z h38 a0_ "com/example/hornloom/hornloom/engine/WaitList" "matchedMarks" "[I" (.ref (A 11)) := HW38.2.2.1 11 (by decide)
  obtain ⟨T42, X42, e42, st42⟩ := getF X40 hx hZ hown (host := "") (Or.inl (hw _ (List.mem_of_getElem? (i := 51) rfl))) Via.refl e40 Fg41 (g := (mkF m 75 #[.val (.ref a0_), .val (.int p1)] [(.ref a0_), (.int (I 7))])) rfl rfl (hb hby own_d9_75)
  obtain ⟨clr43, Arr43, Sr43, Mr43, Hhr43⟩ : own_B Z h38 (A 11) .int (4 : Int32) (G 11) := HW38.2.2.2.1 11 (by decide)
  have hinr43 : ¬ (p1 < 0 ∨ clr43.slots.size ≤ (p1).toNatClampNeg) := inb_of Sr43 hp
  have hatr43 : clr43.slots[(p1).toNatClampNeg]? = some (.int (G 11 (p1).toNatClampNeg)) := Hhr43 _ (Nat.lt_of_not_le fun y => hinr43 (Or.inr y))
  have k44 : own_To p e below T42 (mkF m 80 #[.val (.ref a0_), .val (.int p1)] [(.int (G 11 (p1).toNatClampNeg)), (.int (I 7))]) s₁ (mkF m 0 #[.val (.ref a0_), .val (.int p1)] []) := fun t q => k33 t (by
    refine XS.aloadN Xf32.here hx rfl (hb hby own_d9_60) rfl rfl ?_
    show Steps p.tables e below (T32.setTop (mkF m 61 #[.val (.ref a0_), .val (.int p1)] [(.ref a0_)])) _
    refine XS.aloadN Xf32.here hx rfl (hb hby own_d9_61) rfl rfl ?_
    show Steps p.tables e below (T32.setTop (mkF m 62 #[.val (.ref a0_), .val (.int p1)] [(.ref a0_), (.ref a0_)])) _
    refine st35 _ ?_
    show Steps p.tables e below (T35.setTop (mkF m 65 #[.val (.ref a0_), .val (.int p1)] [(.ref (A 10)), (.ref a0_)])) _
    refine XS.iloadN X35.here hx rfl (hb hby own_d9_65) rfl ?_
    show Steps p.tables e below (T35.setTop (mkF m 66 #[.val (.ref a0_), .val (.int p1)] [(.int p1), (.ref (A 10)), (.ref a0_)])) _
    refine X35.iaload hx (j := p1) (v := (.int (G 10 (p1).toNatClampNeg))) (by rw [e35]; exact Arr36.1) (State.isArrayOf_alike hZ.alike Arr36.2.1) Arr36.2.2 hinr36 hatr36 (g := (mkF m 66 #[.val (.ref a0_), .val (.int p1)] [(.int p1), (.ref (A 10)), (.ref a0_)])) rfl rfl (hb hby own_d9_66) _ ?_
    show Steps p.tables e below (T35.setTop (mkF m 67 #[.val (.ref a0_), .val (.int p1)] [(.int (G 10 (p1).toNatClampNeg)), (.ref a0_)])) _
    refine st38 _ ?_
    show Steps p.tables e below (T38.setTop (mkF m 70 #[.val (.ref a0_), .val (.int p1)] [])) _
    refine XS.aloadN Xf38.here hx rfl (hb hby own_d9_70) rfl rfl ?_
    show Steps p.tables e below (T38.setTop (mkF m 71 #[.val (.ref a0_), .val (.int p1)] [(.ref a0_)])) _
    refine st40 _ ?_
    show Steps p.tables e below (T40.setTop (mkF m 74 #[.val (.ref a0_), .val (.int p1)] [(.int (I 7))])) _
    refine XS.aloadN X40.here hx rfl (hb hby own_d9_74) rfl rfl ?_
    show Steps p.tables e below (T40.setTop (mkF m 75 #[.val (.ref a0_), .val (.int p1)] [(.ref a0_), (.int (I 7))])) _
    refine st42 _ ?_
    show Steps p.tables e below (T42.setTop (mkF m 78 #[.val (.ref a0_), .val (.int p1)] [(.ref (A 11)), (.int (I 7))])) _
    refine XS.iloadN X42.here hx rfl (hb hby own_d9_78) rfl ?_
    show Steps p.tables e below (T42.setTop (mkF m 79 #[.val (.ref a0_), .val (.int p1)] [(.int p1), (.ref (A 11)), (.int (I 7))])) _
    refine X42.iaload hx (j := p1) (v := (.int (G 11 (p1).toNatClampNeg))) (by rw [e42]; exact Arr43.1) (State.isArrayOf_alike hZ.alike Arr43.2.1) Arr43.2.2 hinr43 hatr43 (g := (mkF m 79 #[.val (.ref a0_), .val (.int p1)] [(.int p1), (.ref (A 11)), (.int (I 7))])) rfl rfl (hb hby own_d9_79) _ ?_
    show Steps p.tables e below (T42.setTop (mkF m 80 #[.val (.ref a0_), .val (.int p1)] [(.int (G 11 (p1).toNatClampNeg)), (.int (I 7))])) _
    exact q)
  have Fg45 : Fld Z h38 a0_ "com/example/hornloom/hornloom/engine/WaitList" "matched" "[Z" (.ref (A 14)) := HW38.2.2.1 14 (by decide)
  obtain ⟨T46, X46, e46, st46⟩ := getF X42 hx hZ hown (host := "") (Or.inl (hw _ (List.mem_of_getElem? (i := 27) rfl))) Via.refl e42 Fg45 (g := (mkF m 84 #[.val (.ref a0_), .val (.int p1)] [(.ref a0_)])) rfl rfl (hb hby own_d9_84)
  have Fg47 : Fld Z h38 a0_ "com/example/hornloom/hornloom/engine/WaitList" "matchedEntries" "[I" (.ref (A 3)) := HW38.2.2.1 3 (by decide)
  obtain ⟨T48, X48, e48, st48⟩ := getF X46 hx hZ hown (host := "") (Or.inl (hw _ (List.mem_of_getElem? (i := 29) rfl))) Via.refl e46 Fg47 (g := (mkF m 88 #[.val (.ref a0_), .val (.int p1)] [(.ref a0_), (.ref (A 14))])) rfl rfl (hb hby own_d9_88)
  have Fg49 : Fld Z h38 a0_ "com/example/hornloom/hornloom/engine/WaitList" "matchedCount" "I" (.int (I 7)) := HW38.2.1 7 (by decide)
  obtain ⟨T50, X50, e50, st50⟩ := getF X48 hx hZ hown (host := "") (Or.inl (hw _ (List.mem_of_getElem? (i := 83) rfl))) Via.refl e48 Fg49 (g := (mkF m 93 #[.val (.ref a0_), .val (.int p1)] [(.ref a0_), (.ref a0_), (.ref (A 3)), (.ref (A 14))])) rfl rfl (hb hby own_d9_93)
  have Fg51 : Fld Z h38 a0_ "com/example/hornloom/hornloom/engine/WaitList" "matchedCount" "I" (.int (I 7)) := HW38.2.1 7 (by decide)
  obtain ⟨T52, h52, X52, e52, W52, st52⟩ := putF X50 hx hZ hown (host := "") (Or.inl (hw _ (List.mem_of_getElem? (i := 83) rfl))) Via.refl e50 Fg51 HW38.1 (Or.inl (hw _ (List.mem_of_getElem? (i := 84) rfl))) (hw _ (List.mem_of_getElem? (i := 2) rfl)) (ty := .int) (by decide) rfl rfl (g := (mkF m 99 #[.val (.ref a0_), .val (.int p1)] [(.int ((I 7) - (1 : Int32))), (.ref a0_), (.int ((I 7) - (1 : Int32))), (.ref (A 3)), (.ref (A 14))])) rfl rfl (hb hby own_d9_99)
  have N52 := Fr.snoc X52 Nf38 HD.1
  obtain ⟨Lf52, Nf52, Xf52⟩ := own_fold X52 N52
  have HW52 : own_W Z h52 a0_ A (own_u (own_u (own_u (own_u (own_u (own_u (own_u (own_u I 0 (G 4 (p1).toNatClampNeg)) 1 (G 5 (p1).toNatClampNeg)) 2 (G 6 (p1).toNatClampNeg)) 3 (G 7 (p1).toNatClampNeg)) 4 (G 8 (p1).toNatClampNeg)) 5 (G 9 (p1).toNatClampNeg)) 6 (G 10 (p1).toNatClampNeg)) 7 ((I 7) - (1 : Int32))) G := HW38.putI HD Lw 7 (by decide) W52
  have k53 : own_To p e below T52 (mkF m 102 #[.val (.ref a0_), .val (.int p1)] [(.int ((I 7) - (1 : Int32))), (.ref (A 3)), (.ref (A 14))]) s₁ (mkF m 0 #[.val (.ref a0_), .val (.int p1)] []) := fun t q => k44 t (by
    refine XS.icmpNo X42.here hx rfl (hb hby own_d9_80) rfl (tlt hm1).2.2.2 ?_
    show Steps p.tables e below (T42.setTop (mkF m 83 #[.val (.ref a0_), .val (.int p1)] [])) _
    refine XS.aloadN X42.here hx rfl (hb hby own_d9_83) rfl rfl ?_
    show Steps p.tables e below (T42.setTop (mkF m 84 #[.val (.ref a0_), .val (.int p1)] [(.ref a0_)])) _
    refine st46 _ ?_
    show Steps p.tables e below (T46.setTop (mkF m 87 #[.val (.ref a0_), .val (.int p1)] [(.ref (A 14))])) _
    refine XS.aloadN X46.here hx rfl (hb hby own_d9_87) rfl rfl ?_
    show Steps p.tables e below (T46.setTop (mkF m 88 #[.val (.ref a0_), .val (.int p1)] [(.ref a0_), (.ref (A 14))])) _
    refine st48 _ ?_
    show Steps p.tables e below (T48.setTop (mkF m 91 #[.val (.ref a0_), .val (.int p1)] [(.ref (A 3)), (.ref (A 14))])) _
    refine XS.aloadN X48.here hx rfl (hb hby own_d9_91) rfl rfl ?_
    show Steps p.tables e below (T48.setTop (mkF m 92 #[.val (.ref a0_), .val (.int p1)] [(.ref a0_), (.ref (A 3)), (.ref (A 14))])) _
    refine XS.dup X48.here hx rfl (hb hby own_d9_92) rfl rfl ?_
    show Steps p.tables e below (T48.setTop (mkF m 93 #[.val (.ref a0_), .val (.int p1)] [(.ref a0_), (.ref a0_), (.ref (A 3)), (.ref (A 14))])) _
    refine st50 _ ?_
    show Steps p.tables e below (T50.setTop (mkF m 96 #[.val (.ref a0_), .val (.int p1)] [(.int (I 7)), (.ref a0_), (.ref (A 3)), (.ref (A 14))])) _
    refine XS.iconst X50.here hx rfl (hb hby own_d9_96) ?_
    show Steps p.tables e below (T50.setTop (mkF m 97 #[.val (.ref a0_), .val (.int p1)] [(.int (1 : Int32)), (.int (I 7)), (.ref a0_), (.ref (A 3)), (.ref (A 14))])) _
    refine XS.isub X50.here hx rfl (hb hby own_d9_97) rfl ?_
    show Steps p.tables e below (T50.setTop (mkF m 98 #[.val (.ref a0_), .val (.int p1)] [(.int ((I 7) - (1 : Int32))), (.ref a0_), (.ref (A 3)), (.ref (A 14))])) _
    refine XS.dupX1 X50.here hx rfl (hb hby own_d9_98) rfl rfl rfl ?_
    show Steps p.tables e below (T50.setTop (mkF m 99 #[.val (.ref a0_), .val (.int p1)] [(.int ((I 7) - (1 : Int32))), (.ref a0_), (.int ((I 7) - (1 : Int32))), (.ref (A 3)), (.ref (A 14))])) _
    refine st52 _ ?_
    show Steps p.tables e below (T52.setTop (mkF m 102 #[.val (.ref a0_), .val (.int p1)] [(.int ((I 7) - (1 : Int32))), (.ref (A 3)), (.ref (A 14))])) _
    exact q)
  obtain ⟨clr54, Arr54, Sr54, Mr54, Hhr54⟩ : own_B Z h52 (A 3) .int (4 : Int32) (G 3) := HW52.2.2.2.1 3 (by decide)
  have hinr54 : ¬ (((I 7) - (1 : Int32)) < 0 ∨ clr54.slots.size ≤ (((I 7) - (1 : Int32))).toNatClampNeg) := inb_of Sr54 he
  have hatr54 : clr54.slots[(((I 7) - (1 : Int32))).toNatClampNeg]? = some (.int (G 3 (((I 7) - (1 : Int32))).toNatClampNeg)) := Hhr54 _ (Nat.lt_of_not_le fun y => hinr54 (Or.inr y))
  obtain ⟨clr55, Arr55, Sr55, Mr55, Hhr55⟩ : own_B Z h52 (A 14) .boolean (4 : Int32) (G 14) := HW52.2.2.2.1 14 (by decide)
  have hinr55 : ¬ ((G 3 (((I 7) - (1 : Int32))).toNatClampNeg) < 0 ∨ clr55.slots.size ≤ ((G 3 (((I 7) - (1 : Int32))).toNatClampNeg)).toNatClampNeg) := inb_of Sr55 hxx
  obtain ⟨T56, h56, X56, e56, W56, st56⟩ := stZ Xf52 hx hZ e52 Arr55 (j := (G 3 (((I 7) - (1 : Int32))).toNatClampNeg)) hinr55 (g := (mkF m 104 #[.val (.ref a0_), .val (.int p1)] [(.int (0 : Int32)), (.int (G 3 (((I 7) - (1 : Int32))).toNatClampNeg)), (.ref (A 14))])) rfl rfl (hb hby own_d9_104)
  have N56 := Fr.snoc X56 Nf52 (HD.2.1 14 (by decide)).1
  obtain ⟨Lf56, Nf56, Xf56⟩ := own_fold X56 N56
  have HW56 : own_W Z h56 a0_ A (own_u (own_u (own_u (own_u (own_u (own_u (own_u (own_u I 0 (G 4 (p1).toNatClampNeg)) 1 (G 5 (p1).toNatClampNeg)) 2 (G 6 (p1).toNatClampNeg)) 3 (G 7 (p1).toNatClampNeg)) 4 (G 8 (p1).toNatClampNeg)) 5 (G 9 (p1).toNatClampNeg)) 6 (G 10 (p1).toNatClampNeg)) 7 ((I 7) - (1 : Int32))) (own_g G 14 ((G 3 (((I 7) - (1 : Int32))).toNatClampNeg)).toNatClampNeg (nar .boolean (0 : Int32))) := HW52.putA HD 14 (by decide) W56
  have Fg57 : Fld Z h56 a0_ "com/example/hornloom/hornloom/engine/WaitList" "matchedCount" "I" (.int ((I 7) - (1 : Int32))) := HW56.2.1 7 (by decide)
  obtain ⟨T58, X58, e58, st58⟩ := getF Xf56 hx hZ hown (host := "") (Or.inl (hw _ (List.mem_of_getElem? (i := 83) rfl))) Via.refl e56 Fg57 (g := (mkF m 71 #[.val (.ref a0_), .val (.int p1)] [(.ref a0_)])) rfl rfl (hb hby own_d9_71)
  have Fg59 : Fld Z h56 a0_ "com/example/hornloom/hornloom/engine/WaitList" "matchedMarks" "[I" (.ref (A 11)) := HW56.2.2.1 11 (by decide)
  obtain ⟨T60, X60, e60, st60⟩ := getF X58 hx hZ hown (host := "") (Or.inl (hw _ (List.mem_of_getElem? (i := 51) rfl))) Via.refl e58 Fg59 (g := (mkF m 75 #[.val (.ref a0_), .val (.int p1)] [(.ref a0_), (.int ((I 7) - (1 : Int32)))])) rfl rfl (hb hby own_d9_75)
  obtain ⟨clr61, Arr61, Sr61, Mr61, Hhr61⟩ : own_B Z h56 (A 11) .int (4 : Int32) ((own_g G 14 ((G 3 (((I 7) - (1 : Int32))).toNatClampNeg)).toNatClampNeg (nar .boolean (0 : Int32))) 11) := HW56.2.2.2.1 11 (by decide)
  have hinr61 : ¬ (p1 < 0 ∨ clr61.slots.size ≤ (p1).toNatClampNeg) := inb_of Sr61 hp
  have hatr61 : clr61.slots[(p1).toNatClampNeg]? = some (.int ((own_g G 14 ((G 3 (((I 7) - (1 : Int32))).toNatClampNeg)).toNatClampNeg (nar .boolean (0 : Int32))) 11 (p1).toNatClampNeg)) := Hhr61 _ (Nat.lt_of_not_le fun y => hinr61 (Or.inr y))
  have k62 : own_To p e below T60 (mkF m 109 #[.val (.ref a0_), .val (.int p1)] [(.ref a0_)]) s₁ (mkF m 0 #[.val (.ref a0_), .val (.int p1)] []) := fun t q => k53 t (by
    refine Xf52.iaload hx (j := ((I 7) - (1 : Int32))) (v := (.int (G 3 (((I 7) - (1 : Int32))).toNatClampNeg))) (by rw [e52]; exact Arr54.1) (State.isArrayOf_alike hZ.alike Arr54.2.1) Arr54.2.2 hinr54 hatr54 (g := (mkF m 102 #[.val (.ref a0_), .val (.int p1)] [(.int ((I 7) - (1 : Int32))), (.ref (A 3)), (.ref (A 14))])) rfl rfl (hb hby own_d9_102) _ ?_
    show Steps p.tables e below (T52.setTop (mkF m 103 #[.val (.ref a0_), .val (.int p1)] [(.int (G 3 (((I 7) - (1 : Int32))).toNatClampNeg)), (.ref (A 14))])) _
    refine XS.iconst Xf52.here hx rfl (hb hby own_d9_103) ?_
    show Steps p.tables e below (T52.setTop (mkF m 104 #[.val (.ref a0_), .val (.int p1)] [(.int (0 : Int32)), (.int (G 3 (((I 7) - (1 : Int32))).toNatClampNeg)), (.ref (A 14))])) _
    refine st56 _ ?_
    show Steps p.tables e below (T56.setTop (mkF m 105 #[.val (.ref a0_), .val (.int p1)] [])) _
    refine XS.goto Xf56.here hx rfl (pc0 := 105) (pc' := 70) rfl (hb hby own_d9_105) (by decide) (by decide) ?_
    show Steps p.tables e below (T56.setTop (mkF m 70 #[.val (.ref a0_), .val (.int p1)] [])) _
    refine XS.aloadN Xf56.here hx rfl (hb hby own_d9_70) rfl rfl ?_
    show Steps p.tables e below (T56.setTop (mkF m 71 #[.val (.ref a0_), .val (.int p1)] [(.ref a0_)])) _
    refine st58 _ ?_
    show Steps p.tables e below (T58.setTop (mkF m 74 #[.val (.ref a0_), .val (.int p1)] [(.int ((I 7) - (1 : Int32)))])) _
    refine XS.aloadN X58.here hx rfl (hb hby own_d9_74) rfl rfl ?_
    show Steps p.tables e below (T58.setTop (mkF m 75 #[.val (.ref a0_), .val (.int p1)] [(.ref a0_), (.int ((I 7) - (1 : Int32)))])) _
    refine st60 _ ?_
    show Steps p.tables e below (T60.setTop (mkF m 78 #[.val (.ref a0_), .val (.int p1)] [(.ref (A 11)), (.int ((I 7) - (1 : Int32)))])) _
    refine XS.iloadN X60.here hx rfl (hb hby own_d9_78) rfl ?_
    show Steps p.tables e below (T60.setTop (mkF m 79 #[.val (.ref a0_), .val (.int p1)] [(.int p1), (.ref (A 11)), (.int ((I 7) - (1 : Int32)))])) _
    refine X60.iaload hx (j := p1) (v := (.int ((own_g G 14 ((G 3 (((I 7) - (1 : Int32))).toNatClampNeg)).toNatClampNeg (nar .boolean (0 : Int32))) 11 (p1).toNatClampNeg))) (by rw [e60]; exact Arr61.1) (State.isArrayOf_alike hZ.alike Arr61.2.1) Arr61.2.2 hinr61 hatr61 (g := (mkF m 79 #[.val (.ref a0_), .val (.int p1)] [(.int p1), (.ref (A 11)), (.int ((I 7) - (1 : Int32)))])) rfl rfl (hb hby own_d9_79) _ ?_
    show Steps p.tables e below (T60.setTop (mkF m 80 #[.val (.ref a0_), .val (.int p1)] [(.int ((own_g G 14 ((G 3 (((I 7) - (1 : Int32))).toNatClampNeg)).toNatClampNeg (nar .boolean (0 : Int32))) 11 (p1).toNatClampNeg)), (.int ((I 7) - (1 : Int32)))])) _
    refine XS.icmpYes X60.here hx rfl (pc0 := 80) (pc' := 108) rfl (hb hby own_d9_80) rfl (flt hm2).2.2.2 (by decide) (by decide) ?_
    show Steps p.tables e below (T60.setTop (mkF m 108 #[.val (.ref a0_), .val (.int p1)] [])) _
    refine XS.aloadN X60.here hx rfl (hb hby own_d9_108) rfl rfl ?_
    show Steps p.tables e below (T60.setTop (mkF m 109 #[.val (.ref a0_), .val (.int p1)] [(.ref a0_)])) _
    exact q)
  have Fg63 : Fld Z h56 a0_ "com/example/hornloom/hornloom/engine/WaitList" "watchCount" "I" (.int (I 8)) := HW56.2.1 8 (by decide)
  obtain ⟨T64, X64, e64, st64⟩ := getF X60 hx hZ hown (host := "") (Or.inl (hw _ (List.mem_of_getElem? (i := 85) rfl))) Via.refl e60 Fg63 (g := (mkF m 109 #[.val (.ref a0_), .val (.int p1)] [(.ref a0_)])) rfl rfl (hb hby own_d9_109)
  have Fg65 : Fld Z h56 a0_ "com/example/hornloom/hornloom/engine/WaitList" "watchMarks" "[I" (.ref (A 12)) := HW56.2.2.1 12 (by decide)
  obtain ⟨T66, X66, e66, st66⟩ := getF X64 hx hZ hown (host := "") (Or.inl (hw _ (List.mem_of_getElem? (i := 53) rfl))) Via.refl e64 Fg65 (g := (mkF m 113 #[.val (.ref a0_), .val (.int p1)] [(.ref a0_), (.int (I 8))])) rfl rfl (hb hby own_d9_113)
  obtain ⟨clr67, Arr67, Sr67, Mr67, Hhr67⟩ : own_B Z h56 (A 12) .int (4 : Int32) ((own_g G 14 ((G 3 (((I 7) - (1 : Int32))).toNatClampNeg)).toNatClampNeg (nar .boolean (0 : Int32))) 12) := HW56.2.2.2.1 12 (by decide)
  have hinr67 : ¬ (p1 < 0 ∨ clr67.slots.size ≤ (p1).toNatClampNeg) := inb_of Sr67 hp
  have hatr67 : clr67.slots[(p1).toNatClampNeg]? = some (.int ((own_g G 14 ((G 3 (((I 7) - (1 : Int32))).toNatClampNeg)).toNatClampNeg (nar .boolean (0 : Int32))) 12 (p1).toNatClampNeg)) := Hhr67 _ (Nat.lt_of_not_le fun y => hinr67 (Or.inr y))
  have Fg68 : Fld Z h56 a0_ "com/example/hornloom/hornloom/engine/WaitList" "trailLookedMarks" "[I" (.ref (A 13)) := HW56.2.2.1 13 (by decide)
  obtain ⟨T69, X69, e69, st69⟩ := getF X66 hx hZ hown (host := "") (Or.inl (hw _ (List.mem_of_getElem? (i := 55) rfl))) Via.refl e66 Fg68 (g := (mkF m 159 #[.val (.ref a0_), .val (.int p1)] [(.ref a0_), (.ref a0_)])) rfl rfl (hb hby own_d9_159)
  obtain ⟨clr70, Arr70, Sr70, Mr70, Hhr70⟩ : own_B Z h56 (A 13) .int (4 : Int32) ((own_g G 14 ((G 3 (((I 7) - (1 : Int32))).toNatClampNeg)).toNatClampNeg (nar .boolean (0 : Int32))) 13) := HW56.2.2.2.1 13 (by decide)
  have hinr70 : ¬ (p1 < 0 ∨ clr70.slots.size ≤ (p1).toNatClampNeg) := inb_of Sr70 hp
  have hatr70 : clr70.slots[(p1).toNatClampNeg]? = some (.int ((own_g G 14 ((G 3 (((I 7) - (1 : Int32))).toNatClampNeg)).toNatClampNeg (nar .boolean (0 : Int32))) 13 (p1).toNatClampNeg)) := Hhr70 _ (Nat.lt_of_not_le fun y => hinr70 (Or.inr y))
  have Fg71 : Fld Z h56 a0_ "com/example/hornloom/hornloom/engine/WaitList" "trailLooked" "I" (.int (I 9)) := HW56.2.1 9 (by decide)
  obtain ⟨T72, h72, X72, e72, W72, st72⟩ := putF X69 hx hZ hown (host := "") (Or.inl (hw _ (List.mem_of_getElem? (i := 62) rfl))) Via.refl e69 Fg71 HW56.1 (Or.inl (hw _ (List.mem_of_getElem? (i := 63) rfl))) (hw _ (List.mem_of_getElem? (i := 2) rfl)) (ty := .int) (by decide) rfl rfl (g := (mkF m 164 #[.val (.ref a0_), .val (.int p1)] [(.int ((own_g G 14 ((G 3 (((I 7) - (1 : Int32))).toNatClampNeg)).toNatClampNeg (nar .boolean (0 : Int32))) 13 (p1).toNatClampNeg)), (.ref a0_)])) rfl rfl (hb hby own_d9_164)
  have N72 := Fr.snoc X72 Nf56 HD.1
  obtain ⟨Lf72, Nf72, Xf72⟩ := own_fold X72 N72
  have HW72 : own_W Z h72 a0_ A (own_u (own_u (own_u (own_u (own_u (own_u (own_u (own_u (own_u I 0 (G 4 (p1).toNatClampNeg)) 1 (G 5 (p1).toNatClampNeg)) 2 (G 6 (p1).toNatClampNeg)) 3 (G 7 (p1).toNatClampNeg)) 4 (G 8 (p1).toNatClampNeg)) 5 (G 9 (p1).toNatClampNeg)) 6 (G 10 (p1).toNatClampNeg)) 7 ((I 7) - (1 : Int32))) 9 ((own_g G 14 ((G 3 (((I 7) - (1 : Int32))).toNatClampNeg)).toNatClampNeg (nar .boolean (0 : Int32))) 13 (p1).toNatClampNeg)) (own_g G 14 ((G 3 (((I 7) - (1 : Int32))).toNatClampNeg)).toNatClampNeg (nar .boolean (0 : Int32))) := HW56.putI HD Lw 9 (by decide) W72
  have k73 : own_To p e below T72 (mkF m 167 #[.val (.ref a0_), .val (.int p1)] []) s₁ (mkF m 0 #[.val (.ref a0_), .val (.int p1)] []) := fun t q => k62 t (by
    refine st64 _ ?_
    show Steps p.tables e below (T64.setTop (mkF m 112 #[.val (.ref a0_), .val (.int p1)] [(.int (I 8))])) _
    refine XS.aloadN X64.here hx rfl (hb hby own_d9_112) rfl rfl ?_
    show Steps p.tables e below (T64.setTop (mkF m 113 #[.val (.ref a0_), .val (.int p1)] [(.ref a0_), (.int (I 8))])) _
    refine st66 _ ?_
    show Steps p.tables e below (T66.setTop (mkF m 116 #[.val (.ref a0_), .val (.int p1)] [(.ref (A 12)), (.int (I 8))])) _
    refine XS.iloadN X66.here hx rfl (hb hby own_d9_116) rfl ?_
    show Steps p.tables e below (T66.setTop (mkF m 117 #[.val (.ref a0_), .val (.int p1)] [(.int p1), (.ref (A 12)), (.int (I 8))])) _
    refine X66.iaload hx (j := p1) (v := (.int ((own_g G 14 ((G 3 (((I 7) - (1 : Int32))).toNatClampNeg)).toNatClampNeg (nar .boolean (0 : Int32))) 12 (p1).toNatClampNeg))) (by rw [e66]; exact Arr67.1) (State.isArrayOf_alike hZ.alike Arr67.2.1) Arr67.2.2 hinr67 hatr67 (g := (mkF m 117 #[.val (.ref a0_), .val (.int p1)] [(.int p1), (.ref (A 12)), (.int (I 8))])) rfl rfl (hb hby own_d9_117) _ ?_
    show Steps p.tables e below (T66.setTop (mkF m 118 #[.val (.ref a0_), .val (.int p1)] [(.int ((own_g G 14 ((G 3 (((I 7) - (1 : Int32))).toNatClampNeg)).toNatClampNeg (nar .boolean (0 : Int32))) 12 (p1).toNatClampNeg)), (.int (I 8))])) _
    refine XS.icmpYes X66.here hx rfl (pc0 := 118) (pc' := 157) rfl (hb hby own_d9_118) rfl (flt hwc).2.2.2 (by decide) (by decide) ?_
    show Steps p.tables e below (T66.setTop (mkF m 157 #[.val (.ref a0_), .val (.int p1)] [])) _
    refine XS.aloadN X66.here hx rfl (hb hby own_d9_157) rfl rfl ?_
    show Steps p.tables e below (T66.setTop (mkF m 158 #[.val (.ref a0_), .val (.int p1)] [(.ref a0_)])) _
    refine XS.aloadN X66.here hx rfl (hb hby own_d9_158) rfl rfl ?_
    show Steps p.tables e below (T66.setTop (mkF m 159 #[.val (.ref a0_), .val (.int p1)] [(.ref a0_), (.ref a0_)])) _
    refine st69 _ ?_
    show Steps p.tables e below (T69.setTop (mkF m 162 #[.val (.ref a0_), .val (.int p1)] [(.ref (A 13)), (.ref a0_)])) _
    refine XS.iloadN X69.here hx rfl (hb hby own_d9_162) rfl ?_
    show Steps p.tables e below (T69.setTop (mkF m 163 #[.val (.ref a0_), .val (.int p1)] [(.int p1), (.ref (A 13)), (.ref a0_)])) _
    refine X69.iaload hx (j := p1) (v := (.int ((own_g G 14 ((G 3 (((I 7) - (1 : Int32))).toNatClampNeg)).toNatClampNeg (nar .boolean (0 : Int32))) 13 (p1).toNatClampNeg))) (by rw [e69]; exact Arr70.1) (State.isArrayOf_alike hZ.alike Arr70.2.1) Arr70.2.2 hinr70 hatr70 (g := (mkF m 163 #[.val (.ref a0_), .val (.int p1)] [(.int p1), (.ref (A 13)), (.ref a0_)])) rfl rfl (hb hby own_d9_163) _ ?_
    show Steps p.tables e below (T69.setTop (mkF m 164 #[.val (.ref a0_), .val (.int p1)] [(.int ((own_g G 14 ((G 3 (((I 7) - (1 : Int32))).toNatClampNeg)).toNatClampNeg (nar .boolean (0 : Int32))) 13 (p1).toNatClampNeg)), (.ref a0_)])) _
    refine st72 _ ?_
    show Steps p.tables e below (T72.setTop (mkF m 167 #[.val (.ref a0_), .val (.int p1)] [])) _
    exact q)
  have K74 := ((((Keep.refl h0 [a0_, (A 0), (A 1), (A 2), (A 3), (A 4), (A 5), (A 6), (A 7), (A 8), (A 9), (A 10), (A 11), (A 12), (A 13), (A 14), (A 15)]).wr W5 (Or.inl (List.mem_of_getElem? (i := 0) rfl))).wr W10 (Or.inl (List.mem_of_getElem? (i := 0) rfl))).wr W16 (Or.inl (List.mem_of_getElem? (i := 0) rfl)))
  have K75 := (((K74.wr W21 (Or.inl (List.mem_of_getElem? (i := 0) rfl))).wr W27 (Or.inl (List.mem_of_getElem? (i := 0) rfl))).wr W32 (Or.inl (List.mem_of_getElem? (i := 0) rfl)))
  have K76 := (((K75.wr W38 (Or.inl (List.mem_of_getElem? (i := 0) rfl))).wr W52 (Or.inl (List.mem_of_getElem? (i := 0) rfl))).wr W56 (Or.inl (List.mem_of_getElem? (i := 15) rfl)))
  have K77 : Keep h0 h72 [a0_, (A 0), (A 1), (A 2), (A 3), (A 4), (A 5), (A 6), (A 7), (A 8), (A 9), (A 10), (A 11), (A 12), (A 13), (A 14), (A 15)] := (K76.wr W72 (Or.inl (List.mem_of_getElem? (i := 0) rfl)))
  obtain ⟨fs, hr, hrun, hended, hW, hsame⟩ := Xf72.leave (v := none) (fun _ => rfl)
  refine ⟨_, _, k0 _ (k73 _ ?_), hrun, hended, _, _, rfl, ?_, ⟨_, rfl⟩, hW, hsame.mono (by decide) (by decide)⟩
  · show Steps p.tables e below (T72.setTop (mkF m 167 #[.val (.ref a0_), .val (.int p1)] [])) _
    exact Xf72.returnOut hx Bd.returns (hb hby own_d9_167) hr
  · show Qrw1 Z a0_ p1 A I G h0 n0 _ T72.heap _
    rw [e72]
    exact ⟨rfl, Nf72, K77, HW72⟩
theorem own_d3_0 : decode jdk_65_method_103_code 0 = .ok (.iconst 0, 1) := by decide +kernel
theorem own_d3_1 : decode jdk_65_method_103_code 1 = .ok (.istore_n 2, 1) := by decide +kernel
theorem own_d3_2 : decode jdk_65_method_103_code 2 = .ok (.aload_n 0, 1) := by decide +kernel
theorem own_d3_3 : decode jdk_65_method_103_code 3 = .ok (.arraylength, 1) := by decide +kernel
theorem own_d3_4 : decode jdk_65_method_103_code 4 = .ok (.istore_n 3, 1) := by decide +kernel
theorem own_d3_5 : decode jdk_65_method_103_code 5 = .ok (.iload_n 2, 1) := by decide +kernel
theorem own_d3_6 : decode jdk_65_method_103_code 6 = .ok (.iload_n 3, 1) := by decide +kernel
theorem own_d3_7 : decode jdk_65_method_103_code 7 = .ok (.if_icmp .ge 13, 3) := by decide +kernel
theorem own_d3_10 : decode jdk_65_method_103_code 10 = .ok (.aload_n 0, 1) := by decide +kernel
theorem own_d3_11 : decode jdk_65_method_103_code 11 = .ok (.iload_n 2, 1) := by decide +kernel
theorem own_d3_12 : decode jdk_65_method_103_code 12 = .ok (.iload_n 1, 1) := by decide +kernel
theorem own_d3_13 : decode jdk_65_method_103_code 13 = .ok (.iastore, 1) := by decide +kernel
theorem own_d3_14 : decode jdk_65_method_103_code 14 = .ok (.iinc 2 1, 3) := by decide +kernel
theorem own_d3_17 : decode jdk_65_method_103_code 17 = .ok (.goto (-12), 3) := by decide +kernel
theorem own_d3_20 : decode jdk_65_method_103_code 20 = .ok (.return_, 1) := by decide +kernel
theorem own_pn3 : plainName "java/util/Arrays" = true := by first | (simp [plainName, overriddenIn]; done) | decide +kernel
theorem own_effill (m : MethodId) (x0 : Addr) (x1 : Int32) : entryFrame m #[(.ref x0), (.int x1)] 4 = mkF m 0 #[.val (.ref x0), .val (.int x1), .unset, .unset] [] := by first | (simp [entryFrame, mkF, argsToLocals, Value.category]; done) | rfl
def Qfill (Z : State) (a0_ : Addr) (p1 : Int32) (kc : ClassId) (h0 : Heap) (n0 : Nat) (v : Option Value) (h : Heap) (L : List Loc) : Prop := v = none ∧ Fr n0 L ∧ Keep h0 h [a0_]
set_option maxRecDepth 65536 in
set_option maxHeartbeats 40000000 in
theorem rmfill (l : Launch) (Z : State) (a0 : Array Value) (hw : ∀ d ∈ tables_1, d.before a0 Z = true) (ws : List Jvm.Cond) (a0_ : Addr) (p1 : Int32) (kc : ClassId) (h0 : Heap) (n0 : Nat) (Z0 : n0 ≤ h0.size) (V0 : Arv Z h0 a0_ kc .int (2 : Int32) [(.int (0 : Int32)), (.int (0 : Int32))] (.int (0 : Int32))) (ga : n0 ≤ a0_) :
    MetFree l (⟨"java/util/Arrays", "fill", "([II)V"⟩ : MethodName) (head1 (Jvm.Cond.code (⟨"java/util/Arrays", "fill", "([II)V"⟩ : MethodName) jdk_65_method_103_code 4 none :: ws) ({ frames := 0, cells := 0, slots := 0, locals := 0 } : Room)) (fun a U => a = #[(.ref a0_), (.int p1)] ∧ Z.Warmed39 U.vm ∧ U.heap = h0) (fun _ _ _ _ _ => True) (fun _ U o U' => ∃ v L, o = .returned v ∧ Qfill Z a0_ p1 kc h0 n0 v U'.heap L ∧ FrameEnd U o U' L ({ frames := 0, cells := 0, slots := 0, locals := 0 } : Room).cells ({ frames := 0, cells := 0, slots := 0, locals := 0 } : Room).slots) := by
  refine MetFree.of_bodySF (plainFor_of_name own_pn3) hisR ?_
  intro p e s m args below meth c s₁ Bd hml0 hP hK
  obtain ⟨rfl, hZ, hh⟩ := hP
  have hx := Bd.exec
  have hby := Bd.bytes
  have hml : c.maxLocals = 4 := hml0
  have hown : s.vm.findClass "java/util/Arrays" = some m.cls := findClass_of_methodNamed Bd.named
  have hnm := (name_of_methodNamed Bd.named Bd.method).1
  have X0 : Stand p l e ({ frames := 0, cells := 0, slots := 0, locals := 0 } : Room) s m #[(.ref a0_), (.int p1)] below meth c s₁ [] 0 0 := Stand.of_body Bd
  have e0 : s₁.heap = h0 := by rw [← hh, Bd.state]; rfl
  have N0 := Fr.nil n0
  have k0 : own_To p e below s₁ (mkF m 0 #[.val (.ref a0_), .val (.int p1), .unset, .unset] []) s₁ (entryFrame m #[(.ref a0_), (.int p1)] 4) := fun t k => castTop (own_effill m a0_ p1) k
  have ki : own_To p e below s₁ (mkF m 0 #[.val (.ref a0_), .val (.int p1), .unset, .unset] []) s₁ (mkF m 0 #[.val (.ref a0_), .val (.int p1), .unset, .unset] []) := fun t q => q
  obtain ⟨clr1, Arr1, qr1, Sr1, Mr1, Hhr1, Gr1⟩ := id V0
  obtain ⟨clr2, Arr2, qr2, Sr2, Mr2, Hhr2, Gr2⟩ := id V0
  have hinr2 : ¬ ((0 : Int32) < 0 ∨ clr2.slots.size ≤ ((0 : Int32)).toNatClampNeg) := inb_of Sr2 ⟨by decide, by decide⟩
  obtain ⟨T3, h3, X3, e3, W3, st3⟩ := stI X0 hx hZ e0 Arr2 (j := (0 : Int32)) hinr2 (g := (mkF m 13 #[.val (.ref a0_), .val (.int p1), .val (.int (0 : Int32)), .val (.int (2 : Int32))] [(.int p1), (.int (0 : Int32)), (.ref a0_)])) rfl rfl (hb hby own_d3_13)
  have N3 := Fr.snoc X3 N0 ga
  obtain ⟨Lf3, Nf3, Xf3⟩ := own_fold X3 N3
  have V3 : Arv Z h3 a0_ kc .int (2 : Int32) [(.int p1), (.int (0 : Int32))] (.int (0 : Int32)) := Arv.set Arr2 qr2 Sr2 Mr2 Hhr2 Gr2 rfl W3 0 rfl (Nat.le_of_ble_eq_true rfl)
  have k4 : own_To p e below T3 (mkF m 14 #[.val (.ref a0_), .val (.int p1), .val (.int (0 : Int32)), .val (.int (2 : Int32))] []) s₁ (mkF m 0 #[.val (.ref a0_), .val (.int p1), .unset, .unset] []) := fun t q => ki t (by
    refine XS.iconst X0.here hx rfl (hb hby own_d3_0) ?_
    show Steps p.tables e below (s₁.setTop (mkF m 1 #[.val (.ref a0_), .val (.int p1), .unset, .unset] [(.int (0 : Int32))])) _
    refine XS.istoreN X0.here hx rfl (hb hby own_d3_1) rfl (l' := #[.val (.ref a0_), .val (.int p1), .val (.int (0 : Int32)), .unset]) rfl ?_
    show Steps p.tables e below (s₁.setTop (mkF m 2 #[.val (.ref a0_), .val (.int p1), .val (.int (0 : Int32)), .unset] [])) _
    refine XS.aloadN X0.here hx rfl (hb hby own_d3_2) rfl rfl ?_
    show Steps p.tables e below (s₁.setTop (mkF m 3 #[.val (.ref a0_), .val (.int p1), .val (.int (0 : Int32)), .unset] [(.ref a0_)])) _
    refine X0.arraylength hx (by rw [e0]; exact Arr1.1) (State.isArrayOf_alike hZ.alike Arr1.2.1) (g := (mkF m 3 #[.val (.ref a0_), .val (.int p1), .val (.int (0 : Int32)), .unset] [(.ref a0_)])) rfl rfl (hb hby own_d3_3) _ ?_
    rw [len_of Sr1 Mr1]
    show Steps p.tables e below (s₁.setTop (mkF m 4 #[.val (.ref a0_), .val (.int p1), .val (.int (0 : Int32)), .unset] [(.int (2 : Int32))])) _
    refine XS.istoreN X0.here hx rfl (hb hby own_d3_4) rfl (l' := #[.val (.ref a0_), .val (.int p1), .val (.int (0 : Int32)), .val (.int (2 : Int32))]) rfl ?_
    show Steps p.tables e below (s₁.setTop (mkF m 5 #[.val (.ref a0_), .val (.int p1), .val (.int (0 : Int32)), .val (.int (2 : Int32))] [])) _
    refine XS.iloadN X0.here hx rfl (hb hby own_d3_5) rfl ?_
    show Steps p.tables e below (s₁.setTop (mkF m 6 #[.val (.ref a0_), .val (.int p1), .val (.int (0 : Int32)), .val (.int (2 : Int32))] [(.int (0 : Int32))])) _
    refine XS.iloadN X0.here hx rfl (hb hby own_d3_6) rfl ?_
    show Steps p.tables e below (s₁.setTop (mkF m 7 #[.val (.ref a0_), .val (.int p1), .val (.int (0 : Int32)), .val (.int (2 : Int32))] [(.int (2 : Int32)), (.int (0 : Int32))])) _
    refine XS.icmpNo X0.here hx rfl (hb hby own_d3_7) rfl (tlt (by decide)).2.1 ?_
    show Steps p.tables e below (s₁.setTop (mkF m 10 #[.val (.ref a0_), .val (.int p1), .val (.int (0 : Int32)), .val (.int (2 : Int32))] [])) _
    refine XS.aloadN X0.here hx rfl (hb hby own_d3_10) rfl rfl ?_
    show Steps p.tables e below (s₁.setTop (mkF m 11 #[.val (.ref a0_), .val (.int p1), .val (.int (0 : Int32)), .val (.int (2 : Int32))] [(.ref a0_)])) _
    refine XS.iloadN X0.here hx rfl (hb hby own_d3_11) rfl ?_
    show Steps p.tables e below (s₁.setTop (mkF m 12 #[.val (.ref a0_), .val (.int p1), .val (.int (0 : Int32)), .val (.int (2 : Int32))] [(.int (0 : Int32)), (.ref a0_)])) _
    refine XS.iloadN X0.here hx rfl (hb hby own_d3_12) rfl ?_
    show Steps p.tables e below (s₁.setTop (mkF m 13 #[.val (.ref a0_), .val (.int p1), .val (.int (0 : Int32)), .val (.int (2 : Int32))] [(.int p1), (.int (0 : Int32)), (.ref a0_)])) _
    refine st3 _ ?_
    show Steps p.tables e below (T3.setTop (mkF m 14 #[.val (.ref a0_), .val (.int p1), .val (.int (0 : Int32)), .val (.int (2 : Int32))] [])) _
    exact q)
  obtain ⟨clr5, Arr5, qr5, Sr5, Mr5, Hhr5, Gr5⟩ := id V3
  have hinr5 : ¬ ((1 : Int32) < 0 ∨ clr5.slots.size ≤ ((1 : Int32)).toNatClampNeg) := inb_of Sr5 ⟨by decide, by decide⟩
  obtain ⟨T6, h6, X6, e6, W6, st6⟩ := stI Xf3 hx hZ e3 Arr5 (j := (1 : Int32)) hinr5 (g := (mkF m 13 #[.val (.ref a0_), .val (.int p1), .val (.int (1 : Int32)), .val (.int (2 : Int32))] [(.int p1), (.int (1 : Int32)), (.ref a0_)])) rfl rfl (hb hby own_d3_13)
  have N6 := Fr.snoc X6 Nf3 ga
  obtain ⟨Lf6, Nf6, Xf6⟩ := own_fold X6 N6
  have V6 : Arv Z h6 a0_ kc .int (2 : Int32) [(.int p1), (.int p1)] (.int (0 : Int32)) := Arv.set Arr5 qr5 Sr5 Mr5 Hhr5 Gr5 rfl W6 1 rfl (Nat.le_of_ble_eq_true rfl)
  have k7 : own_To p e below T6 (mkF m 6 #[.val (.ref a0_), .val (.int p1), .val (.int (2 : Int32)), .val (.int (2 : Int32))] [(.int (2 : Int32))]) s₁ (mkF m 0 #[.val (.ref a0_), .val (.int p1), .unset, .unset] []) := fun t q => k4 t (by
    refine XS.iinc Xf3.here hx rfl (hb hby own_d3_14) rfl (l' := #[.val (.ref a0_), .val (.int p1), .val (.int (1 : Int32)), .val (.int (2 : Int32))]) rfl ?_
    show Steps p.tables e below (T3.setTop (mkF m 17 #[.val (.ref a0_), .val (.int p1), .val (.int (1 : Int32)), .val (.int (2 : Int32))] [])) _
    refine XS.goto Xf3.here hx rfl (pc0 := 17) (pc' := 5) rfl (hb hby own_d3_17) (by decide) (by decide) ?_
    show Steps p.tables e below (T3.setTop (mkF m 5 #[.val (.ref a0_), .val (.int p1), .val (.int (1 : Int32)), .val (.int (2 : Int32))] [])) _
    refine XS.iloadN Xf3.here hx rfl (hb hby own_d3_5) rfl ?_
    show Steps p.tables e below (T3.setTop (mkF m 6 #[.val (.ref a0_), .val (.int p1), .val (.int (1 : Int32)), .val (.int (2 : Int32))] [(.int (1 : Int32))])) _
    refine XS.iloadN Xf3.here hx rfl (hb hby own_d3_6) rfl ?_
    show Steps p.tables e below (T3.setTop (mkF m 7 #[.val (.ref a0_), .val (.int p1), .val (.int (1 : Int32)), .val (.int (2 : Int32))] [(.int (2 : Int32)), (.int (1 : Int32))])) _
    refine XS.icmpNo Xf3.here hx rfl (hb hby own_d3_7) rfl (tlt (by decide)).2.1 ?_
    show Steps p.tables e below (T3.setTop (mkF m 10 #[.val (.ref a0_), .val (.int p1), .val (.int (1 : Int32)), .val (.int (2 : Int32))] [])) _
    refine XS.aloadN Xf3.here hx rfl (hb hby own_d3_10) rfl rfl ?_
    show Steps p.tables e below (T3.setTop (mkF m 11 #[.val (.ref a0_), .val (.int p1), .val (.int (1 : Int32)), .val (.int (2 : Int32))] [(.ref a0_)])) _
    refine XS.iloadN Xf3.here hx rfl (hb hby own_d3_11) rfl ?_
    show Steps p.tables e below (T3.setTop (mkF m 12 #[.val (.ref a0_), .val (.int p1), .val (.int (1 : Int32)), .val (.int (2 : Int32))] [(.int (1 : Int32)), (.ref a0_)])) _
    refine XS.iloadN Xf3.here hx rfl (hb hby own_d3_12) rfl ?_
    show Steps p.tables e below (T3.setTop (mkF m 13 #[.val (.ref a0_), .val (.int p1), .val (.int (1 : Int32)), .val (.int (2 : Int32))] [(.int p1), (.int (1 : Int32)), (.ref a0_)])) _
    refine st6 _ ?_
    show Steps p.tables e below (T6.setTop (mkF m 14 #[.val (.ref a0_), .val (.int p1), .val (.int (1 : Int32)), .val (.int (2 : Int32))] [])) _
    refine XS.iinc Xf6.here hx rfl (hb hby own_d3_14) rfl (l' := #[.val (.ref a0_), .val (.int p1), .val (.int (2 : Int32)), .val (.int (2 : Int32))]) rfl ?_
    show Steps p.tables e below (T6.setTop (mkF m 17 #[.val (.ref a0_), .val (.int p1), .val (.int (2 : Int32)), .val (.int (2 : Int32))] [])) _
    refine XS.goto Xf6.here hx rfl (pc0 := 17) (pc' := 5) rfl (hb hby own_d3_17) (by decide) (by decide) ?_
    show Steps p.tables e below (T6.setTop (mkF m 5 #[.val (.ref a0_), .val (.int p1), .val (.int (2 : Int32)), .val (.int (2 : Int32))] [])) _
    refine XS.iloadN Xf6.here hx rfl (hb hby own_d3_5) rfl ?_
    show Steps p.tables e below (T6.setTop (mkF m 6 #[.val (.ref a0_), .val (.int p1), .val (.int (2 : Int32)), .val (.int (2 : Int32))] [(.int (2 : Int32))])) _
    exact q)
  have K8 : Keep h0 h6 [a0_] := (((Keep.refl h0 [a0_]).wr W3 (Or.inl (List.mem_of_getElem? (i := 0) rfl))).wr W6 (Or.inl (List.mem_of_getElem? (i := 0) rfl)))
  have k9 : own_To p e below T6 (mkF m 20 #[.val (.ref a0_), .val (.int p1), .val (.int (2 : Int32)), .val (.int (2 : Int32))] []) s₁ (mkF m 0 #[.val (.ref a0_), .val (.int p1), .unset, .unset] []) := fun t q => k7 t (by
    refine XS.iloadN Xf6.here hx rfl (hb hby own_d3_6) rfl ?_
    show Steps p.tables e below (T6.setTop (mkF m 7 #[.val (.ref a0_), .val (.int p1), .val (.int (2 : Int32)), .val (.int (2 : Int32))] [(.int (2 : Int32)), (.int (2 : Int32))])) _
    refine XS.icmpYes Xf6.here hx rfl (pc0 := 7) (pc' := 20) rfl (hb hby own_d3_7) rfl (flt (by decide)).2.1 (by decide) (by decide) ?_
    show Steps p.tables e below (T6.setTop (mkF m 20 #[.val (.ref a0_), .val (.int p1), .val (.int (2 : Int32)), .val (.int (2 : Int32))] [])) _
    exact q)
  obtain ⟨fs, hr, hrun, hended, hW, hsame⟩ := Xf6.leave (v := none) (fun _ => rfl)
  refine ⟨_, _, k0 _ (k9 _ ?_), hrun, hended, _, _, rfl, ?_, ⟨_, rfl⟩, hW, hsame.mono (by decide) (by decide)⟩
  · show Steps p.tables e below (T6.setTop (mkF m 20 #[.val (.ref a0_), .val (.int p1), .val (.int (2 : Int32)), .val (.int (2 : Int32))] [])) _
    exact Xf6.returnOut hx Bd.returns (hb hby own_d3_20) hr
  · show Qfill Z a0_ p1 kc h0 n0 _ T6.heap _
    rw [e6]
    exact ⟨rfl, Nf6, K8⟩
theorem own_pair (A : Nat → Addr) (h : A 0 ≠ A 1 ∧ A 0 ≠ A 2 ∧ A 0 ≠ A 3 ∧ A 0 ≠ A 4 ∧ A 0 ≠ A 5 ∧ A 0 ≠ A 6 ∧ A 0 ≠ A 7 ∧ A 0 ≠ A 8 ∧ A 0 ≠ A 9 ∧ A 0 ≠ A 10 ∧ A 0 ≠ A 11 ∧ A 0 ≠ A 12 ∧ A 0 ≠ A 13 ∧ A 0 ≠ A 14 ∧ A 0 ≠ A 15 ∧ A 1 ≠ A 2 ∧ A 1 ≠ A 3 ∧ A 1 ≠ A 4 ∧ A 1 ≠ A 5 ∧ A 1 ≠ A 6 ∧ A 1 ≠ A 7 ∧ A 1 ≠ A 8 ∧ A 1 ≠ A 9 ∧ A 1 ≠ A 10 ∧ A 1 ≠ A 11 ∧ A 1 ≠ A 12 ∧ A 1 ≠ A 13 ∧ A 1 ≠ A 14 ∧ A 1 ≠ A 15 ∧ A 2 ≠ A 3 ∧ A 2 ≠ A 4 ∧ A 2 ≠ A 5 ∧ A 2 ≠ A 6 ∧ A 2 ≠ A 7 ∧ A 2 ≠ A 8 ∧ A 2 ≠ A 9 ∧ A 2 ≠ A 10 ∧ A 2 ≠ A 11 ∧ A 2 ≠ A 12 ∧ A 2 ≠ A 13 ∧ A 2 ≠ A 14 ∧ A 2 ≠ A 15 ∧ A 3 ≠ A 4 ∧ A 3 ≠ A 5 ∧ A 3 ≠ A 6 ∧ A 3 ≠ A 7 ∧ A 3 ≠ A 8 ∧ A 3 ≠ A 9 ∧ A 3 ≠ A 10 ∧ A 3 ≠ A 11 ∧ A 3 ≠ A 12 ∧ A 3 ≠ A 13 ∧ A 3 ≠ A 14 ∧ A 3 ≠ A 15 ∧ A 4 ≠ A 5 ∧ A 4 ≠ A 6 ∧ A 4 ≠ A 7 ∧ A 4 ≠ A 8 ∧ A 4 ≠ A 9 ∧ A 4 ≠ A 10 ∧ A 4 ≠ A 11 ∧ A 4 ≠ A 12 ∧ A 4 ≠ A 13 ∧ A 4 ≠ A 14 ∧ A 4 ≠ A 15 ∧ A 5 ≠ A 6 ∧ A 5 ≠ A 7 ∧ A 5 ≠ A 8 ∧ A 5 ≠ A 9 ∧ A 5 ≠ A 10 ∧ A 5 ≠ A 11 ∧ A 5 ≠ A 12 ∧ A 5 ≠ A 13 ∧ A 5 ≠ A 14 ∧ A 5 ≠ A 15 ∧ A 6 ≠ A 7 ∧ A 6 ≠ A 8 ∧ A 6 ≠ A 9 ∧ A 6 ≠ A 10 ∧ A 6 ≠ A 11 ∧ A 6 ≠ A 12 ∧ A 6 ≠ A 13 ∧ A 6 ≠ A 14 ∧ A 6 ≠ A 15 ∧ A 7 ≠ A 8 ∧ A 7 ≠ A 9 ∧ A 7 ≠ A 10 ∧ A 7 ≠ A 11 ∧ A 7 ≠ A 12 ∧ A 7 ≠ A 13 ∧ A 7 ≠ A 14 ∧ A 7 ≠ A 15 ∧ A 8 ≠ A 9 ∧ A 8 ≠ A 10 ∧ A 8 ≠ A 11 ∧ A 8 ≠ A 12 ∧ A 8 ≠ A 13 ∧ A 8 ≠ A 14 ∧ A 8 ≠ A 15 ∧ A 9 ≠ A 10 ∧ A 9 ≠ A 11 ∧ A 9 ≠ A 12 ∧ A 9 ≠ A 13 ∧ A 9 ≠ A 14 ∧ A 9 ≠ A 15 ∧ A 10 ≠ A 11 ∧ A 10 ≠ A 12 ∧ A 10 ≠ A 13 ∧ A 10 ≠ A 14 ∧ A 10 ≠ A 15 ∧ A 11 ≠ A 12 ∧ A 11 ≠ A 13 ∧ A 11 ≠ A 14 ∧ A 11 ≠ A 15 ∧ A 12 ≠ A 13 ∧ A 12 ≠ A 14 ∧ A 12 ≠ A 15 ∧ A 13 ≠ A 14 ∧ A 13 ≠ A 15 ∧ A 14 ≠ A 15) : ∀ i j, i < 16 → j < 16 → i ≠ j → A i ≠ A j := by
  have key : ∀ i j, i < j → j < 16 → A i ≠ A j := by
    intro i j hij hj
    obtain ⟨n0_1, n0_2, n0_3, n0_4, n0_5, n0_6, n0_7, n0_8, n0_9, n0_10, n0_11, n0_12, n0_13, n0_14, n0_15, n1_2, n1_3, n1_4, n1_5, n1_6, n1_7, n1_8, n1_9, n1_10, n1_11, n1_12, n1_13, n1_14, n1_15, n2_3, n2_4, n2_5, n2_6, n2_7, n2_8, n2_9, n2_10, n2_11, n2_12, n2_13, n2_14, n2_15, n3_4, n3_5, n3_6, n3_7, n3_8, n3_9, n3_10, n3_11, n3_12, n3_13, n3_14, n3_15, n4_5, n4_6, n4_7, n4_8, n4_9, n4_10, n4_11, n4_12, n4_13, n4_14, n4_15, n5_6, n5_7, n5_8, n5_9, n5_10, n5_11, n5_12, n5_13, n5_14, n5_15, n6_7, n6_8, n6_9, n6_10, n6_11, n6_12, n6_13, n6_14, n6_15, n7_8, n7_9, n7_10, n7_11, n7_12, n7_13, n7_14, n7_15, n8_9, n8_10, n8_11, n8_12, n8_13, n8_14, n8_15, n9_10, n9_11, n9_12, n9_13, n9_14, n9_15, n10_11, n10_12, n10_13, n10_14, n10_15, n11_12, n11_13, n11_14, n11_15, n12_13, n12_14, n12_15, n13_14, n13_15, n14_15⟩ := h
    match j, hj with
    | 0, _ => match i, hij with  | n + 0, q => exact absurd q (by omega)
    | 1, _ => match i, hij with | 0, _ => exact n0_1 | n + 1, q => exact absurd q (by omega)
    | 2, _ => match i, hij with | 0, _ => exact n0_2 | 1, _ => exact n1_2 | n + 2, q => exact absurd q (by omega)
    | 3, _ => match i, hij with | 0, _ => exact n0_3 | 1, _ => exact n1_3 | 2, _ => exact n2_3 | n + 3, q => exact absurd q (by omega)
    | 4, _ => match i, hij with | 0, _ => exact n0_4 | 1, _ => exact n1_4 | 2, _ => exact n2_4 | 3, _ => exact n3_4 | n + 4, q => exact absurd q (by omega)
    | 5, _ => match i, hij with | 0, _ => exact n0_5 | 1, _ => exact n1_5 | 2, _ => exact n2_5 | 3, _ => exact n3_5 | 4, _ => exact n4_5 | n + 5, q => exact absurd q (by omega)
    | 6, _ => match i, hij with | 0, _ => exact n0_6 | 1, _ => exact n1_6 | 2, _ => exact n2_6 | 3, _ => exact n3_6 | 4, _ => exact n4_6 | 5, _ => exact n5_6 | n + 6, q => exact absurd q (by omega)
    | 7, _ => match i, hij with | 0, _ => exact n0_7 | 1, _ => exact n1_7 | 2, _ => exact n2_7 | 3, _ => exact n3_7 | 4, _ => exact n4_7 | 5, _ => exact n5_7 | 6, _ => exact n6_7 | n + 7, q => exact absurd q (by omega)
    | 8, _ => match i, hij with | 0, _ => exact n0_8 | 1, _ => exact n1_8 | 2, _ => exact n2_8 | 3, _ => exact n3_8 | 4, _ => exact n4_8 | 5, _ => exact n5_8 | 6, _ => exact n6_8 | 7, _ => exact n7_8 | n + 8, q => exact absurd q (by omega)
    | 9, _ => match i, hij with | 0, _ => exact n0_9 | 1, _ => exact n1_9 | 2, _ => exact n2_9 | 3, _ => exact n3_9 | 4, _ => exact n4_9 | 5, _ => exact n5_9 | 6, _ => exact n6_9 | 7, _ => exact n7_9 | 8, _ => exact n8_9 | n + 9, q => exact absurd q (by omega)
    | 10, _ => match i, hij with | 0, _ => exact n0_10 | 1, _ => exact n1_10 | 2, _ => exact n2_10 | 3, _ => exact n3_10 | 4, _ => exact n4_10 | 5, _ => exact n5_10 | 6, _ => exact n6_10 | 7, _ => exact n7_10 | 8, _ => exact n8_10 | 9, _ => exact n9_10 | n + 10, q => exact absurd q (by omega)
    | 11, _ => match i, hij with | 0, _ => exact n0_11 | 1, _ => exact n1_11 | 2, _ => exact n2_11 | 3, _ => exact n3_11 | 4, _ => exact n4_11 | 5, _ => exact n5_11 | 6, _ => exact n6_11 | 7, _ => exact n7_11 | 8, _ => exact n8_11 | 9, _ => exact n9_11 | 10, _ => exact n10_11 | n + 11, q => exact absurd q (by omega)
    | 12, _ => match i, hij with | 0, _ => exact n0_12 | 1, _ => exact n1_12 | 2, _ => exact n2_12 | 3, _ => exact n3_12 | 4, _ => exact n4_12 | 5, _ => exact n5_12 | 6, _ => exact n6_12 | 7, _ => exact n7_12 | 8, _ => exact n8_12 | 9, _ => exact n9_12 | 10, _ => exact n10_12 | 11, _ => exact n11_12 | n + 12, q => exact absurd q (by omega)
    | 13, _ => match i, hij with | 0, _ => exact n0_13 | 1, _ => exact n1_13 | 2, _ => exact n2_13 | 3, _ => exact n3_13 | 4, _ => exact n4_13 | 5, _ => exact n5_13 | 6, _ => exact n6_13 | 7, _ => exact n7_13 | 8, _ => exact n8_13 | 9, _ => exact n9_13 | 10, _ => exact n10_13 | 11, _ => exact n11_13 | 12, _ => exact n12_13 | n + 13, q => exact absurd q (by omega)
    | 14, _ => match i, hij with | 0, _ => exact n0_14 | 1, _ => exact n1_14 | 2, _ => exact n2_14 | 3, _ => exact n3_14 | 4, _ => exact n4_14 | 5, _ => exact n5_14 | 6, _ => exact n6_14 | 7, _ => exact n7_14 | 8, _ => exact n8_14 | 9, _ => exact n9_14 | 10, _ => exact n10_14 | 11, _ => exact n11_14 | 12, _ => exact n12_14 | 13, _ => exact n13_14 | n + 14, q => exact absurd q (by omega)
    | 15, _ => match i, hij with | 0, _ => exact n0_15 | 1, _ => exact n1_15 | 2, _ => exact n2_15 | 3, _ => exact n3_15 | 4, _ => exact n4_15 | 5, _ => exact n5_15 | 6, _ => exact n6_15 | 7, _ => exact n7_15 | 8, _ => exact n8_15 | 9, _ => exact n9_15 | 10, _ => exact n10_15 | 11, _ => exact n11_15 | 12, _ => exact n12_15 | 13, _ => exact n13_15 | 14, _ => exact n14_15 | n + 15, q => exact absurd q (by omega)
    | n + 16, hj => exact absurd hj (by omega)
  intro i j hi hj ne
  rcases Nat.lt_or_gt_of_ne ne with q | q
  · exact key i j q hj
  · exact Ne.symm (key j i q hi)
theorem own_pd7 : parseMethodDescriptor "([II)V" = some ⟨[(.array .int), .int], none⟩ := by decide +kernel
theorem own_d1_0 : decode prog_35_method_1_code 0 = .ok (.aload_n 0, 1) := by decide +kernel
theorem own_d1_1 : decode prog_35_method_1_code 1 = .ok (.invokespecial 1, 3) := by decide +kernel
theorem own_d1_4 : decode prog_35_method_1_code 4 = .ok (.aload_n 0, 1) := by decide +kernel
theorem own_d1_5 : decode prog_35_method_1_code 5 = .ok (.bipush 16, 2) := by decide +kernel
theorem own_d1_7 : decode prog_35_method_1_code 7 = .ok (.newarray .int, 2) := by decide +kernel
theorem own_d1_9 : decode prog_35_method_1_code 9 = .ok (.putfield 7, 3) := by decide +kernel
theorem own_d1_12 : decode prog_35_method_1_code 12 = .ok (.aload_n 0, 1) := by decide +kernel
theorem own_d1_13 : decode prog_35_method_1_code 13 = .ok (.bipush 16, 2) := by decide +kernel
theorem own_d1_15 : decode prog_35_method_1_code 15 = .ok (.newarray .int, 2) := by decide +kernel
theorem own_d1_17 : decode prog_35_method_1_code 17 = .ok (.putfield 13, 3) := by decide +kernel
theorem own_d1_20 : decode prog_35_method_1_code 20 = .ok (.aload_n 0, 1) := by decide +kernel
theorem own_d1_21 : decode prog_35_method_1_code 21 = .ok (.bipush 16, 2) := by decide +kernel
theorem own_d1_23 : decode prog_35_method_1_code 23 = .ok (.newarray .int, 2) := by decide +kernel
theorem own_d1_25 : decode prog_35_method_1_code 25 = .ok (.putfield 16, 3) := by decide +kernel
theorem own_d1_28 : decode prog_35_method_1_code 28 = .ok (.aload_n 0, 1) := by decide +kernel
theorem own_d1_29 : decode prog_35_method_1_code 29 = .ok (.bipush 16, 2) := by decide +kernel
theorem own_d1_31 : decode prog_35_method_1_code 31 = .ok (.newarray .int, 2) := by decide +kernel
theorem own_d1_33 : decode prog_35_method_1_code 33 = .ok (.putfield 19, 3) := by decide +kernel
theorem own_d1_36 : decode prog_35_method_1_code 36 = .ok (.aload_n 0, 1) := by decide +kernel
theorem own_d1_37 : decode prog_35_method_1_code 37 = .ok (.iload_n 1, 1) := by decide +kernel
theorem own_d1_38 : decode prog_35_method_1_code 38 = .ok (.newarray .int, 2) := by decide +kernel
theorem own_d1_40 : decode prog_35_method_1_code 40 = .ok (.putfield 22, 3) := by decide +kernel
theorem own_d1_43 : decode prog_35_method_1_code 43 = .ok (.aload_n 0, 1) := by decide +kernel
theorem own_d1_44 : decode prog_35_method_1_code 44 = .ok (.iload_n 1, 1) := by decide +kernel
theorem own_d1_45 : decode prog_35_method_1_code 45 = .ok (.newarray .int, 2) := by decide +kernel
theorem own_d1_47 : decode prog_35_method_1_code 47 = .ok (.putfield 25, 3) := by decide +kernel
theorem own_d1_50 : decode prog_35_method_1_code 50 = .ok (.aload_n 0, 1) := by decide +kernel
theorem own_d1_51 : decode prog_35_method_1_code 51 = .ok (.iload_n 1, 1) := by decide +kernel
theorem own_d1_52 : decode prog_35_method_1_code 52 = .ok (.anewarray 28, 3) := by decide +kernel
theorem own_d1_55 : decode prog_35_method_1_code 55 = .ok (.putfield 29, 3) := by decide +kernel
theorem own_d1_58 : decode prog_35_method_1_code 58 = .ok (.aload_n 0, 1) := by decide +kernel
theorem own_d1_59 : decode prog_35_method_1_code 59 = .ok (.iload_n 1, 1) := by decide +kernel
theorem own_d1_60 : decode prog_35_method_1_code 60 = .ok (.newarray .boolean, 2) := by decide +kernel
theorem own_d1_62 : decode prog_35_method_1_code 62 = .ok (.putfield 33, 3) := by decide +kernel
theorem own_d1_65 : decode prog_35_method_1_code 65 = .ok (.aload_n 0, 1) := by decide +kernel
theorem own_d1_66 : decode prog_35_method_1_code 66 = .ok (.iload_n 1, 1) := by decide +kernel
theorem own_d1_67 : decode prog_35_method_1_code 67 = .ok (.newarray .int, 2) := by decide +kernel
theorem own_d1_69 : decode prog_35_method_1_code 69 = .ok (.putfield 37, 3) := by decide +kernel
theorem own_d1_72 : decode prog_35_method_1_code 72 = .ok (.aload_n 0, 1) := by decide +kernel
theorem own_d1_73 : decode prog_35_method_1_code 73 = .ok (.iload_n 2, 1) := by decide +kernel
theorem own_d1_74 : decode prog_35_method_1_code 74 = .ok (.newarray .int, 2) := by decide +kernel
theorem own_d1_76 : decode prog_35_method_1_code 76 = .ok (.putfield 40, 3) := by decide +kernel
theorem own_d1_79 : decode prog_35_method_1_code 79 = .ok (.aload_n 0, 1) := by decide +kernel
theorem own_d1_80 : decode prog_35_method_1_code 80 = .ok (.getfield 40, 3) := by decide +kernel
theorem own_d1_83 : decode prog_35_method_1_code 83 = .ok (.iconst (-1), 1) := by decide +kernel
theorem own_d1_84 : decode prog_35_method_1_code 84 = .ok (.invokestatic 43, 3) := by decide +kernel
theorem own_d1_87 : decode prog_35_method_1_code 87 = .ok (.aload_n 0, 1) := by decide +kernel
theorem own_d1_88 : decode prog_35_method_1_code 88 = .ok (.iload_n 1, 1) := by decide +kernel
theorem own_d1_89 : decode prog_35_method_1_code 89 = .ok (.newarray .int, 2) := by decide +kernel
theorem own_d1_91 : decode prog_35_method_1_code 91 = .ok (.putfield 49, 3) := by decide +kernel
theorem own_d1_94 : decode prog_35_method_1_code 94 = .ok (.aload_n 0, 1) := by decide +kernel
theorem own_d1_95 : decode prog_35_method_1_code 95 = .ok (.iload_n 1, 1) := by decide +kernel
theorem own_d1_96 : decode prog_35_method_1_code 96 = .ok (.newarray .int, 2) := by decide +kernel
theorem own_d1_98 : decode prog_35_method_1_code 98 = .ok (.putfield 52, 3) := by decide +kernel
theorem own_d1_101 : decode prog_35_method_1_code 101 = .ok (.aload_n 0, 1) := by decide +kernel
theorem own_d1_102 : decode prog_35_method_1_code 102 = .ok (.iload_n 1, 1) := by decide +kernel
theorem own_d1_103 : decode prog_35_method_1_code 103 = .ok (.newarray .int, 2) := by decide +kernel
theorem own_d1_105 : decode prog_35_method_1_code 105 = .ok (.putfield 55, 3) := by decide +kernel
theorem own_d1_108 : decode prog_35_method_1_code 108 = .ok (.aload_n 0, 1) := by decide +kernel
theorem own_d1_109 : decode prog_35_method_1_code 109 = .ok (.iload_n 1, 1) := by decide +kernel
theorem own_d1_110 : decode prog_35_method_1_code 110 = .ok (.newarray .int, 2) := by decide +kernel
theorem own_d1_112 : decode prog_35_method_1_code 112 = .ok (.putfield 58, 3) := by decide +kernel
theorem own_d1_115 : decode prog_35_method_1_code 115 = .ok (.aload_n 0, 1) := by decide +kernel
theorem own_d1_116 : decode prog_35_method_1_code 116 = .ok (.iload_n 1, 1) := by decide +kernel
theorem own_d1_117 : decode prog_35_method_1_code 117 = .ok (.newarray .int, 2) := by decide +kernel
theorem own_d1_119 : decode prog_35_method_1_code 119 = .ok (.putfield 61, 3) := by decide +kernel
theorem own_d1_122 : decode prog_35_method_1_code 122 = .ok (.aload_n 0, 1) := by decide +kernel
theorem own_d1_123 : decode prog_35_method_1_code 123 = .ok (.iload_n 1, 1) := by decide +kernel
theorem own_d1_124 : decode prog_35_method_1_code 124 = .ok (.newarray .int, 2) := by decide +kernel
theorem own_d1_126 : decode prog_35_method_1_code 126 = .ok (.putfield 64, 3) := by decide +kernel
theorem own_d1_129 : decode prog_35_method_1_code 129 = .ok (.aload_n 0, 1) := by decide +kernel
theorem own_d1_130 : decode prog_35_method_1_code 130 = .ok (.iload_n 1, 1) := by decide +kernel
theorem own_d1_131 : decode prog_35_method_1_code 131 = .ok (.newarray .int, 2) := by decide +kernel
theorem own_d1_133 : decode prog_35_method_1_code 133 = .ok (.putfield 67, 3) := by decide +kernel
theorem own_d1_136 : decode prog_35_method_1_code 136 = .ok (.aload_n 0, 1) := by decide +kernel
theorem own_d1_137 : decode prog_35_method_1_code 137 = .ok (.iload_n 1, 1) := by decide +kernel
theorem own_d1_138 : decode prog_35_method_1_code 138 = .ok (.newarray .int, 2) := by decide +kernel
theorem own_d1_140 : decode prog_35_method_1_code 140 = .ok (.putfield 70, 3) := by decide +kernel
theorem own_d1_143 : decode prog_35_method_1_code 143 = .ok (.aload_n 0, 1) := by decide +kernel
theorem own_d1_144 : decode prog_35_method_1_code 144 = .ok (.iload_n 1, 1) := by decide +kernel
theorem own_d1_145 : decode prog_35_method_1_code 145 = .ok (.newarray .int, 2) := by decide +kernel
theorem own_d1_147 : decode prog_35_method_1_code 147 = .ok (.putfield 73, 3) := by decide +kernel
theorem own_d1_150 : decode prog_35_method_1_code 150 = .ok (.aload_n 0, 1) := by decide +kernel
theorem own_d1_151 : decode prog_35_method_1_code 151 = .ok (.iload_n 1, 1) := by decide +kernel
theorem own_d1_152 : decode prog_35_method_1_code 152 = .ok (.newarray .int, 2) := by decide +kernel
theorem own_d1_154 : decode prog_35_method_1_code 154 = .ok (.putfield 76, 3) := by decide +kernel
theorem own_d1_157 : decode prog_35_method_1_code 157 = .ok (.return_, 1) := by decide +kernel
theorem own_pn1 : plainName "com/example/hornloom/hornloom/engine/WaitList" = true := by first | (simp [plainName, overriddenIn]; done) | decide +kernel
theorem own_efct (m : MethodId) (x0 : Addr) : entryFrame m #[(.ref x0), (.int (4 : Int32)), (.int (2 : Int32))] 3 = mkF m 0 #[.val (.ref x0), .val (.int (4 : Int32)), .val (.int (2 : Int32))] [] := by first | (simp [entryFrame, mkF, argsToLocals, Value.category]; done) | rfl
def Qct (Z : State) (a0_ : Addr) (h0 : Heap) (n0 : Nat) (v : Option Value) (h : Heap) (L : List Loc) : Prop := ∃ A : Nat → Addr, v = none ∧ Fr n0 L ∧ Keep h0 h [a0_] ∧ own_W Z h a0_ A (fun _ => 0) (fun _ _ => 0) ∧ own_D n0 a0_ A
set_option maxRecDepth 65536 in
set_option maxHeartbeats 40000000 in
theorem rmct (l : Launch) (Z : State) (a0 : Array Value) (hw : ∀ d ∈ tables_1, d.before a0 Z = true) (ws : List Jvm.Cond) (a0_ : Addr) (h0 : Heap) (n0 : Nat) (Z0 : n0 ≤ h0.size) (F_readyDisjunctions : Fld Z h0 a0_ "com/example/hornloom/hornloom/engine/WaitList" "readyDisjunctions" "[I" .null) (F_watchVariables : Fld Z h0 a0_ "com/example/hornloom/hornloom/engine/WaitList" "watchVariables" "[I" .null) (F_watchEntries : Fld Z h0 a0_ "com/example/hornloom/hornloom/engine/WaitList" "watchEntries" "[I" .null) (F_earlierWatches : Fld Z h0 a0_ "com/example/hornloom/hornloom/engine/WaitList" "earlierWatches" "[I" .null) (F_builtins : Fld Z h0 a0_ "com/example/hornloom/hornloom/engine/WaitList" "builtins" "[I" .null) (F_disjunctions : Fld Z h0 a0_ "com/example/hornloom/hornloom/engine/WaitList" "disjunctions" "[I" .null) (F_awaited : Fld Z h0 a0_ "com/example/hornloom/hornloom/engine/WaitList" "awaited" "[[I" .null) (F_matched : Fld Z h0 a0_ "com/example/hornloom/hornloom/engine/WaitList" "matched" "[Z" .null) (F_matchedEntries : Fld Z h0 a0_ "com/example/hornloom/hornloom/engine/WaitList" "matchedEntries" "[I" .null) (F_latestWatches : Fld Z h0 a0_ "com/example/hornloom/hornloom/engine/WaitList" "latestWatches" "[I" .null) (F_builtinMarks : Fld Z h0 a0_ "com/example/hornloom/hornloom/engine/WaitList" "builtinMarks" "[I" .null) (F_disjunctionMarks : Fld Z h0 a0_ "com/example/hornloom/hornloom/engine/WaitList" "disjunctionMarks" "[I" .null) (F_builtinsLookedMarks : Fld Z h0 a0_ "com/example/hornloom/hornloom/engine/WaitList" "builtinsLookedMarks" "[I" .null) (F_disjunctionsLookedMarks : Fld Z h0 a0_ "com/example/hornloom/hornloom/engine/WaitList" "disjunctionsLookedMarks" "[I" .null) (F_settledMarks : Fld Z h0 a0_ "com/example/hornloom/hornloom/engine/WaitList" "settledMarks" "[I" .null) (F_readyMarks : Fld Z h0 a0_ "com/example/hornloom/hornloom/engine/WaitList" "readyMarks" "[I" .null) (F_readyTakenMarks : Fld Z h0 a0_ "com/example/hornloom/hornloom/engine/WaitList" "readyTakenMarks" "[I" .null) (F_matchedMarks : Fld Z h0 a0_ "com/example/hornloom/hornloom/engine/WaitList" "matchedMarks" "[I" .null) (F_watchMarks : Fld Z h0 a0_ "com/example/hornloom/hornloom/engine/WaitList" "watchMarks" "[I" .null) (F_trailLookedMarks : Fld Z h0 a0_ "com/example/hornloom/hornloom/engine/WaitList" "trailLookedMarks" "[I" .null) (F_trailLooked : Fld Z h0 a0_ "com/example/hornloom/hornloom/engine/WaitList" "trailLooked" "I" (.int (0 : Int32))) (F_builtinCount : Fld Z h0 a0_ "com/example/hornloom/hornloom/engine/WaitList" "builtinCount" "I" (.int (0 : Int32))) (F_disjunctionCount : Fld Z h0 a0_ "com/example/hornloom/hornloom/engine/WaitList" "disjunctionCount" "I" (.int (0 : Int32))) (F_builtinsLooked : Fld Z h0 a0_ "com/example/hornloom/hornloom/engine/WaitList" "builtinsLooked" "I" (.int (0 : Int32))) (F_disjunctionsLooked : Fld Z h0 a0_ "com/example/hornloom/hornloom/engine/WaitList" "disjunctionsLooked" "I" (.int (0 : Int32))) (F_settledDisjunctions : Fld Z h0 a0_ "com/example/hornloom/hornloom/engine/WaitList" "settledDisjunctions" "I" (.int (0 : Int32))) (F_readyCount : Fld Z h0 a0_ "com/example/hornloom/hornloom/engine/WaitList" "readyCount" "I" (.int (0 : Int32))) (F_readyTaken : Fld Z h0 a0_ "com/example/hornloom/hornloom/engine/WaitList" "readyTaken" "I" (.int (0 : Int32))) (F_matchedCount : Fld Z h0 a0_ "com/example/hornloom/hornloom/engine/WaitList" "matchedCount" "I" (.int (0 : Int32))) (F_watchCount : Fld Z h0 a0_ "com/example/hornloom/hornloom/engine/WaitList" "watchCount" "I" (.int (0 : Int32))) (E_ : Exa Z h0 a0_ "com/example/hornloom/hornloom/engine/WaitList") (g_ : n0 ≤ a0_) :
    MetFree l (⟨"com/example/hornloom/hornloom/engine/WaitList", "<init>", "(II)V"⟩ : MethodName) (head1 (Jvm.Cond.code (⟨"com/example/hornloom/hornloom/engine/WaitList", "<init>", "(II)V"⟩ : MethodName) prog_35_method_1_code 3 none :: ws) ({ frames := 1, cells := 20, slots := 126, locals := 15 } : Room)) (fun a U => a = #[(.ref a0_), (.int (4 : Int32)), (.int (2 : Int32))] ∧ Z.Warmed39 U.vm ∧ U.heap = h0) (fun _ _ _ _ _ => True) (fun _ U o U' => ∃ v L, o = .returned v ∧ Qct Z a0_ h0 n0 v U'.heap L ∧ FrameEnd U o U' L ({ frames := 1, cells := 20, slots := 126, locals := 15 } : Room).cells ({ frames := 1, cells := 20, slots := 126, locals := 15 } : Room).slots) := by
  refine MetFree.of_bodySF (plainFor_of_name own_pn1) hisR ?_
  intro p e s m args below meth c s₁ Bd hml0 hP hK
  obtain ⟨rfl, hZ, hh⟩ := hP
  have hx := Bd.exec
  have hby := Bd.bytes
  have hml : c.maxLocals = 3 := hml0
  have hown : s.vm.findClass "com/example/hornloom/hornloom/engine/WaitList" = some m.cls := findClass_of_methodNamed Bd.named
  have hnm := (name_of_methodNamed Bd.named Bd.method).1
  have X0 : Stand p l e ({ frames := 1, cells := 20, slots := 126, locals := 15 } : Room) s m #[(.ref a0_), (.int (4 : Int32)), (.int (2 : Int32))] below meth c s₁ [] 0 0 := Stand.of_body Bd
  have e0 : s₁.heap = h0 := by rw [← hh, Bd.state]; rfl
  have N0 := Fr.nil n0
  have k0 : own_To p e below s₁ (mkF m 0 #[.val (.ref a0_), .val (.int (4 : Int32)), .val (.int (2 : Int32))] []) s₁ (entryFrame m #[(.ref a0_), (.int (4 : Int32)), (.int (2 : Int32))] 3) := fun t k => castTop (own_efct m a0_) k
  have ki : own_To p e below s₁ (mkF m 0 #[.val (.ref a0_), .val (.int (4 : Int32)), .val (.int (2 : Int32))] []) s₁ (mkF m 0 #[.val (.ref a0_), .val (.int (4 : Int32)), .val (.int (2 : Int32))] []) := fun t q => q
  obtain ⟨T1, X1, e1, st1⟩ := initO X0 hx hZ hown (hw _ (List.mem_of_getElem? (i := 7) rfl)) (hw _ (List.mem_of_getElem? (i := 8) rfl)) (hw _ (List.mem_of_getElem? (i := 9) rfl)) e0 (g := (mkF m 1 #[.val (.ref a0_), .val (.int (4 : Int32)), .val (.int (2 : Int32))] [(.ref a0_)])) rfl (by rw [hml]; rfl) rfl (hb hby own_d1_1) (by decide) (W := 0) (by show 2 * 0 + _ ≤ _; exact Nat.le_of_eq rfl) (by decide)
  obtain ⟨T2, h2, kk2, X2, e2, E2, A2, st2⟩ := newP X1 hx hZ (hw _ (List.mem_of_getElem? (i := 0) rfl)) e1 (g := (mkF m 7 #[.val (.ref a0_), .val (.int (4 : Int32)), .val (.int (2 : Int32))] [(.int (16 : Int32)), (.ref a0_)])) rfl (hb hby own_d1_7) rfl (by decide) (cap := 16) (by decide) (by decide) (by decide) (by decide)
  obtain ⟨b2, g2⟩ : ∃ z, z = h0.size := ⟨_, rfl⟩
  rw [← g2] at A2 st2
  have ge_b2 : n0 ≤ b2 := Nat.le_trans Z0 (Nat.le_of_eq g2.symm)
  have K3 : Keep h0 h0 [a0_] := (Keep.refl h0 [a0_])
  have sz_b2 : h0.size ≤ b2 := Nat.le_trans K3.1 (Nat.le_of_eq g2.symm)
  have ne_a0__b2 : a0_ ≠ b2 := Nat.ne_of_lt (Nat.lt_of_lt_of_le E_.lt (Nat.le_of_eq g2.symm))
  have V2 : Arv Z h2 b2 kk2 .int (16 : Int32) [] (.int (0 : Int32)) := Arv.new A2 (by decide)
  have F4 := (F_readyDisjunctions.ext E2)
  have F5 := (E_.ext E2)
  obtain ⟨T6, h6, X6, e6, W6, st6⟩ := putF X2 hx hZ hown (host := "") (Or.inl (hw _ (List.mem_of_getElem? (i := 10) rfl))) Via.refl e2 F4 F5 (Or.inl (hw _ (List.mem_of_getElem? (i := 11) rfl))) (hw _ (List.mem_of_getElem? (i := 2) rfl)) (ty := (.array .int)) (by decide) rfl rfl (g := (mkF m 9 #[.val (.ref a0_), .val (.int (4 : Int32)), .val (.int (2 : Int32))] [(.ref b2), (.ref a0_)])) rfl rfl (hb hby own_d1_9)
  have N6 := Fr.snoc X6 N0 g_
  obtain ⟨Lf6, Nf6, Xf6⟩ := own_fold X6 N6
  have Fw6 := F4.same W6
  obtain ⟨T7, h7, kk7, X7, e7, E7, A7, st7⟩ := newP Xf6 hx hZ (hw _ (List.mem_of_getElem? (i := 0) rfl)) e6 (g := (mkF m 15 #[.val (.ref a0_), .val (.int (4 : Int32)), .val (.int (2 : Int32))] [(.int (16 : Int32)), (.ref a0_)])) rfl (hb hby own_d1_15) rfl (by decide) (cap := 16) (by decide) (by decide) (by decide) (by decide)
  obtain ⟨b7, g7⟩ : ∃ z, z = h6.size := ⟨_, rfl⟩
  rw [← g7] at A7 st7
  have K8 : Keep h0 h6 [a0_] := ((K3.ext E2).wr W6 (Or.inl (List.mem_of_getElem? (i := 0) rfl)))
  have ge_b7 : n0 ≤ b7 := Nat.le_trans (Nat.le_trans Z0 K8.1) (Nat.le_of_eq g7.symm)
  have sz_b7 : h0.size ≤ b7 := Nat.le_trans K8.1 (Nat.le_of_eq g7.symm)
  have F9 := (F5.wr W6)
  have ne_a0__b7 : a0_ ≠ b7 := Nat.ne_of_lt (Nat.lt_of_lt_of_le F9.lt (Nat.le_of_eq g7.symm))
  have F10 := (V2.other W6 (Ne.symm ne_a0__b2))
  have ne_b2_b7 : b2 ≠ b7 := Nat.ne_of_lt (Nat.lt_of_lt_of_le F10.lt (Nat.le_of_eq g7.symm))
  have V7 : Arv Z h7 b7 kk7 .int (16 : Int32) [] (.int (0 : Int32)) := Arv.new A7 (by decide)
  have F11 := (((F_watchVariables.ext E2).other W6 (Or.inr (slot_ne (Or.inl (hw _ (List.mem_of_getElem? (i := 13) rfl))) (Or.inl (hw _ (List.mem_of_getElem? (i := 11) rfl))) (by decide) (t := (.array .int)) (t' := (.array .int)) (by decide) (by decide)))).ext E7)
  have F12 := (F9.ext E7)
  obtain ⟨T13, h13, X13, e13, W13, st13⟩ := putF X7 hx hZ hown (host := "") (Or.inl (hw _ (List.mem_of_getElem? (i := 12) rfl))) Via.refl e7 F11 F12 (Or.inl (hw _ (List.mem_of_getElem? (i := 13) rfl))) (hw _ (List.mem_of_getElem? (i := 2) rfl)) (ty := (.array .int)) (by decide) rfl rfl (g := (mkF m 17 #[.val (.ref a0_), .val (.int (4 : Int32)), .val (.int (2 : Int32))] [(.ref b7), (.ref a0_)])) rfl rfl (hb hby own_d1_17)
  have N13 := Fr.snoc X13 Nf6 g_
  obtain ⟨Lf13, Nf13, Xf13⟩ := own_fold X13 N13
  have Fw13 := F11.same W13
  have k14 : own_To p e below T13 (mkF m 23 #[.val (.ref a0_), .val (.int (4 : Int32)), .val (.int (2 : Int32))] [(.int (16 : Int32)), (.ref a0_)]) s₁ (mkF m 0 #[.val (.ref a0_), .val (.int (4 : Int32)), .val (.int (2 : Int32))] []) := fun t q => ki t (by
    refine XS.aloadN X0.here hx rfl (hb hby own_d1_0) rfl rfl ?_
    show Steps p.tables e below (s₁.setTop (mkF m 1 #[.val (.ref a0_), .val (.int (4 : Int32)), .val (.int (2 : Int32))] [(.ref a0_)])) _
    refine st1 _ ?_
    show Steps p.tables e below (T1.setTop (mkF m 4 #[.val (.ref a0_), .val (.int (4 : Int32)), .val (.int (2 : Int32))] [])) _
    refine XS.aloadN X1.here hx rfl (hb hby own_d1_4) rfl rfl ?_
    show Steps p.tables e below (T1.setTop (mkF m 5 #[.val (.ref a0_), .val (.int (4 : Int32)), .val (.int (2 : Int32))] [(.ref a0_)])) _
    refine XS.bipush X1.here hx rfl (hb hby own_d1_5) ?_
    show Steps p.tables e below (T1.setTop (mkF m 7 #[.val (.ref a0_), .val (.int (4 : Int32)), .val (.int (2 : Int32))] [(.int (16 : Int32)), (.ref a0_)])) _
    refine st2 _ ?_
    show Steps p.tables e below (T2.setTop (mkF m 9 #[.val (.ref a0_), .val (.int (4 : Int32)), .val (.int (2 : Int32))] [(.ref b2), (.ref a0_)])) _
    refine st6 _ ?_
    show Steps p.tables e below (T6.setTop (mkF m 12 #[.val (.ref a0_), .val (.int (4 : Int32)), .val (.int (2 : Int32))] [])) _
    refine XS.aloadN Xf6.here hx rfl (hb hby own_d1_12) rfl rfl ?_
    show Steps p.tables e below (T6.setTop (mkF m 13 #[.val (.ref a0_), .val (.int (4 : Int32)), .val (.int (2 : Int32))] [(.ref a0_)])) _
    refine XS.bipush Xf6.here hx rfl (hb hby own_d1_13) ?_
    show Steps p.tables e below (T6.setTop (mkF m 15 #[.val (.ref a0_), .val (.int (4 : Int32)), .val (.int (2 : Int32))] [(.int (16 : Int32)), (.ref a0_)])) _
    refine st7 _ ?_
    show Steps p.tables e below (T7.setTop (mkF m 17 #[.val (.ref a0_), .val (.int (4 : Int32)), .val (.int (2 : Int32))] [(.ref b7), (.ref a0_)])) _
    refine st13 _ ?_
    show Steps p.tables e below (T13.setTop (mkF m 20 #[.val (.ref a0_), .val (.int (4 : Int32)), .val (.int (2 : Int32))] [])) _
    refine XS.aloadN Xf13.here hx rfl (hb hby own_d1_20) rfl rfl ?_
    show Steps p.tables e below (T13.setTop (mkF m 21 #[.val (.ref a0_), .val (.int (4 : Int32)), .val (.int (2 : Int32))] [(.ref a0_)])) _
    refine XS.bipush Xf13.here hx rfl (hb hby own_d1_21) ?_
    show Steps p.tables e below (T13.setTop (mkF m 23 #[.val (.ref a0_), .val (.int (4 : Int32)), .val (.int (2 : Int32))] [(.int (16 : Int32)), (.ref a0_)])) _
    exact q)
  obtain ⟨T15, h15, kk15, X15, e15, E15, A15, st15⟩ := newP Xf13 hx hZ (hw _ (List.mem_of_getElem? (i := 0) rfl)) e13 (g := (mkF m 23 #[.val (.ref a0_), .val (.int (4 : Int32)), .val (.int (2 : Int32))] [(.int (16 : Int32)), (.ref a0_)])) rfl (hb hby own_d1_23) rfl (by decide) (cap := 16) (by decide) (by decide) (by decide) (by decide)
  obtain ⟨b15, g15⟩ : ∃ z, z = h13.size := ⟨_, rfl⟩
  rw [← g15] at A15 st15
  have K16 : Keep h0 h13 [a0_] := ((K8.ext E7).wr W13 (Or.inl (List.mem_of_getElem? (i := 0) rfl)))
  have ge_b15 : n0 ≤ b15 := Nat.le_trans (Nat.le_trans Z0 K16.1) (Nat.le_of_eq g15.symm)
  have sz_b15 : h0.size ≤ b15 := Nat.le_trans K16.1 (Nat.le_of_eq g15.symm)
  have F17 := (F12.wr W13)
  have ne_a0__b15 : a0_ ≠ b15 := Nat.ne_of_lt (Nat.lt_of_lt_of_le F17.lt (Nat.le_of_eq g15.symm))
  have F18 := ((F10.ext E7).other W13 (Ne.symm ne_a0__b2))
  have ne_b2_b15 : b2 ≠ b15 := Nat.ne_of_lt (Nat.lt_of_lt_of_le F18.lt (Nat.le_of_eq g15.symm))
  have F19 := (V7.other W13 (Ne.symm ne_a0__b7))
  have ne_b7_b15 : b7 ≠ b15 := Nat.ne_of_lt (Nat.lt_of_lt_of_le F19.lt (Nat.le_of_eq g15.symm))
  have V15 : Arv Z h15 b15 kk15 .int (16 : Int32) [] (.int (0 : Int32)) := Arv.new A15 (by decide)
  have F20 := (((F_watchEntries.ext E2).other W6 (Or.inr (slot_ne (Or.inl (hw _ (List.mem_of_getElem? (i := 15) rfl))) (Or.inl (hw _ (List.mem_of_getElem? (i := 11) rfl))) (by decide) (t := (.array .int)) (t' := (.array .int)) (by decide) (by decide)))).ext E7)
  have F21 := ((F20.other W13 (Or.inr (slot_ne (Or.inl (hw _ (List.mem_of_getElem? (i := 15) rfl))) (Or.inl (hw _ (List.mem_of_getElem? (i := 13) rfl))) (by decide) (t := (.array .int)) (t' := (.array .int)) (by decide) (by decide)))).ext E15)
  have F22 := (F17.ext E15)
  obtain ⟨T23, h23, X23, e23, W23, st23⟩ := putF X15 hx hZ hown (host := "") (Or.inl (hw _ (List.mem_of_getElem? (i := 14) rfl))) Via.refl e15 F21 F22 (Or.inl (hw _ (List.mem_of_getElem? (i := 15) rfl))) (hw _ (List.mem_of_getElem? (i := 2) rfl)) (ty := (.array .int)) (by decide) rfl rfl (g := (mkF m 25 #[.val (.ref a0_), .val (.int (4 : Int32)), .val (.int (2 : Int32))] [(.ref b15), (.ref a0_)])) rfl rfl (hb hby own_d1_25)
  have N23 := Fr.snoc X23 Nf13 g_
  obtain ⟨Lf23, Nf23, Xf23⟩ := own_fold X23 N23
  have Fw23 := F21.same W23
  obtain ⟨T24, h24, kk24, X24, e24, E24, A24, st24⟩ := newP Xf23 hx hZ (hw _ (List.mem_of_getElem? (i := 0) rfl)) e23 (g := (mkF m 31 #[.val (.ref a0_), .val (.int (4 : Int32)), .val (.int (2 : Int32))] [(.int (16 : Int32)), (.ref a0_)])) rfl (hb hby own_d1_31) rfl (by decide) (cap := 16) (by decide) (by decide) (by decide) (by decide)
  obtain ⟨b24, g24⟩ : ∃ z, z = h23.size := ⟨_, rfl⟩
  rw [← g24] at A24 st24
  have K25 : Keep h0 h23 [a0_] := ((K16.ext E15).wr W23 (Or.inl (List.mem_of_getElem? (i := 0) rfl)))
  have ge_b24 : n0 ≤ b24 := Nat.le_trans (Nat.le_trans Z0 K25.1) (Nat.le_of_eq g24.symm)
  have sz_b24 : h0.size ≤ b24 := Nat.le_trans K25.1 (Nat.le_of_eq g24.symm)
  have F26 := (F22.wr W23)
  have ne_a0__b24 : a0_ ≠ b24 := Nat.ne_of_lt (Nat.lt_of_lt_of_le F26.lt (Nat.le_of_eq g24.symm))
  have F27 := ((F18.ext E15).other W23 (Ne.symm ne_a0__b2))
  have ne_b2_b24 : b2 ≠ b24 := Nat.ne_of_lt (Nat.lt_of_lt_of_le F27.lt (Nat.le_of_eq g24.symm))
  have F28 := ((F19.ext E15).other W23 (Ne.symm ne_a0__b7))
  have ne_b7_b24 : b7 ≠ b24 := Nat.ne_of_lt (Nat.lt_of_lt_of_le F28.lt (Nat.le_of_eq g24.symm))
  have F29 := (V15.other W23 (Ne.symm ne_a0__b15))
  have ne_b15_b24 : b15 ≠ b24 := Nat.ne_of_lt (Nat.lt_of_lt_of_le F29.lt (Nat.le_of_eq g24.symm))
  have V24 : Arv Z h24 b24 kk24 .int (16 : Int32) [] (.int (0 : Int32)) := Arv.new A24 (by decide)
  have F30 := (((F_earlierWatches.ext E2).other W6 (Or.inr (slot_ne (Or.inl (hw _ (List.mem_of_getElem? (i := 17) rfl))) (Or.inl (hw _ (List.mem_of_getElem? (i := 11) rfl))) (by decide) (t := (.array .int)) (t' := (.array .int)) (by decide) (by decide)))).ext E7)
  have F31 := (((F30.other W13 (Or.inr (slot_ne (Or.inl (hw _ (List.mem_of_getElem? (i := 17) rfl))) (Or.inl (hw _ (List.mem_of_getElem? (i := 13) rfl))) (by decide) (t := (.array .int)) (t' := (.array .int)) (by decide) (by decide)))).ext E15).other W23 (Or.inr (slot_ne (Or.inl (hw _ (List.mem_of_getElem? (i := 17) rfl))) (Or.inl (hw _ (List.mem_of_getElem? (i := 15) rfl))) (by decide) (t := (.array .int)) (t' := (.array .int)) (by decide) (by decide))))
  have F32 := (F31.ext E24)
  have F33 := (F26.ext E24)
  obtain ⟨T34, h34, X34, e34, W34, st34⟩ := putF X24 hx hZ hown (host := "") (Or.inl (hw _ (List.mem_of_getElem? (i := 16) rfl))) Via.refl e24 F32 F33 (Or.inl (hw _ (List.mem_of_getElem? (i := 17) rfl))) (hw _ (List.mem_of_getElem? (i := 2) rfl)) (ty := (.array .int)) (by decide) rfl rfl (g := (mkF m 33 #[.val (.ref a0_), .val (.int (4 : Int32)), .val (.int (2 : Int32))] [(.ref b24), (.ref a0_)])) rfl rfl (hb hby own_d1_33)
  have N34 := Fr.snoc X34 Nf23 g_
  obtain ⟨Lf34, Nf34, Xf34⟩ := own_fold X34 N34
  have Fw34 := F32.same W34
  obtain ⟨T35, h35, kk35, X35, e35, E35, A35, st35⟩ := newP Xf34 hx hZ (hw _ (List.mem_of_getElem? (i := 0) rfl)) e34 (g := (mkF m 38 #[.val (.ref a0_), .val (.int (4 : Int32)), .val (.int (2 : Int32))] [(.int (4 : Int32)), (.ref a0_)])) rfl (hb hby own_d1_38) rfl (by decide) (cap := 4) (by decide) (by decide) (by decide) (by decide)
  obtain ⟨b35, g35⟩ : ∃ z, z = h34.size := ⟨_, rfl⟩
  rw [← g35] at A35 st35
  have K36 : Keep h0 h34 [a0_] := ((K25.ext E24).wr W34 (Or.inl (List.mem_of_getElem? (i := 0) rfl)))
  have ge_b35 : n0 ≤ b35 := Nat.le_trans (Nat.le_trans Z0 K36.1) (Nat.le_of_eq g35.symm)
  have sz_b35 : h0.size ≤ b35 := Nat.le_trans K36.1 (Nat.le_of_eq g35.symm)
  have F37 := (F33.wr W34)
  have ne_a0__b35 : a0_ ≠ b35 := Nat.ne_of_lt (Nat.lt_of_lt_of_le F37.lt (Nat.le_of_eq g35.symm))
  have F38 := ((F27.ext E24).other W34 (Ne.symm ne_a0__b2))
  have ne_b2_b35 : b2 ≠ b35 := Nat.ne_of_lt (Nat.lt_of_lt_of_le F38.lt (Nat.le_of_eq g35.symm))
  have F39 := ((F28.ext E24).other W34 (Ne.symm ne_a0__b7))
  have ne_b7_b35 : b7 ≠ b35 := Nat.ne_of_lt (Nat.lt_of_lt_of_le F39.lt (Nat.le_of_eq g35.symm))
  have F40 := ((F29.ext E24).other W34 (Ne.symm ne_a0__b15))
  have ne_b15_b35 : b15 ≠ b35 := Nat.ne_of_lt (Nat.lt_of_lt_of_le F40.lt (Nat.le_of_eq g35.symm))
  have F41 := (V24.other W34 (Ne.symm ne_a0__b24))
  have ne_b24_b35 : b24 ≠ b35 := Nat.ne_of_lt (Nat.lt_of_lt_of_le F41.lt (Nat.le_of_eq g35.symm))
  have V35 : Arv Z h35 b35 kk35 .int (4 : Int32) [] (.int (0 : Int32)) := Arv.new A35 (by decide)
  have F42 := (((F_builtins.ext E2).other W6 (Or.inr (slot_ne (Or.inl (hw _ (List.mem_of_getElem? (i := 19) rfl))) (Or.inl (hw _ (List.mem_of_getElem? (i := 11) rfl))) (by decide) (t := (.array .int)) (t' := (.array .int)) (by decide) (by decide)))).ext E7)
  have F43 := (((F42.other W13 (Or.inr (slot_ne (Or.inl (hw _ (List.mem_of_getElem? (i := 19) rfl))) (Or.inl (hw _ (List.mem_of_getElem? (i := 13) rfl))) (by decide) (t := (.array .int)) (t' := (.array .int)) (by decide) (by decide)))).ext E15).other W23 (Or.inr (slot_ne (Or.inl (hw _ (List.mem_of_getElem? (i := 19) rfl))) (Or.inl (hw _ (List.mem_of_getElem? (i := 15) rfl))) (by decide) (t := (.array .int)) (t' := (.array .int)) (by decide) (by decide))))
  have F44 := (((F43.ext E24).other W34 (Or.inr (slot_ne (Or.inl (hw _ (List.mem_of_getElem? (i := 19) rfl))) (Or.inl (hw _ (List.mem_of_getElem? (i := 17) rfl))) (by decide) (t := (.array .int)) (t' := (.array .int)) (by decide) (by decide)))).ext E35)
  have F45 := (F37.ext E35)
  obtain ⟨T46, h46, X46, e46, W46, st46⟩ := putF X35 hx hZ hown (host := "") (Or.inl (hw _ (List.mem_of_getElem? (i := 18) rfl))) Via.refl e35 F44 F45 (Or.inl (hw _ (List.mem_of_getElem? (i := 19) rfl))) (hw _ (List.mem_of_getElem? (i := 2) rfl)) (ty := (.array .int)) (by decide) rfl rfl (g := (mkF m 40 #[.val (.ref a0_), .val (.int (4 : Int32)), .val (.int (2 : Int32))] [(.ref b35), (.ref a0_)])) rfl rfl (hb hby own_d1_40)
  have N46 := Fr.snoc X46 Nf34 g_
  obtain ⟨Lf46, Nf46, Xf46⟩ := own_fold X46 N46
  have Fw46 := F44.same W46
  have k47 : own_To p e below T46 (mkF m 45 #[.val (.ref a0_), .val (.int (4 : Int32)), .val (.int (2 : Int32))] [(.int (4 : Int32)), (.ref a0_)]) s₁ (mkF m 0 #[.val (.ref a0_), .val (.int (4 : Int32)), .val (.int (2 : Int32))] []) := fun t q => k14 t (by
    refine st15 _ ?_
    show Steps p.tables e below (T15.setTop (mkF m 25 #[.val (.ref a0_), .val (.int (4 : Int32)), .val (.int (2 : Int32))] [(.ref b15), (.ref a0_)])) _
    refine st23 _ ?_
    show Steps p.tables e below (T23.setTop (mkF m 28 #[.val (.ref a0_), .val (.int (4 : Int32)), .val (.int (2 : Int32))] [])) _
    refine XS.aloadN Xf23.here hx rfl (hb hby own_d1_28) rfl rfl ?_
    show Steps p.tables e below (T23.setTop (mkF m 29 #[.val (.ref a0_), .val (.int (4 : Int32)), .val (.int (2 : Int32))] [(.ref a0_)])) _
    refine XS.bipush Xf23.here hx rfl (hb hby own_d1_29) ?_
    show Steps p.tables e below (T23.setTop (mkF m 31 #[.val (.ref a0_), .val (.int (4 : Int32)), .val (.int (2 : Int32))] [(.int (16 : Int32)), (.ref a0_)])) _
    refine st24 _ ?_
    show Steps p.tables e below (T24.setTop (mkF m 33 #[.val (.ref a0_), .val (.int (4 : Int32)), .val (.int (2 : Int32))] [(.ref b24), (.ref a0_)])) _
    refine st34 _ ?_
    show Steps p.tables e below (T34.setTop (mkF m 36 #[.val (.ref a0_), .val (.int (4 : Int32)), .val (.int (2 : Int32))] [])) _
    refine XS.aloadN Xf34.here hx rfl (hb hby own_d1_36) rfl rfl ?_
    show Steps p.tables e below (T34.setTop (mkF m 37 #[.val (.ref a0_), .val (.int (4 : Int32)), .val (.int (2 : Int32))] [(.ref a0_)])) _
    refine XS.iloadN Xf34.here hx rfl (hb hby own_d1_37) rfl ?_
    show Steps p.tables e below (T34.setTop (mkF m 38 #[.val (.ref a0_), .val (.int (4 : Int32)), .val (.int (2 : Int32))] [(.int (4 : Int32)), (.ref a0_)])) _
    refine st35 _ ?_
    show Steps p.tables e below (T35.setTop (mkF m 40 #[.val (.ref a0_), .val (.int (4 : Int32)), .val (.int (2 : Int32))] [(.ref b35), (.ref a0_)])) _
    refine st46 _ ?_
    show Steps p.tables e below (T46.setTop (mkF m 43 #[.val (.ref a0_), .val (.int (4 : Int32)), .val (.int (2 : Int32))] [])) _
    refine XS.aloadN Xf46.here hx rfl (hb hby own_d1_43) rfl rfl ?_
    show Steps p.tables e below (T46.setTop (mkF m 44 #[.val (.ref a0_), .val (.int (4 : Int32)), .val (.int (2 : Int32))] [(.ref a0_)])) _
    refine XS.iloadN Xf46.here hx rfl (hb hby own_d1_44) rfl ?_
    show Steps p.tables e below (T46.setTop (mkF m 45 #[.val (.ref a0_), .val (.int (4 : Int32)), .val (.int (2 : Int32))] [(.int (4 : Int32)), (.ref a0_)])) _
    exact q)
  obtain ⟨T48, h48, kk48, X48, e48, E48, A48, st48⟩ := newP Xf46 hx hZ (hw _ (List.mem_of_getElem? (i := 0) rfl)) e46 (g := (mkF m 45 #[.val (.ref a0_), .val (.int (4 : Int32)), .val (.int (2 : Int32))] [(.int (4 : Int32)), (.ref a0_)])) rfl (hb hby own_d1_45) rfl (by decide) (cap := 4) (by decide) (by decide) (by decide) (by decide)
  obtain ⟨b48, g48⟩ : ∃ z, z = h46.size := ⟨_, rfl⟩
  rw [← g48] at A48 st48
  have K49 : Keep h0 h46 [a0_] := ((K36.ext E35).wr W46 (Or.inl (List.mem_of_getElem? (i := 0) rfl)))
  have ge_b48 : n0 ≤ b48 := Nat.le_trans (Nat.le_trans Z0 K49.1) (Nat.le_of_eq g48.symm)
  have sz_b48 : h0.size ≤ b48 := Nat.le_trans K49.1 (Nat.le_of_eq g48.symm)
  have F50 := (F45.wr W46)
  have ne_a0__b48 : a0_ ≠ b48 := Nat.ne_of_lt (Nat.lt_of_lt_of_le F50.lt (Nat.le_of_eq g48.symm))
  have F51 := ((F38.ext E35).other W46 (Ne.symm ne_a0__b2))
  have ne_b2_b48 : b2 ≠ b48 := Nat.ne_of_lt (Nat.lt_of_lt_of_le F51.lt (Nat.le_of_eq g48.symm))
  have F52 := ((F39.ext E35).other W46 (Ne.symm ne_a0__b7))
  have ne_b7_b48 : b7 ≠ b48 := Nat.ne_of_lt (Nat.lt_of_lt_of_le F52.lt (Nat.le_of_eq g48.symm))
  have F53 := ((F40.ext E35).other W46 (Ne.symm ne_a0__b15))
  have ne_b15_b48 : b15 ≠ b48 := Nat.ne_of_lt (Nat.lt_of_lt_of_le F53.lt (Nat.le_of_eq g48.symm))
  have F54 := ((F41.ext E35).other W46 (Ne.symm ne_a0__b24))
  have ne_b24_b48 : b24 ≠ b48 := Nat.ne_of_lt (Nat.lt_of_lt_of_le F54.lt (Nat.le_of_eq g48.symm))
  have F55 := (V35.other W46 (Ne.symm ne_a0__b35))
  have ne_b35_b48 : b35 ≠ b48 := Nat.ne_of_lt (Nat.lt_of_lt_of_le F55.lt (Nat.le_of_eq g48.symm))
  have V48 : Arv Z h48 b48 kk48 .int (4 : Int32) [] (.int (0 : Int32)) := Arv.new A48 (by decide)
  have F56 := (((F_disjunctions.ext E2).other W6 (Or.inr (slot_ne (Or.inl (hw _ (List.mem_of_getElem? (i := 21) rfl))) (Or.inl (hw _ (List.mem_of_getElem? (i := 11) rfl))) (by decide) (t := (.array .int)) (t' := (.array .int)) (by decide) (by decide)))).ext E7)
  have F57 := (((F56.other W13 (Or.inr (slot_ne (Or.inl (hw _ (List.mem_of_getElem? (i := 21) rfl))) (Or.inl (hw _ (List.mem_of_getElem? (i := 13) rfl))) (by decide) (t := (.array .int)) (t' := (.array .int)) (by decide) (by decide)))).ext E15).other W23 (Or.inr (slot_ne (Or.inl (hw _ (List.mem_of_getElem? (i := 21) rfl))) (Or.inl (hw _ (List.mem_of_getElem? (i := 15) rfl))) (by decide) (t := (.array .int)) (t' := (.array .int)) (by decide) (by decide))))
  have F58 := (((F57.ext E24).other W34 (Or.inr (slot_ne (Or.inl (hw _ (List.mem_of_getElem? (i := 21) rfl))) (Or.inl (hw _ (List.mem_of_getElem? (i := 17) rfl))) (by decide) (t := (.array .int)) (t' := (.array .int)) (by decide) (by decide)))).ext E35)
  have F59 := ((F58.other W46 (Or.inr (slot_ne (Or.inl (hw _ (List.mem_of_getElem? (i := 21) rfl))) (Or.inl (hw _ (List.mem_of_getElem? (i := 19) rfl))) (by decide) (t := (.array .int)) (t' := (.array .int)) (by decide) (by decide)))).ext E48)
  have F60 := (F50.ext E48)
  obtain ⟨T61, h61, X61, e61, W61, st61⟩ := putF X48 hx hZ hown (host := "") (Or.inl (hw _ (List.mem_of_getElem? (i := 20) rfl))) Via.refl e48 F59 F60 (Or.inl (hw _ (List.mem_of_getElem? (i := 21) rfl))) (hw _ (List.mem_of_getElem? (i := 2) rfl)) (ty := (.array .int)) (by decide) rfl rfl (g := (mkF m 47 #[.val (.ref a0_), .val (.int (4 : Int32)), .val (.int (2 : Int32))] [(.ref b48), (.ref a0_)])) rfl rfl (hb hby own_d1_47)
  have N61 := Fr.snoc X61 Nf46 g_
  obtain ⟨Lf61, Nf61, Xf61⟩ := own_fold X61 N61
  have Fw61 := F59.same W61
  obtain ⟨T62, h62, kk62, X62, e62, E62, A62, EA62, O62, st62⟩ := newRA Xf61 hx hZ (ty := .int) hown rfl (hw _ (List.mem_of_getElem? (i := 22) rfl)) (hw _ (List.mem_of_getElem? (i := 23) rfl)) e61 (g := (mkF m 52 #[.val (.ref a0_), .val (.int (4 : Int32)), .val (.int (2 : Int32))] [(.int (4 : Int32)), (.ref a0_)])) rfl (hb hby own_d1_52) rfl (by decide) (cap := 4) (by decide) (by decide) (by decide) (by decide) (ad := "[[I") rfl
  obtain ⟨b62, g62⟩ : ∃ z, z = h61.size := ⟨_, rfl⟩
  rw [← g62] at A62 EA62 st62
  have K63 : Keep h0 h61 [a0_] := ((K49.ext E48).wr W61 (Or.inl (List.mem_of_getElem? (i := 0) rfl)))
  have ge_b62 : n0 ≤ b62 := Nat.le_trans (Nat.le_trans Z0 K63.1) (Nat.le_of_eq g62.symm)
  have sz_b62 : h0.size ≤ b62 := Nat.le_trans K63.1 (Nat.le_of_eq g62.symm)
  have F64 := (F60.wr W61)
  have ne_a0__b62 : a0_ ≠ b62 := Nat.ne_of_lt (Nat.lt_of_lt_of_le F64.lt (Nat.le_of_eq g62.symm))
  have F65 := ((F51.ext E48).other W61 (Ne.symm ne_a0__b2))
  have ne_b2_b62 : b2 ≠ b62 := Nat.ne_of_lt (Nat.lt_of_lt_of_le F65.lt (Nat.le_of_eq g62.symm))
  have F66 := ((F52.ext E48).other W61 (Ne.symm ne_a0__b7))
  have ne_b7_b62 : b7 ≠ b62 := Nat.ne_of_lt (Nat.lt_of_lt_of_le F66.lt (Nat.le_of_eq g62.symm))
  have F67 := ((F53.ext E48).other W61 (Ne.symm ne_a0__b15))
  have ne_b15_b62 : b15 ≠ b62 := Nat.ne_of_lt (Nat.lt_of_lt_of_le F67.lt (Nat.le_of_eq g62.symm))
  have F68 := ((F54.ext E48).other W61 (Ne.symm ne_a0__b24))
  have ne_b24_b62 : b24 ≠ b62 := Nat.ne_of_lt (Nat.lt_of_lt_of_le F68.lt (Nat.le_of_eq g62.symm))
  have F69 := ((F55.ext E48).other W61 (Ne.symm ne_a0__b35))
  have ne_b35_b62 : b35 ≠ b62 := Nat.ne_of_lt (Nat.lt_of_lt_of_le F69.lt (Nat.le_of_eq g62.symm))
  have F70 := (V48.other W61 (Ne.symm ne_a0__b48))
  have ne_b48_b62 : b48 ≠ b62 := Nat.ne_of_lt (Nat.lt_of_lt_of_le F70.lt (Nat.le_of_eq g62.symm))
  have V62 : Arv Z h62 b62 kk62 (.array .int) (4 : Int32) [] .null := Arv.new A62 (by decide)
  have F71 := (((F_awaited.ext E2).other W6 (Or.inr (slot_ne (Or.inl (hw _ (List.mem_of_getElem? (i := 25) rfl))) (Or.inl (hw _ (List.mem_of_getElem? (i := 11) rfl))) (by decide) (t := (.array (.array .int))) (t' := (.array .int)) (by decide) (by decide)))).ext E7)
  have F72 := (((F71.other W13 (Or.inr (slot_ne (Or.inl (hw _ (List.mem_of_getElem? (i := 25) rfl))) (Or.inl (hw _ (List.mem_of_getElem? (i := 13) rfl))) (by decide) (t := (.array (.array .int))) (t' := (.array .int)) (by decide) (by decide)))).ext E15).other W23 (Or.inr (slot_ne (Or.inl (hw _ (List.mem_of_getElem? (i := 25) rfl))) (Or.inl (hw _ (List.mem_of_getElem? (i := 15) rfl))) (by decide) (t := (.array (.array .int))) (t' := (.array .int)) (by decide) (by decide))))
  have F73 := (((F72.ext E24).other W34 (Or.inr (slot_ne (Or.inl (hw _ (List.mem_of_getElem? (i := 25) rfl))) (Or.inl (hw _ (List.mem_of_getElem? (i := 17) rfl))) (by decide) (t := (.array (.array .int))) (t' := (.array .int)) (by decide) (by decide)))).ext E35)
  have F74 := (((F73.other W46 (Or.inr (slot_ne (Or.inl (hw _ (List.mem_of_getElem? (i := 25) rfl))) (Or.inl (hw _ (List.mem_of_getElem? (i := 19) rfl))) (by decide) (t := (.array (.array .int))) (t' := (.array .int)) (by decide) (by decide)))).ext E48).other W61 (Or.inr (slot_ne (Or.inl (hw _ (List.mem_of_getElem? (i := 25) rfl))) (Or.inl (hw _ (List.mem_of_getElem? (i := 21) rfl))) (by decide) (t := (.array (.array .int))) (t' := (.array .int)) (by decide) (by decide))))
  have F75 := (F74.ext E62)
  have F76 := (F64.ext E62)
  obtain ⟨T77, h77, X77, e77, W77, st77⟩ := putF X62 hx hZ hown (host := "") (Or.inl (hw _ (List.mem_of_getElem? (i := 24) rfl))) Via.refl e62 F75 F76 (Or.inl (hw _ (List.mem_of_getElem? (i := 25) rfl))) (hw _ (List.mem_of_getElem? (i := 2) rfl)) (ty := (.array (.array .int))) (by decide) rfl rfl (g := (mkF m 55 #[.val (.ref a0_), .val (.int (4 : Int32)), .val (.int (2 : Int32))] [(.ref b62), (.ref a0_)])) rfl rfl (hb hby own_d1_55)
  have N77 := Fr.snoc X77 Nf61 g_
  obtain ⟨Lf77, Nf77, Xf77⟩ := own_fold X77 N77
  have Fw77 := F75.same W77
  obtain ⟨T78, h78, kk78, X78, e78, E78, A78, st78⟩ := newP Xf77 hx hZ (hw _ (List.mem_of_getElem? (i := 26) rfl)) e77 (g := (mkF m 60 #[.val (.ref a0_), .val (.int (4 : Int32)), .val (.int (2 : Int32))] [(.int (4 : Int32)), (.ref a0_)])) rfl (hb hby own_d1_60) rfl (by decide) (cap := 4) (by decide) (by decide) (by decide) (by decide)
  obtain ⟨b78, g78⟩ : ∃ z, z = h77.size := ⟨_, rfl⟩
  rw [← g78] at A78 st78
  have K79 : Keep h0 h77 [a0_] := ((K63.ext E62).wr W77 (Or.inl (List.mem_of_getElem? (i := 0) rfl)))
  have ge_b78 : n0 ≤ b78 := Nat.le_trans (Nat.le_trans Z0 K79.1) (Nat.le_of_eq g78.symm)
  have sz_b78 : h0.size ≤ b78 := Nat.le_trans K79.1 (Nat.le_of_eq g78.symm)
  have F80 := (F76.wr W77)
  have ne_a0__b78 : a0_ ≠ b78 := Nat.ne_of_lt (Nat.lt_of_lt_of_le F80.lt (Nat.le_of_eq g78.symm))
  have F81 := ((F65.ext E62).other W77 (Ne.symm ne_a0__b2))
  have ne_b2_b78 : b2 ≠ b78 := Nat.ne_of_lt (Nat.lt_of_lt_of_le F81.lt (Nat.le_of_eq g78.symm))
  have F82 := ((F66.ext E62).other W77 (Ne.symm ne_a0__b7))
  have ne_b7_b78 : b7 ≠ b78 := Nat.ne_of_lt (Nat.lt_of_lt_of_le F82.lt (Nat.le_of_eq g78.symm))
  have F83 := ((F67.ext E62).other W77 (Ne.symm ne_a0__b15))
  have ne_b15_b78 : b15 ≠ b78 := Nat.ne_of_lt (Nat.lt_of_lt_of_le F83.lt (Nat.le_of_eq g78.symm))
  have F84 := ((F68.ext E62).other W77 (Ne.symm ne_a0__b24))
  have ne_b24_b78 : b24 ≠ b78 := Nat.ne_of_lt (Nat.lt_of_lt_of_le F84.lt (Nat.le_of_eq g78.symm))
  have F85 := ((F69.ext E62).other W77 (Ne.symm ne_a0__b35))
  have ne_b35_b78 : b35 ≠ b78 := Nat.ne_of_lt (Nat.lt_of_lt_of_le F85.lt (Nat.le_of_eq g78.symm))
  have F86 := ((F70.ext E62).other W77 (Ne.symm ne_a0__b48))
  have ne_b48_b78 : b48 ≠ b78 := Nat.ne_of_lt (Nat.lt_of_lt_of_le F86.lt (Nat.le_of_eq g78.symm))
  have F87 := (V62.other W77 (Ne.symm ne_a0__b62))
  have ne_b62_b78 : b62 ≠ b78 := Nat.ne_of_lt (Nat.lt_of_lt_of_le F87.lt (Nat.le_of_eq g78.symm))
  have V78 : Arv Z h78 b78 kk78 .boolean (4 : Int32) [] (.int (0 : Int32)) := Arv.new A78 (by decide)
  have F88 := (((F_matched.ext E2).other W6 (Or.inr (slot_ne (Or.inl (hw _ (List.mem_of_getElem? (i := 28) rfl))) (Or.inl (hw _ (List.mem_of_getElem? (i := 11) rfl))) (by decide) (t := (.array .boolean)) (t' := (.array .int)) (by decide) (by decide)))).ext E7)
  have F89 := (((F88.other W13 (Or.inr (slot_ne (Or.inl (hw _ (List.mem_of_getElem? (i := 28) rfl))) (Or.inl (hw _ (List.mem_of_getElem? (i := 13) rfl))) (by decide) (t := (.array .boolean)) (t' := (.array .int)) (by decide) (by decide)))).ext E15).other W23 (Or.inr (slot_ne (Or.inl (hw _ (List.mem_of_getElem? (i := 28) rfl))) (Or.inl (hw _ (List.mem_of_getElem? (i := 15) rfl))) (by decide) (t := (.array .boolean)) (t' := (.array .int)) (by decide) (by decide))))
  have F90 := (((F89.ext E24).other W34 (Or.inr (slot_ne (Or.inl (hw _ (List.mem_of_getElem? (i := 28) rfl))) (Or.inl (hw _ (List.mem_of_getElem? (i := 17) rfl))) (by decide) (t := (.array .boolean)) (t' := (.array .int)) (by decide) (by decide)))).ext E35)
  have F91 := (((F90.other W46 (Or.inr (slot_ne (Or.inl (hw _ (List.mem_of_getElem? (i := 28) rfl))) (Or.inl (hw _ (List.mem_of_getElem? (i := 19) rfl))) (by decide) (t := (.array .boolean)) (t' := (.array .int)) (by decide) (by decide)))).ext E48).other W61 (Or.inr (slot_ne (Or.inl (hw _ (List.mem_of_getElem? (i := 28) rfl))) (Or.inl (hw _ (List.mem_of_getElem? (i := 21) rfl))) (by decide) (t := (.array .boolean)) (t' := (.array .int)) (by decide) (by decide))))
  have F92 := (((F91.ext E62).other W77 (Or.inr (slot_ne (Or.inl (hw _ (List.mem_of_getElem? (i := 28) rfl))) (Or.inl (hw _ (List.mem_of_getElem? (i := 25) rfl))) (by decide) (t := (.array .boolean)) (t' := (.array (.array .int))) (by decide) (by decide)))).ext E78)
  have F93 := (F80.ext E78)
  obtain ⟨T94, h94, X94, e94, W94, st94⟩ := putF X78 hx hZ hown (host := "") (Or.inl (hw _ (List.mem_of_getElem? (i := 27) rfl))) Via.refl e78 F92 F93 (Or.inl (hw _ (List.mem_of_getElem? (i := 28) rfl))) (hw _ (List.mem_of_getElem? (i := 2) rfl)) (ty := (.array .boolean)) (by decide) rfl rfl (g := (mkF m 62 #[.val (.ref a0_), .val (.int (4 : Int32)), .val (.int (2 : Int32))] [(.ref b78), (.ref a0_)])) rfl rfl (hb hby own_d1_62)
  have N94 := Fr.snoc X94 Nf77 g_
  obtain ⟨Lf94, Nf94, Xf94⟩ := own_fold X94 N94
  have Fw94 := F92.same W94
  have k95 : own_To p e below T94 (mkF m 67 #[.val (.ref a0_), .val (.int (4 : Int32)), .val (.int (2 : Int32))] [(.int (4 : Int32)), (.ref a0_)]) s₁ (mkF m 0 #[.val (.ref a0_), .val (.int (4 : Int32)), .val (.int (2 : Int32))] []) := fun t q => k47 t (by
    refine st48 _ ?_
    show Steps p.tables e below (T48.setTop (mkF m 47 #[.val (.ref a0_), .val (.int (4 : Int32)), .val (.int (2 : Int32))] [(.ref b48), (.ref a0_)])) _
    refine st61 _ ?_
    show Steps p.tables e below (T61.setTop (mkF m 50 #[.val (.ref a0_), .val (.int (4 : Int32)), .val (.int (2 : Int32))] [])) _
    refine XS.aloadN Xf61.here hx rfl (hb hby own_d1_50) rfl rfl ?_
    show Steps p.tables e below (T61.setTop (mkF m 51 #[.val (.ref a0_), .val (.int (4 : Int32)), .val (.int (2 : Int32))] [(.ref a0_)])) _
    refine XS.iloadN Xf61.here hx rfl (hb hby own_d1_51) rfl ?_
    show Steps p.tables e below (T61.setTop (mkF m 52 #[.val (.ref a0_), .val (.int (4 : Int32)), .val (.int (2 : Int32))] [(.int (4 : Int32)), (.ref a0_)])) _
    refine st62 _ ?_
    show Steps p.tables e below (T62.setTop (mkF m 55 #[.val (.ref a0_), .val (.int (4 : Int32)), .val (.int (2 : Int32))] [(.ref b62), (.ref a0_)])) _
    refine st77 _ ?_
    show Steps p.tables e below (T77.setTop (mkF m 58 #[.val (.ref a0_), .val (.int (4 : Int32)), .val (.int (2 : Int32))] [])) _
    refine XS.aloadN Xf77.here hx rfl (hb hby own_d1_58) rfl rfl ?_
    show Steps p.tables e below (T77.setTop (mkF m 59 #[.val (.ref a0_), .val (.int (4 : Int32)), .val (.int (2 : Int32))] [(.ref a0_)])) _
    refine XS.iloadN Xf77.here hx rfl (hb hby own_d1_59) rfl ?_
    show Steps p.tables e below (T77.setTop (mkF m 60 #[.val (.ref a0_), .val (.int (4 : Int32)), .val (.int (2 : Int32))] [(.int (4 : Int32)), (.ref a0_)])) _
    refine st78 _ ?_
    show Steps p.tables e below (T78.setTop (mkF m 62 #[.val (.ref a0_), .val (.int (4 : Int32)), .val (.int (2 : Int32))] [(.ref b78), (.ref a0_)])) _
    refine st94 _ ?_
    show Steps p.tables e below (T94.setTop (mkF m 65 #[.val (.ref a0_), .val (.int (4 : Int32)), .val (.int (2 : Int32))] [])) _
    refine XS.aloadN Xf94.here hx rfl (hb hby own_d1_65) rfl rfl ?_
    show Steps p.tables e below (T94.setTop (mkF m 66 #[.val (.ref a0_), .val (.int (4 : Int32)), .val (.int (2 : Int32))] [(.ref a0_)])) _
    refine XS.iloadN Xf94.here hx rfl (hb hby own_d1_66) rfl ?_
    show Steps p.tables e below (T94.setTop (mkF m 67 #[.val (.ref a0_), .val (.int (4 : Int32)), .val (.int (2 : Int32))] [(.int (4 : Int32)), (.ref a0_)])) _
    exact q)
  obtain ⟨T96, h96, kk96, X96, e96, E96, A96, st96⟩ := newP Xf94 hx hZ (hw _ (List.mem_of_getElem? (i := 0) rfl)) e94 (g := (mkF m 67 #[.val (.ref a0_), .val (.int (4 : Int32)), .val (.int (2 : Int32))] [(.int (4 : Int32)), (.ref a0_)])) rfl (hb hby own_d1_67) rfl (by decide) (cap := 4) (by decide) (by decide) (by decide) (by decide)
  obtain ⟨b96, g96⟩ : ∃ z, z = h94.size := ⟨_, rfl⟩
  rw [← g96] at A96 st96
  have K97 : Keep h0 h94 [a0_] := ((K79.ext E78).wr W94 (Or.inl (List.mem_of_getElem? (i := 0) rfl)))
  have ge_b96 : n0 ≤ b96 := Nat.le_trans (Nat.le_trans Z0 K97.1) (Nat.le_of_eq g96.symm)
  have sz_b96 : h0.size ≤ b96 := Nat.le_trans K97.1 (Nat.le_of_eq g96.symm)
  have F98 := (F93.wr W94)
  have ne_a0__b96 : a0_ ≠ b96 := Nat.ne_of_lt (Nat.lt_of_lt_of_le F98.lt (Nat.le_of_eq g96.symm))
  have F99 := ((F81.ext E78).other W94 (Ne.symm ne_a0__b2))
  have ne_b2_b96 : b2 ≠ b96 := Nat.ne_of_lt (Nat.lt_of_lt_of_le F99.lt (Nat.le_of_eq g96.symm))
  have F100 := ((F82.ext E78).other W94 (Ne.symm ne_a0__b7))
  have ne_b7_b96 : b7 ≠ b96 := Nat.ne_of_lt (Nat.lt_of_lt_of_le F100.lt (Nat.le_of_eq g96.symm))
  have F101 := ((F83.ext E78).other W94 (Ne.symm ne_a0__b15))
  have ne_b15_b96 : b15 ≠ b96 := Nat.ne_of_lt (Nat.lt_of_lt_of_le F101.lt (Nat.le_of_eq g96.symm))
  have F102 := ((F84.ext E78).other W94 (Ne.symm ne_a0__b24))
  have ne_b24_b96 : b24 ≠ b96 := Nat.ne_of_lt (Nat.lt_of_lt_of_le F102.lt (Nat.le_of_eq g96.symm))
  have F103 := ((F85.ext E78).other W94 (Ne.symm ne_a0__b35))
  have ne_b35_b96 : b35 ≠ b96 := Nat.ne_of_lt (Nat.lt_of_lt_of_le F103.lt (Nat.le_of_eq g96.symm))
  have F104 := ((F86.ext E78).other W94 (Ne.symm ne_a0__b48))
  have ne_b48_b96 : b48 ≠ b96 := Nat.ne_of_lt (Nat.lt_of_lt_of_le F104.lt (Nat.le_of_eq g96.symm))
  have F105 := ((F87.ext E78).other W94 (Ne.symm ne_a0__b62))
  have ne_b62_b96 : b62 ≠ b96 := Nat.ne_of_lt (Nat.lt_of_lt_of_le F105.lt (Nat.le_of_eq g96.symm))
  have F106 := (V78.other W94 (Ne.symm ne_a0__b78))
  have ne_b78_b96 : b78 ≠ b96 := Nat.ne_of_lt (Nat.lt_of_lt_of_le F106.lt (Nat.le_of_eq g96.symm))
  have V96 : Arv Z h96 b96 kk96 .int (4 : Int32) [] (.int (0 : Int32)) := Arv.new A96 (by decide)
  have F107 := (((F_matchedEntries.ext E2).other W6 (Or.inr (slot_ne (Or.inl (hw _ (List.mem_of_getElem? (i := 30) rfl))) (Or.inl (hw _ (List.mem_of_getElem? (i := 11) rfl))) (by decide) (t := (.array .int)) (t' := (.array .int)) (by decide) (by decide)))).ext E7)
  have F108 := (((F107.other W13 (Or.inr (slot_ne (Or.inl (hw _ (List.mem_of_getElem? (i := 30) rfl))) (Or.inl (hw _ (List.mem_of_getElem? (i := 13) rfl))) (by decide) (t := (.array .int)) (t' := (.array .int)) (by decide) (by decide)))).ext E15).other W23 (Or.inr (slot_ne (Or.inl (hw _ (List.mem_of_getElem? (i := 30) rfl))) (Or.inl (hw _ (List.mem_of_getElem? (i := 15) rfl))) (by decide) (t := (.array .int)) (t' := (.array .int)) (by decide) (by decide))))
  have F109 := (((F108.ext E24).other W34 (Or.inr (slot_ne (Or.inl (hw _ (List.mem_of_getElem? (i := 30) rfl))) (Or.inl (hw _ (List.mem_of_getElem? (i := 17) rfl))) (by decide) (t := (.array .int)) (t' := (.array .int)) (by decide) (by decide)))).ext E35)
  have F110 := (((F109.other W46 (Or.inr (slot_ne (Or.inl (hw _ (List.mem_of_getElem? (i := 30) rfl))) (Or.inl (hw _ (List.mem_of_getElem? (i := 19) rfl))) (by decide) (t := (.array .int)) (t' := (.array .int)) (by decide) (by decide)))).ext E48).other W61 (Or.inr (slot_ne (Or.inl (hw _ (List.mem_of_getElem? (i := 30) rfl))) (Or.inl (hw _ (List.mem_of_getElem? (i := 21) rfl))) (by decide) (t := (.array .int)) (t' := (.array .int)) (by decide) (by decide))))
  have F111 := (((F110.ext E62).other W77 (Or.inr (slot_ne (Or.inl (hw _ (List.mem_of_getElem? (i := 30) rfl))) (Or.inl (hw _ (List.mem_of_getElem? (i := 25) rfl))) (by decide) (t := (.array .int)) (t' := (.array (.array .int))) (by decide) (by decide)))).ext E78)
  have F112 := ((F111.other W94 (Or.inr (slot_ne (Or.inl (hw _ (List.mem_of_getElem? (i := 30) rfl))) (Or.inl (hw _ (List.mem_of_getElem? (i := 28) rfl))) (by decide) (t := (.array .int)) (t' := (.array .boolean)) (by decide) (by decide)))).ext E96)
  have F113 := (F98.ext E96)
  obtain ⟨T114, h114, X114, e114, W114, st114⟩ := putF X96 hx hZ hown (host := "") (Or.inl (hw _ (List.mem_of_getElem? (i := 29) rfl))) Via.refl e96 F112 F113 (Or.inl (hw _ (List.mem_of_getElem? (i := 30) rfl))) (hw _ (List.mem_of_getElem? (i := 2) rfl)) (ty := (.array .int)) (by decide) rfl rfl (g := (mkF m 69 #[.val (.ref a0_), .val (.int (4 : Int32)), .val (.int (2 : Int32))] [(.ref b96), (.ref a0_)])) rfl rfl (hb hby own_d1_69)
  have N114 := Fr.snoc X114 Nf94 g_
  obtain ⟨Lf114, Nf114, Xf114⟩ := own_fold X114 N114
  have Fw114 := F112.same W114
  obtain ⟨T115, h115, kk115, X115, e115, E115, A115, st115⟩ := newP Xf114 hx hZ (hw _ (List.mem_of_getElem? (i := 0) rfl)) e114 (g := (mkF m 74 #[.val (.ref a0_), .val (.int (4 : Int32)), .val (.int (2 : Int32))] [(.int (2 : Int32)), (.ref a0_)])) rfl (hb hby own_d1_74) rfl (by decide) (cap := 2) (by decide) (by decide) (by decide) (by decide)
  obtain ⟨b115, g115⟩ : ∃ z, z = h114.size := ⟨_, rfl⟩
  rw [← g115] at A115 st115
  have K116 : Keep h0 h114 [a0_] := ((K97.ext E96).wr W114 (Or.inl (List.mem_of_getElem? (i := 0) rfl)))
  have ge_b115 : n0 ≤ b115 := Nat.le_trans (Nat.le_trans Z0 K116.1) (Nat.le_of_eq g115.symm)
  have sz_b115 : h0.size ≤ b115 := Nat.le_trans K116.1 (Nat.le_of_eq g115.symm)
  have F117 := (F113.wr W114)
  have ne_a0__b115 : a0_ ≠ b115 := Nat.ne_of_lt (Nat.lt_of_lt_of_le F117.lt (Nat.le_of_eq g115.symm))
  have F118 := ((F99.ext E96).other W114 (Ne.symm ne_a0__b2))
  have ne_b2_b115 : b2 ≠ b115 := Nat.ne_of_lt (Nat.lt_of_lt_of_le F118.lt (Nat.le_of_eq g115.symm))
  have F119 := ((F100.ext E96).other W114 (Ne.symm ne_a0__b7))
  have ne_b7_b115 : b7 ≠ b115 := Nat.ne_of_lt (Nat.lt_of_lt_of_le F119.lt (Nat.le_of_eq g115.symm))
  have F120 := ((F101.ext E96).other W114 (Ne.symm ne_a0__b15))
  have ne_b15_b115 : b15 ≠ b115 := Nat.ne_of_lt (Nat.lt_of_lt_of_le F120.lt (Nat.le_of_eq g115.symm))
  have F121 := ((F102.ext E96).other W114 (Ne.symm ne_a0__b24))
  have ne_b24_b115 : b24 ≠ b115 := Nat.ne_of_lt (Nat.lt_of_lt_of_le F121.lt (Nat.le_of_eq g115.symm))
  have F122 := ((F103.ext E96).other W114 (Ne.symm ne_a0__b35))
  have ne_b35_b115 : b35 ≠ b115 := Nat.ne_of_lt (Nat.lt_of_lt_of_le F122.lt (Nat.le_of_eq g115.symm))
  have F123 := ((F104.ext E96).other W114 (Ne.symm ne_a0__b48))
  have ne_b48_b115 : b48 ≠ b115 := Nat.ne_of_lt (Nat.lt_of_lt_of_le F123.lt (Nat.le_of_eq g115.symm))
  have F124 := ((F105.ext E96).other W114 (Ne.symm ne_a0__b62))
  have ne_b62_b115 : b62 ≠ b115 := Nat.ne_of_lt (Nat.lt_of_lt_of_le F124.lt (Nat.le_of_eq g115.symm))
  have F125 := ((F106.ext E96).other W114 (Ne.symm ne_a0__b78))
  have ne_b78_b115 : b78 ≠ b115 := Nat.ne_of_lt (Nat.lt_of_lt_of_le F125.lt (Nat.le_of_eq g115.symm))
  have F126 := (V96.other W114 (Ne.symm ne_a0__b96))
  have ne_b96_b115 : b96 ≠ b115 := Nat.ne_of_lt (Nat.lt_of_lt_of_le F126.lt (Nat.le_of_eq g115.symm))
  have V115 : Arv Z h115 b115 kk115 .int (2 : Int32) [] (.int (0 : Int32)) := Arv.new A115 (by decide)
  have F127 := (((F_latestWatches.ext E2).other W6 (Or.inr (slot_ne (Or.inr (hw _ (List.mem_of_getElem? (i := 32) rfl))) (Or.inl (hw _ (List.mem_of_getElem? (i := 11) rfl))) (by decide) (t := (.array .int)) (t' := (.array .int)) (by decide) (by decide)))).ext E7)
  have F128 := (((F127.other W13 (Or.inr (slot_ne (Or.inr (hw _ (List.mem_of_getElem? (i := 32) rfl))) (Or.inl (hw _ (List.mem_of_getElem? (i := 13) rfl))) (by decide) (t := (.array .int)) (t' := (.array .int)) (by decide) (by decide)))).ext E15).other W23 (Or.inr (slot_ne (Or.inr (hw _ (List.mem_of_getElem? (i := 32) rfl))) (Or.inl (hw _ (List.mem_of_getElem? (i := 15) rfl))) (by decide) (t := (.array .int)) (t' := (.array .int)) (by decide) (by decide))))
  have F129 := (((F128.ext E24).other W34 (Or.inr (slot_ne (Or.inr (hw _ (List.mem_of_getElem? (i := 32) rfl))) (Or.inl (hw _ (List.mem_of_getElem? (i := 17) rfl))) (by decide) (t := (.array .int)) (t' := (.array .int)) (by decide) (by decide)))).ext E35)
  have F130 := (((F129.other W46 (Or.inr (slot_ne (Or.inr (hw _ (List.mem_of_getElem? (i := 32) rfl))) (Or.inl (hw _ (List.mem_of_getElem? (i := 19) rfl))) (by decide) (t := (.array .int)) (t' := (.array .int)) (by decide) (by decide)))).ext E48).other W61 (Or.inr (slot_ne (Or.inr (hw _ (List.mem_of_getElem? (i := 32) rfl))) (Or.inl (hw _ (List.mem_of_getElem? (i := 21) rfl))) (by decide) (t := (.array .int)) (t' := (.array .int)) (by decide) (by decide))))
  have F131 := (((F130.ext E62).other W77 (Or.inr (slot_ne (Or.inr (hw _ (List.mem_of_getElem? (i := 32) rfl))) (Or.inl (hw _ (List.mem_of_getElem? (i := 25) rfl))) (by decide) (t := (.array .int)) (t' := (.array (.array .int))) (by decide) (by decide)))).ext E78)
  have F132 := (((F131.other W94 (Or.inr (slot_ne (Or.inr (hw _ (List.mem_of_getElem? (i := 32) rfl))) (Or.inl (hw _ (List.mem_of_getElem? (i := 28) rfl))) (by decide) (t := (.array .int)) (t' := (.array .boolean)) (by decide) (by decide)))).ext E96).other W114 (Or.inr (slot_ne (Or.inr (hw _ (List.mem_of_getElem? (i := 32) rfl))) (Or.inl (hw _ (List.mem_of_getElem? (i := 30) rfl))) (by decide) (t := (.array .int)) (t' := (.array .int)) (by decide) (by decide))))
  have F133 := (F132.ext E115)
  have F134 := (F117.ext E115)
  obtain ⟨T135, h135, X135, e135, W135, st135⟩ := putF X115 hx hZ hown (host := "") (Or.inl (hw _ (List.mem_of_getElem? (i := 31) rfl))) Via.refl e115 F133 F134 (Or.inr ⟨(hw _ (List.mem_of_getElem? (i := 32) rfl)), rfl, hnm⟩) (hw _ (List.mem_of_getElem? (i := 2) rfl)) (ty := (.array .int)) (by decide) rfl rfl (g := (mkF m 76 #[.val (.ref a0_), .val (.int (4 : Int32)), .val (.int (2 : Int32))] [(.ref b115), (.ref a0_)])) rfl rfl (hb hby own_d1_76)
  have N135 := Fr.snoc X135 Nf114 g_
  obtain ⟨Lf135, Nf135, Xf135⟩ := own_fold X135 N135
  have Fw135 := F133.same W135
  obtain ⟨T136, X136, e136, st136⟩ := getF Xf135 hx hZ hown (host := "") (Or.inl (hw _ (List.mem_of_getElem? (i := 31) rfl))) Via.refl e135 Fw135 (g := (mkF m 80 #[.val (.ref a0_), .val (.int (4 : Int32)), .val (.int (2 : Int32))] [(.ref a0_)])) rfl rfl (hb hby own_d1_80)
  have F138 := (V115.other W135 (Ne.symm ne_a0__b115))
  have Vz139 : Arv Z h135 b115 kk115 .int (2 : Int32) [(.int (0 : Int32)), (.int (0 : Int32))] (.int (0 : Int32)) := F138.pad (pad_rep [] (.int (0 : Int32)) 2)
  have K140 : Keep h0 h135 [a0_] := ((K116.ext E115).wr W135 (Or.inl (List.mem_of_getElem? (i := 0) rfl)))
  obtain ⟨_, _, ⟨T137, L137, kk137, n137⟩, -, X137, ⟨Lc137, hQ137, l137, y137, z137⟩, st137⟩ := Jvm.LawKit.callS X136 hx (y := (⟨"java/util/Arrays", "fill", "([II)V"⟩ : MethodName)) hown (mvT hZ (hw _ (List.mem_of_getElem? (i := 33) rfl))) (mvT hZ (hw _ (List.mem_of_getElem? (i := 34) rfl))) (mvT hZ (hw _ (List.mem_of_getElem? (i := 35) rfl))) (mvT hZ (hw _ (List.mem_of_getElem? (i := 36) rfl))) (by decide) (backOf (W := 0) (rmfill l Z a0 hw [] b115 (-1 : Int32) kk115 h135 n0 (Nat.le_trans Z0 K140.1) Vz139 ge_b115) hZ (hw _ (List.mem_of_getElem? (i := 36) rfl)) (hw _ (List.mem_of_getElem? (i := 35) rfl)) (by decide) (by decide)) (g := (mkF m 84 #[.val (.ref a0_), .val (.int (4 : Int32)), .val (.int (2 : Int32))] [(.int (-1 : Int32)), (.ref b115)])) rfl (by rw [hml]; rfl) (argsL := [(.ref b115), (.int (-1 : Int32))]) (rest := []) (lenOf own_pd7 rfl) rfl (by show 2 * 0 + _ ≤ _; exact Nat.le_of_eq rfl) (hb hby own_d1_84) (fun _ _ => ⟨rfl, e136, (by decide : 10 + 0 ≤ _), (by decide : 86 + 0 ≤ _)⟩)
  dsimp only [Pt.U, Pt.locs, Pt.cells, Pt.slots] at X137 l137 y137 z137 st137 hQ137
  subst l137 y137 z137
  obtain ⟨rfl, N137q, K137⟩ := hQ137
  have N137 := Fr.app Nf135 N137q
  have k141 : own_To p e below T137 (mkF m 89 #[.val (.ref a0_), .val (.int (4 : Int32)), .val (.int (2 : Int32))] [(.int (4 : Int32)), (.ref a0_)]) s₁ (mkF m 0 #[.val (.ref a0_), .val (.int (4 : Int32)), .val (.int (2 : Int32))] []) := fun t q => k95 t (by
    refine st96 _ ?_
    show Steps p.tables e below (T96.setTop (mkF m 69 #[.val (.ref a0_), .val (.int (4 : Int32)), .val (.int (2 : Int32))] [(.ref b96), (.ref a0_)])) _
    refine st114 _ ?_
    show Steps p.tables e below (T114.setTop (mkF m 72 #[.val (.ref a0_), .val (.int (4 : Int32)), .val (.int (2 : Int32))] [])) _
    refine XS.aloadN Xf114.here hx rfl (hb hby own_d1_72) rfl rfl ?_
    show Steps p.tables e below (T114.setTop (mkF m 73 #[.val (.ref a0_), .val (.int (4 : Int32)), .val (.int (2 : Int32))] [(.ref a0_)])) _
    refine XS.iloadN Xf114.here hx rfl (hb hby own_d1_73) rfl ?_
    show Steps p.tables e below (T114.setTop (mkF m 74 #[.val (.ref a0_), .val (.int (4 : Int32)), .val (.int (2 : Int32))] [(.int (2 : Int32)), (.ref a0_)])) _
    refine st115 _ ?_
    show Steps p.tables e below (T115.setTop (mkF m 76 #[.val (.ref a0_), .val (.int (4 : Int32)), .val (.int (2 : Int32))] [(.ref b115), (.ref a0_)])) _
    refine st135 _ ?_
    show Steps p.tables e below (T135.setTop (mkF m 79 #[.val (.ref a0_), .val (.int (4 : Int32)), .val (.int (2 : Int32))] [])) _
    refine XS.aloadN Xf135.here hx rfl (hb hby own_d1_79) rfl rfl ?_
    show Steps p.tables e below (T135.setTop (mkF m 80 #[.val (.ref a0_), .val (.int (4 : Int32)), .val (.int (2 : Int32))] [(.ref a0_)])) _
    refine st136 _ ?_
    show Steps p.tables e below (T136.setTop (mkF m 83 #[.val (.ref a0_), .val (.int (4 : Int32)), .val (.int (2 : Int32))] [(.ref b115)])) _
    refine XS.iconst X136.here hx rfl (hb hby own_d1_83) ?_
    show Steps p.tables e below (T136.setTop (mkF m 84 #[.val (.ref a0_), .val (.int (4 : Int32)), .val (.int (2 : Int32))] [(.int (-1 : Int32)), (.ref b115)])) _
    refine st137 _ ?_
    show Steps p.tables e below (T137.setTop (mkF m 87 #[.val (.ref a0_), .val (.int (4 : Int32)), .val (.int (2 : Int32))] [])) _
    refine XS.aloadN X137.here hx rfl (hb hby own_d1_87) rfl rfl ?_
    show Steps p.tables e below (T137.setTop (mkF m 88 #[.val (.ref a0_), .val (.int (4 : Int32)), .val (.int (2 : Int32))] [(.ref a0_)])) _
    refine XS.iloadN X137.here hx rfl (hb hby own_d1_88) rfl ?_
    show Steps p.tables e below (T137.setTop (mkF m 89 #[.val (.ref a0_), .val (.int (4 : Int32)), .val (.int (2 : Int32))] [(.int (4 : Int32)), (.ref a0_)])) _
    exact q)
  obtain ⟨T142, h142, kk142, X142, e142, E142, A142, st142⟩ := newP X137 hx hZ (hw _ (List.mem_of_getElem? (i := 0) rfl)) rfl (g := (mkF m 89 #[.val (.ref a0_), .val (.int (4 : Int32)), .val (.int (2 : Int32))] [(.int (4 : Int32)), (.ref a0_)])) rfl (hb hby own_d1_89) rfl (by decide) (cap := 4) (by decide) (by decide) (by decide) (by decide)
  obtain ⟨b142, g142⟩ : ∃ z, z = T137.heap.size := ⟨_, rfl⟩
  rw [← g142] at A142 st142
  have K143 : Keep h0 T137.heap [a0_] := (K140.trans K137 (allS (P := fun x => x ∈ ([a0_] : List Addr) ∨ h0.size ≤ x) (Or.inr sz_b115) all0))
  have ge_b142 : n0 ≤ b142 := Nat.le_trans (Nat.le_trans Z0 K143.1) (Nat.le_of_eq g142.symm)
  have sz_b142 : h0.size ≤ b142 := Nat.le_trans K143.1 (Nat.le_of_eq g142.symm)
  have F144 := ((F134.wr W135).keep K137)
  have ne_a0__b142 : a0_ ≠ b142 := Nat.ne_of_lt (Nat.lt_of_lt_of_le F144.lt (Nat.le_of_eq g142.symm))
  have F145 := (((F118.ext E115).other W135 (Ne.symm ne_a0__b2)).keep K137 (ninS ne_b2_b115 nin0))
  have ne_b2_b142 : b2 ≠ b142 := Nat.ne_of_lt (Nat.lt_of_lt_of_le F145.lt (Nat.le_of_eq g142.symm))
  have F146 := (((F119.ext E115).other W135 (Ne.symm ne_a0__b7)).keep K137 (ninS ne_b7_b115 nin0))
  have ne_b7_b142 : b7 ≠ b142 := Nat.ne_of_lt (Nat.lt_of_lt_of_le F146.lt (Nat.le_of_eq g142.symm))
  have F147 := (((F120.ext E115).other W135 (Ne.symm ne_a0__b15)).keep K137 (ninS ne_b15_b115 nin0))
  have ne_b15_b142 : b15 ≠ b142 := Nat.ne_of_lt (Nat.lt_of_lt_of_le F147.lt (Nat.le_of_eq g142.symm))
  have F148 := (((F121.ext E115).other W135 (Ne.symm ne_a0__b24)).keep K137 (ninS ne_b24_b115 nin0))
  have ne_b24_b142 : b24 ≠ b142 := Nat.ne_of_lt (Nat.lt_of_lt_of_le F148.lt (Nat.le_of_eq g142.symm))
  have F149 := (((F122.ext E115).other W135 (Ne.symm ne_a0__b35)).keep K137 (ninS ne_b35_b115 nin0))
  have ne_b35_b142 : b35 ≠ b142 := Nat.ne_of_lt (Nat.lt_of_lt_of_le F149.lt (Nat.le_of_eq g142.symm))
  have F150 := (((F123.ext E115).other W135 (Ne.symm ne_a0__b48)).keep K137 (ninS ne_b48_b115 nin0))
  have ne_b48_b142 : b48 ≠ b142 := Nat.ne_of_lt (Nat.lt_of_lt_of_le F150.lt (Nat.le_of_eq g142.symm))
  have F151 := (((F124.ext E115).other W135 (Ne.symm ne_a0__b62)).keep K137 (ninS ne_b62_b115 nin0))
  have ne_b62_b142 : b62 ≠ b142 := Nat.ne_of_lt (Nat.lt_of_lt_of_le F151.lt (Nat.le_of_eq g142.symm))
  have F152 := (((F125.ext E115).other W135 (Ne.symm ne_a0__b78)).keep K137 (ninS ne_b78_b115 nin0))
  have ne_b78_b142 : b78 ≠ b142 := Nat.ne_of_lt (Nat.lt_of_lt_of_le F152.lt (Nat.le_of_eq g142.symm))
  have F153 := (((F126.ext E115).other W135 (Ne.symm ne_a0__b96)).keep K137 (ninS ne_b96_b115 nin0))
  have ne_b96_b142 : b96 ≠ b142 := Nat.ne_of_lt (Nat.lt_of_lt_of_le F153.lt (Nat.le_of_eq g142.symm))
  have V142 : Arv Z h142 b142 kk142 .int (4 : Int32) [] (.int (0 : Int32)) := Arv.new A142 (by decide)
  have F154 := (((F_builtinMarks.ext E2).other W6 (Or.inr (slot_ne (Or.inl (hw _ (List.mem_of_getElem? (i := 38) rfl))) (Or.inl (hw _ (List.mem_of_getElem? (i := 11) rfl))) (by decide) (t := (.array .int)) (t' := (.array .int)) (by decide) (by decide)))).ext E7)
  have F155 := (((F154.other W13 (Or.inr (slot_ne (Or.inl (hw _ (List.mem_of_getElem? (i := 38) rfl))) (Or.inl (hw _ (List.mem_of_getElem? (i := 13) rfl))) (by decide) (t := (.array .int)) (t' := (.array .int)) (by decide) (by decide)))).ext E15).other W23 (Or.inr (slot_ne (Or.inl (hw _ (List.mem_of_getElem? (i := 38) rfl))) (Or.inl (hw _ (List.mem_of_getElem? (i := 15) rfl))) (by decide) (t := (.array .int)) (t' := (.array .int)) (by decide) (by decide))))
  have F156 := (((F155.ext E24).other W34 (Or.inr (slot_ne (Or.inl (hw _ (List.mem_of_getElem? (i := 38) rfl))) (Or.inl (hw _ (List.mem_of_getElem? (i := 17) rfl))) (by decide) (t := (.array .int)) (t' := (.array .int)) (by decide) (by decide)))).ext E35)
  have F157 := (((F156.other W46 (Or.inr (slot_ne (Or.inl (hw _ (List.mem_of_getElem? (i := 38) rfl))) (Or.inl (hw _ (List.mem_of_getElem? (i := 19) rfl))) (by decide) (t := (.array .int)) (t' := (.array .int)) (by decide) (by decide)))).ext E48).other W61 (Or.inr (slot_ne (Or.inl (hw _ (List.mem_of_getElem? (i := 38) rfl))) (Or.inl (hw _ (List.mem_of_getElem? (i := 21) rfl))) (by decide) (t := (.array .int)) (t' := (.array .int)) (by decide) (by decide))))
  have F158 := (((F157.ext E62).other W77 (Or.inr (slot_ne (Or.inl (hw _ (List.mem_of_getElem? (i := 38) rfl))) (Or.inl (hw _ (List.mem_of_getElem? (i := 25) rfl))) (by decide) (t := (.array .int)) (t' := (.array (.array .int))) (by decide) (by decide)))).ext E78)
  have F159 := (((F158.other W94 (Or.inr (slot_ne (Or.inl (hw _ (List.mem_of_getElem? (i := 38) rfl))) (Or.inl (hw _ (List.mem_of_getElem? (i := 28) rfl))) (by decide) (t := (.array .int)) (t' := (.array .boolean)) (by decide) (by decide)))).ext E96).other W114 (Or.inr (slot_ne (Or.inl (hw _ (List.mem_of_getElem? (i := 38) rfl))) (Or.inl (hw _ (List.mem_of_getElem? (i := 30) rfl))) (by decide) (t := (.array .int)) (t' := (.array .int)) (by decide) (by decide))))
  have F160 := (((F159.ext E115).other W135 (Or.inr (slot_ne (Or.inl (hw _ (List.mem_of_getElem? (i := 38) rfl))) (Or.inr (hw _ (List.mem_of_getElem? (i := 32) rfl))) (by decide) (t := (.array .int)) (t' := (.array .int)) (by decide) (by decide)))).keep K137 (ninS ne_a0__b115 nin0))
  have F161 := (F160.ext E142)
  have F162 := (F144.ext E142)
  obtain ⟨T163, h163, X163, e163, W163, st163⟩ := putF X142 hx hZ hown (host := "") (Or.inl (hw _ (List.mem_of_getElem? (i := 37) rfl))) Via.refl e142 F161 F162 (Or.inl (hw _ (List.mem_of_getElem? (i := 38) rfl))) (hw _ (List.mem_of_getElem? (i := 2) rfl)) (ty := (.array .int)) (by decide) rfl rfl (g := (mkF m 91 #[.val (.ref a0_), .val (.int (4 : Int32)), .val (.int (2 : Int32))] [(.ref b142), (.ref a0_)])) rfl rfl (hb hby own_d1_91)
  have N163 := Fr.snoc X163 N137 g_
  obtain ⟨Lf163, Nf163, Xf163⟩ := own_fold X163 N163
  have Fw163 := F161.same W163
  obtain ⟨T164, h164, kk164, X164, e164, E164, A164, st164⟩ := newP Xf163 hx hZ (hw _ (List.mem_of_getElem? (i := 0) rfl)) e163 (g := (mkF m 96 #[.val (.ref a0_), .val (.int (4 : Int32)), .val (.int (2 : Int32))] [(.int (4 : Int32)), (.ref a0_)])) rfl (hb hby own_d1_96) rfl (by decide) (cap := 4) (by decide) (by decide) (by decide) (by decide)
  obtain ⟨b164, g164⟩ : ∃ z, z = h163.size := ⟨_, rfl⟩
  rw [← g164] at A164 st164
  have K165 : Keep h0 h163 [a0_] := ((K143.ext E142).wr W163 (Or.inl (List.mem_of_getElem? (i := 0) rfl)))
  have ge_b164 : n0 ≤ b164 := Nat.le_trans (Nat.le_trans Z0 K165.1) (Nat.le_of_eq g164.symm)
  have sz_b164 : h0.size ≤ b164 := Nat.le_trans K165.1 (Nat.le_of_eq g164.symm)
  have F166 := (F162.wr W163)
  have ne_a0__b164 : a0_ ≠ b164 := Nat.ne_of_lt (Nat.lt_of_lt_of_le F166.lt (Nat.le_of_eq g164.symm))
  have F167 := ((F145.ext E142).other W163 (Ne.symm ne_a0__b2))
  have ne_b2_b164 : b2 ≠ b164 := Nat.ne_of_lt (Nat.lt_of_lt_of_le F167.lt (Nat.le_of_eq g164.symm))
  have F168 := ((F146.ext E142).other W163 (Ne.symm ne_a0__b7))
  have ne_b7_b164 : b7 ≠ b164 := Nat.ne_of_lt (Nat.lt_of_lt_of_le F168.lt (Nat.le_of_eq g164.symm))
  have F169 := ((F147.ext E142).other W163 (Ne.symm ne_a0__b15))
  have ne_b15_b164 : b15 ≠ b164 := Nat.ne_of_lt (Nat.lt_of_lt_of_le F169.lt (Nat.le_of_eq g164.symm))
  have F170 := ((F148.ext E142).other W163 (Ne.symm ne_a0__b24))
  have ne_b24_b164 : b24 ≠ b164 := Nat.ne_of_lt (Nat.lt_of_lt_of_le F170.lt (Nat.le_of_eq g164.symm))
  have F171 := ((F149.ext E142).other W163 (Ne.symm ne_a0__b35))
  have ne_b35_b164 : b35 ≠ b164 := Nat.ne_of_lt (Nat.lt_of_lt_of_le F171.lt (Nat.le_of_eq g164.symm))
  have F172 := ((F150.ext E142).other W163 (Ne.symm ne_a0__b48))
  have ne_b48_b164 : b48 ≠ b164 := Nat.ne_of_lt (Nat.lt_of_lt_of_le F172.lt (Nat.le_of_eq g164.symm))
  have F173 := ((F151.ext E142).other W163 (Ne.symm ne_a0__b62))
  have ne_b62_b164 : b62 ≠ b164 := Nat.ne_of_lt (Nat.lt_of_lt_of_le F173.lt (Nat.le_of_eq g164.symm))
  have F174 := ((F152.ext E142).other W163 (Ne.symm ne_a0__b78))
  have ne_b78_b164 : b78 ≠ b164 := Nat.ne_of_lt (Nat.lt_of_lt_of_le F174.lt (Nat.le_of_eq g164.symm))
  have F175 := ((F153.ext E142).other W163 (Ne.symm ne_a0__b96))
  have ne_b96_b164 : b96 ≠ b164 := Nat.ne_of_lt (Nat.lt_of_lt_of_le F175.lt (Nat.le_of_eq g164.symm))
  have F176 := (V142.other W163 (Ne.symm ne_a0__b142))
  have ne_b142_b164 : b142 ≠ b164 := Nat.ne_of_lt (Nat.lt_of_lt_of_le F176.lt (Nat.le_of_eq g164.symm))
  have V164 : Arv Z h164 b164 kk164 .int (4 : Int32) [] (.int (0 : Int32)) := Arv.new A164 (by decide)
  have F177 := (((F_disjunctionMarks.ext E2).other W6 (Or.inr (slot_ne (Or.inl (hw _ (List.mem_of_getElem? (i := 40) rfl))) (Or.inl (hw _ (List.mem_of_getElem? (i := 11) rfl))) (by decide) (t := (.array .int)) (t' := (.array .int)) (by decide) (by decide)))).ext E7)
  have F178 := (((F177.other W13 (Or.inr (slot_ne (Or.inl (hw _ (List.mem_of_getElem? (i := 40) rfl))) (Or.inl (hw _ (List.mem_of_getElem? (i := 13) rfl))) (by decide) (t := (.array .int)) (t' := (.array .int)) (by decide) (by decide)))).ext E15).other W23 (Or.inr (slot_ne (Or.inl (hw _ (List.mem_of_getElem? (i := 40) rfl))) (Or.inl (hw _ (List.mem_of_getElem? (i := 15) rfl))) (by decide) (t := (.array .int)) (t' := (.array .int)) (by decide) (by decide))))
  have F179 := (((F178.ext E24).other W34 (Or.inr (slot_ne (Or.inl (hw _ (List.mem_of_getElem? (i := 40) rfl))) (Or.inl (hw _ (List.mem_of_getElem? (i := 17) rfl))) (by decide) (t := (.array .int)) (t' := (.array .int)) (by decide) (by decide)))).ext E35)
  have F180 := (((F179.other W46 (Or.inr (slot_ne (Or.inl (hw _ (List.mem_of_getElem? (i := 40) rfl))) (Or.inl (hw _ (List.mem_of_getElem? (i := 19) rfl))) (by decide) (t := (.array .int)) (t' := (.array .int)) (by decide) (by decide)))).ext E48).other W61 (Or.inr (slot_ne (Or.inl (hw _ (List.mem_of_getElem? (i := 40) rfl))) (Or.inl (hw _ (List.mem_of_getElem? (i := 21) rfl))) (by decide) (t := (.array .int)) (t' := (.array .int)) (by decide) (by decide))))
  have F181 := (((F180.ext E62).other W77 (Or.inr (slot_ne (Or.inl (hw _ (List.mem_of_getElem? (i := 40) rfl))) (Or.inl (hw _ (List.mem_of_getElem? (i := 25) rfl))) (by decide) (t := (.array .int)) (t' := (.array (.array .int))) (by decide) (by decide)))).ext E78)
  have F182 := (((F181.other W94 (Or.inr (slot_ne (Or.inl (hw _ (List.mem_of_getElem? (i := 40) rfl))) (Or.inl (hw _ (List.mem_of_getElem? (i := 28) rfl))) (by decide) (t := (.array .int)) (t' := (.array .boolean)) (by decide) (by decide)))).ext E96).other W114 (Or.inr (slot_ne (Or.inl (hw _ (List.mem_of_getElem? (i := 40) rfl))) (Or.inl (hw _ (List.mem_of_getElem? (i := 30) rfl))) (by decide) (t := (.array .int)) (t' := (.array .int)) (by decide) (by decide))))
  have F183 := (((F182.ext E115).other W135 (Or.inr (slot_ne (Or.inl (hw _ (List.mem_of_getElem? (i := 40) rfl))) (Or.inr (hw _ (List.mem_of_getElem? (i := 32) rfl))) (by decide) (t := (.array .int)) (t' := (.array .int)) (by decide) (by decide)))).keep K137 (ninS ne_a0__b115 nin0))
  have F184 := (((F183.ext E142).other W163 (Or.inr (slot_ne (Or.inl (hw _ (List.mem_of_getElem? (i := 40) rfl))) (Or.inl (hw _ (List.mem_of_getElem? (i := 38) rfl))) (by decide) (t := (.array .int)) (t' := (.array .int)) (by decide) (by decide)))).ext E164)
  have F185 := (F166.ext E164)
  obtain ⟨T186, h186, X186, e186, W186, st186⟩ := putF X164 hx hZ hown (host := "") (Or.inl (hw _ (List.mem_of_getElem? (i := 39) rfl))) Via.refl e164 F184 F185 (Or.inl (hw _ (List.mem_of_getElem? (i := 40) rfl))) (hw _ (List.mem_of_getElem? (i := 2) rfl)) (ty := (.array .int)) (by decide) rfl rfl (g := (mkF m 98 #[.val (.ref a0_), .val (.int (4 : Int32)), .val (.int (2 : Int32))] [(.ref b164), (.ref a0_)])) rfl rfl (hb hby own_d1_98)
  have N186 := Fr.snoc X186 Nf163 g_
  obtain ⟨Lf186, Nf186, Xf186⟩ := own_fold X186 N186
  have Fw186 := F184.same W186
  obtain ⟨T187, h187, kk187, X187, e187, E187, A187, st187⟩ := newP Xf186 hx hZ (hw _ (List.mem_of_getElem? (i := 0) rfl)) e186 (g := (mkF m 103 #[.val (.ref a0_), .val (.int (4 : Int32)), .val (.int (2 : Int32))] [(.int (4 : Int32)), (.ref a0_)])) rfl (hb hby own_d1_103) rfl (by decide) (cap := 4) (by decide) (by decide) (by decide) (by decide)
  obtain ⟨b187, g187⟩ : ∃ z, z = h186.size := ⟨_, rfl⟩
  rw [← g187] at A187 st187
  have K188 : Keep h0 h186 [a0_] := ((K165.ext E164).wr W186 (Or.inl (List.mem_of_getElem? (i := 0) rfl)))
  have ge_b187 : n0 ≤ b187 := Nat.le_trans (Nat.le_trans Z0 K188.1) (Nat.le_of_eq g187.symm)
  have sz_b187 : h0.size ≤ b187 := Nat.le_trans K188.1 (Nat.le_of_eq g187.symm)
  have F189 := (F185.wr W186)
  have ne_a0__b187 : a0_ ≠ b187 := Nat.ne_of_lt (Nat.lt_of_lt_of_le F189.lt (Nat.le_of_eq g187.symm))
  have F190 := ((F167.ext E164).other W186 (Ne.symm ne_a0__b2))
  have ne_b2_b187 : b2 ≠ b187 := Nat.ne_of_lt (Nat.lt_of_lt_of_le F190.lt (Nat.le_of_eq g187.symm))
  have F191 := ((F168.ext E164).other W186 (Ne.symm ne_a0__b7))
  have ne_b7_b187 : b7 ≠ b187 := Nat.ne_of_lt (Nat.lt_of_lt_of_le F191.lt (Nat.le_of_eq g187.symm))
  have F192 := ((F169.ext E164).other W186 (Ne.symm ne_a0__b15))
  have ne_b15_b187 : b15 ≠ b187 := Nat.ne_of_lt (Nat.lt_of_lt_of_le F192.lt (Nat.le_of_eq g187.symm))
  have F193 := ((F170.ext E164).other W186 (Ne.symm ne_a0__b24))
  have ne_b24_b187 : b24 ≠ b187 := Nat.ne_of_lt (Nat.lt_of_lt_of_le F193.lt (Nat.le_of_eq g187.symm))
  have F194 := ((F171.ext E164).other W186 (Ne.symm ne_a0__b35))
  have ne_b35_b187 : b35 ≠ b187 := Nat.ne_of_lt (Nat.lt_of_lt_of_le F194.lt (Nat.le_of_eq g187.symm))
  have F195 := ((F172.ext E164).other W186 (Ne.symm ne_a0__b48))
  have ne_b48_b187 : b48 ≠ b187 := Nat.ne_of_lt (Nat.lt_of_lt_of_le F195.lt (Nat.le_of_eq g187.symm))
  have F196 := ((F173.ext E164).other W186 (Ne.symm ne_a0__b62))
  have ne_b62_b187 : b62 ≠ b187 := Nat.ne_of_lt (Nat.lt_of_lt_of_le F196.lt (Nat.le_of_eq g187.symm))
  have F197 := ((F174.ext E164).other W186 (Ne.symm ne_a0__b78))
  have ne_b78_b187 : b78 ≠ b187 := Nat.ne_of_lt (Nat.lt_of_lt_of_le F197.lt (Nat.le_of_eq g187.symm))
  have F198 := ((F175.ext E164).other W186 (Ne.symm ne_a0__b96))
  have ne_b96_b187 : b96 ≠ b187 := Nat.ne_of_lt (Nat.lt_of_lt_of_le F198.lt (Nat.le_of_eq g187.symm))
  have F199 := ((F176.ext E164).other W186 (Ne.symm ne_a0__b142))
  have ne_b142_b187 : b142 ≠ b187 := Nat.ne_of_lt (Nat.lt_of_lt_of_le F199.lt (Nat.le_of_eq g187.symm))
  have F200 := (V164.other W186 (Ne.symm ne_a0__b164))
  have ne_b164_b187 : b164 ≠ b187 := Nat.ne_of_lt (Nat.lt_of_lt_of_le F200.lt (Nat.le_of_eq g187.symm))
  have V187 : Arv Z h187 b187 kk187 .int (4 : Int32) [] (.int (0 : Int32)) := Arv.new A187 (by decide)
  have F201 := (((F_builtinsLookedMarks.ext E2).other W6 (Or.inr (slot_ne (Or.inl (hw _ (List.mem_of_getElem? (i := 42) rfl))) (Or.inl (hw _ (List.mem_of_getElem? (i := 11) rfl))) (by decide) (t := (.array .int)) (t' := (.array .int)) (by decide) (by decide)))).ext E7)
  have F202 := (((F201.other W13 (Or.inr (slot_ne (Or.inl (hw _ (List.mem_of_getElem? (i := 42) rfl))) (Or.inl (hw _ (List.mem_of_getElem? (i := 13) rfl))) (by decide) (t := (.array .int)) (t' := (.array .int)) (by decide) (by decide)))).ext E15).other W23 (Or.inr (slot_ne (Or.inl (hw _ (List.mem_of_getElem? (i := 42) rfl))) (Or.inl (hw _ (List.mem_of_getElem? (i := 15) rfl))) (by decide) (t := (.array .int)) (t' := (.array .int)) (by decide) (by decide))))
  have F203 := (((F202.ext E24).other W34 (Or.inr (slot_ne (Or.inl (hw _ (List.mem_of_getElem? (i := 42) rfl))) (Or.inl (hw _ (List.mem_of_getElem? (i := 17) rfl))) (by decide) (t := (.array .int)) (t' := (.array .int)) (by decide) (by decide)))).ext E35)
  have F204 := (((F203.other W46 (Or.inr (slot_ne (Or.inl (hw _ (List.mem_of_getElem? (i := 42) rfl))) (Or.inl (hw _ (List.mem_of_getElem? (i := 19) rfl))) (by decide) (t := (.array .int)) (t' := (.array .int)) (by decide) (by decide)))).ext E48).other W61 (Or.inr (slot_ne (Or.inl (hw _ (List.mem_of_getElem? (i := 42) rfl))) (Or.inl (hw _ (List.mem_of_getElem? (i := 21) rfl))) (by decide) (t := (.array .int)) (t' := (.array .int)) (by decide) (by decide))))
  have F205 := (((F204.ext E62).other W77 (Or.inr (slot_ne (Or.inl (hw _ (List.mem_of_getElem? (i := 42) rfl))) (Or.inl (hw _ (List.mem_of_getElem? (i := 25) rfl))) (by decide) (t := (.array .int)) (t' := (.array (.array .int))) (by decide) (by decide)))).ext E78)
  have F206 := (((F205.other W94 (Or.inr (slot_ne (Or.inl (hw _ (List.mem_of_getElem? (i := 42) rfl))) (Or.inl (hw _ (List.mem_of_getElem? (i := 28) rfl))) (by decide) (t := (.array .int)) (t' := (.array .boolean)) (by decide) (by decide)))).ext E96).other W114 (Or.inr (slot_ne (Or.inl (hw _ (List.mem_of_getElem? (i := 42) rfl))) (Or.inl (hw _ (List.mem_of_getElem? (i := 30) rfl))) (by decide) (t := (.array .int)) (t' := (.array .int)) (by decide) (by decide))))
  have F207 := (((F206.ext E115).other W135 (Or.inr (slot_ne (Or.inl (hw _ (List.mem_of_getElem? (i := 42) rfl))) (Or.inr (hw _ (List.mem_of_getElem? (i := 32) rfl))) (by decide) (t := (.array .int)) (t' := (.array .int)) (by decide) (by decide)))).keep K137 (ninS ne_a0__b115 nin0))
  have F208 := (((F207.ext E142).other W163 (Or.inr (slot_ne (Or.inl (hw _ (List.mem_of_getElem? (i := 42) rfl))) (Or.inl (hw _ (List.mem_of_getElem? (i := 38) rfl))) (by decide) (t := (.array .int)) (t' := (.array .int)) (by decide) (by decide)))).ext E164)
  have F209 := ((F208.other W186 (Or.inr (slot_ne (Or.inl (hw _ (List.mem_of_getElem? (i := 42) rfl))) (Or.inl (hw _ (List.mem_of_getElem? (i := 40) rfl))) (by decide) (t := (.array .int)) (t' := (.array .int)) (by decide) (by decide)))).ext E187)
  have F210 := (F189.ext E187)
  obtain ⟨T211, h211, X211, e211, W211, st211⟩ := putF X187 hx hZ hown (host := "") (Or.inl (hw _ (List.mem_of_getElem? (i := 41) rfl))) Via.refl e187 F209 F210 (Or.inl (hw _ (List.mem_of_getElem? (i := 42) rfl))) (hw _ (List.mem_of_getElem? (i := 2) rfl)) (ty := (.array .int)) (by decide) rfl rfl (g := (mkF m 105 #[.val (.ref a0_), .val (.int (4 : Int32)), .val (.int (2 : Int32))] [(.ref b187), (.ref a0_)])) rfl rfl (hb hby own_d1_105)
  have N211 := Fr.snoc X211 Nf186 g_
  obtain ⟨Lf211, Nf211, Xf211⟩ := own_fold X211 N211
  have Fw211 := F209.same W211
  have k212 : own_To p e below T211 (mkF m 110 #[.val (.ref a0_), .val (.int (4 : Int32)), .val (.int (2 : Int32))] [(.int (4 : Int32)), (.ref a0_)]) s₁ (mkF m 0 #[.val (.ref a0_), .val (.int (4 : Int32)), .val (.int (2 : Int32))] []) := fun t q => k141 t (by
    refine st142 _ ?_
    show Steps p.tables e below (T142.setTop (mkF m 91 #[.val (.ref a0_), .val (.int (4 : Int32)), .val (.int (2 : Int32))] [(.ref b142), (.ref a0_)])) _
    refine st163 _ ?_
    show Steps p.tables e below (T163.setTop (mkF m 94 #[.val (.ref a0_), .val (.int (4 : Int32)), .val (.int (2 : Int32))] [])) _
    refine XS.aloadN Xf163.here hx rfl (hb hby own_d1_94) rfl rfl ?_
    show Steps p.tables e below (T163.setTop (mkF m 95 #[.val (.ref a0_), .val (.int (4 : Int32)), .val (.int (2 : Int32))] [(.ref a0_)])) _
    refine XS.iloadN Xf163.here hx rfl (hb hby own_d1_95) rfl ?_
    show Steps p.tables e below (T163.setTop (mkF m 96 #[.val (.ref a0_), .val (.int (4 : Int32)), .val (.int (2 : Int32))] [(.int (4 : Int32)), (.ref a0_)])) _
    refine st164 _ ?_
    show Steps p.tables e below (T164.setTop (mkF m 98 #[.val (.ref a0_), .val (.int (4 : Int32)), .val (.int (2 : Int32))] [(.ref b164), (.ref a0_)])) _
    refine st186 _ ?_
    show Steps p.tables e below (T186.setTop (mkF m 101 #[.val (.ref a0_), .val (.int (4 : Int32)), .val (.int (2 : Int32))] [])) _
    refine XS.aloadN Xf186.here hx rfl (hb hby own_d1_101) rfl rfl ?_
    show Steps p.tables e below (T186.setTop (mkF m 102 #[.val (.ref a0_), .val (.int (4 : Int32)), .val (.int (2 : Int32))] [(.ref a0_)])) _
    refine XS.iloadN Xf186.here hx rfl (hb hby own_d1_102) rfl ?_
    show Steps p.tables e below (T186.setTop (mkF m 103 #[.val (.ref a0_), .val (.int (4 : Int32)), .val (.int (2 : Int32))] [(.int (4 : Int32)), (.ref a0_)])) _
    refine st187 _ ?_
    show Steps p.tables e below (T187.setTop (mkF m 105 #[.val (.ref a0_), .val (.int (4 : Int32)), .val (.int (2 : Int32))] [(.ref b187), (.ref a0_)])) _
    refine st211 _ ?_
    show Steps p.tables e below (T211.setTop (mkF m 108 #[.val (.ref a0_), .val (.int (4 : Int32)), .val (.int (2 : Int32))] [])) _
    refine XS.aloadN Xf211.here hx rfl (hb hby own_d1_108) rfl rfl ?_
    show Steps p.tables e below (T211.setTop (mkF m 109 #[.val (.ref a0_), .val (.int (4 : Int32)), .val (.int (2 : Int32))] [(.ref a0_)])) _
    refine XS.iloadN Xf211.here hx rfl (hb hby own_d1_109) rfl ?_
    show Steps p.tables e below (T211.setTop (mkF m 110 #[.val (.ref a0_), .val (.int (4 : Int32)), .val (.int (2 : Int32))] [(.int (4 : Int32)), (.ref a0_)])) _
    exact q)
  obtain ⟨T213, h213, kk213, X213, e213, E213, A213, st213⟩ := newP Xf211 hx hZ (hw _ (List.mem_of_getElem? (i := 0) rfl)) e211 (g := (mkF m 110 #[.val (.ref a0_), .val (.int (4 : Int32)), .val (.int (2 : Int32))] [(.int (4 : Int32)), (.ref a0_)])) rfl (hb hby own_d1_110) rfl (by decide) (cap := 4) (by decide) (by decide) (by decide) (by decide)
  obtain ⟨b213, g213⟩ : ∃ z, z = h211.size := ⟨_, rfl⟩
  rw [← g213] at A213 st213
  have K214 : Keep h0 h211 [a0_] := ((K188.ext E187).wr W211 (Or.inl (List.mem_of_getElem? (i := 0) rfl)))
  have ge_b213 : n0 ≤ b213 := Nat.le_trans (Nat.le_trans Z0 K214.1) (Nat.le_of_eq g213.symm)
  have sz_b213 : h0.size ≤ b213 := Nat.le_trans K214.1 (Nat.le_of_eq g213.symm)
  have F215 := (F210.wr W211)
  have ne_a0__b213 : a0_ ≠ b213 := Nat.ne_of_lt (Nat.lt_of_lt_of_le F215.lt (Nat.le_of_eq g213.symm))
  have F216 := ((F190.ext E187).other W211 (Ne.symm ne_a0__b2))
  have ne_b2_b213 : b2 ≠ b213 := Nat.ne_of_lt (Nat.lt_of_lt_of_le F216.lt (Nat.le_of_eq g213.symm))
  have F217 := ((F191.ext E187).other W211 (Ne.symm ne_a0__b7))
  have ne_b7_b213 : b7 ≠ b213 := Nat.ne_of_lt (Nat.lt_of_lt_of_le F217.lt (Nat.le_of_eq g213.symm))
  have F218 := ((F192.ext E187).other W211 (Ne.symm ne_a0__b15))
  have ne_b15_b213 : b15 ≠ b213 := Nat.ne_of_lt (Nat.lt_of_lt_of_le F218.lt (Nat.le_of_eq g213.symm))
  have F219 := ((F193.ext E187).other W211 (Ne.symm ne_a0__b24))
  have ne_b24_b213 : b24 ≠ b213 := Nat.ne_of_lt (Nat.lt_of_lt_of_le F219.lt (Nat.le_of_eq g213.symm))
  have F220 := ((F194.ext E187).other W211 (Ne.symm ne_a0__b35))
  have ne_b35_b213 : b35 ≠ b213 := Nat.ne_of_lt (Nat.lt_of_lt_of_le F220.lt (Nat.le_of_eq g213.symm))
  have F221 := ((F195.ext E187).other W211 (Ne.symm ne_a0__b48))
  have ne_b48_b213 : b48 ≠ b213 := Nat.ne_of_lt (Nat.lt_of_lt_of_le F221.lt (Nat.le_of_eq g213.symm))
  have F222 := ((F196.ext E187).other W211 (Ne.symm ne_a0__b62))
  have ne_b62_b213 : b62 ≠ b213 := Nat.ne_of_lt (Nat.lt_of_lt_of_le F222.lt (Nat.le_of_eq g213.symm))
  have F223 := ((F197.ext E187).other W211 (Ne.symm ne_a0__b78))
  have ne_b78_b213 : b78 ≠ b213 := Nat.ne_of_lt (Nat.lt_of_lt_of_le F223.lt (Nat.le_of_eq g213.symm))
  have F224 := ((F198.ext E187).other W211 (Ne.symm ne_a0__b96))
  have ne_b96_b213 : b96 ≠ b213 := Nat.ne_of_lt (Nat.lt_of_lt_of_le F224.lt (Nat.le_of_eq g213.symm))
  have F225 := ((F199.ext E187).other W211 (Ne.symm ne_a0__b142))
  have ne_b142_b213 : b142 ≠ b213 := Nat.ne_of_lt (Nat.lt_of_lt_of_le F225.lt (Nat.le_of_eq g213.symm))
  have F226 := ((F200.ext E187).other W211 (Ne.symm ne_a0__b164))
  have ne_b164_b213 : b164 ≠ b213 := Nat.ne_of_lt (Nat.lt_of_lt_of_le F226.lt (Nat.le_of_eq g213.symm))
  have F227 := (V187.other W211 (Ne.symm ne_a0__b187))
  have ne_b187_b213 : b187 ≠ b213 := Nat.ne_of_lt (Nat.lt_of_lt_of_le F227.lt (Nat.le_of_eq g213.symm))
  have V213 : Arv Z h213 b213 kk213 .int (4 : Int32) [] (.int (0 : Int32)) := Arv.new A213 (by decide)
  have F228 := (((F_disjunctionsLookedMarks.ext E2).other W6 (Or.inr (slot_ne (Or.inl (hw _ (List.mem_of_getElem? (i := 44) rfl))) (Or.inl (hw _ (List.mem_of_getElem? (i := 11) rfl))) (by decide) (t := (.array .int)) (t' := (.array .int)) (by decide) (by decide)))).ext E7)
  have F229 := (((F228.other W13 (Or.inr (slot_ne (Or.inl (hw _ (List.mem_of_getElem? (i := 44) rfl))) (Or.inl (hw _ (List.mem_of_getElem? (i := 13) rfl))) (by decide) (t := (.array .int)) (t' := (.array .int)) (by decide) (by decide)))).ext E15).other W23 (Or.inr (slot_ne (Or.inl (hw _ (List.mem_of_getElem? (i := 44) rfl))) (Or.inl (hw _ (List.mem_of_getElem? (i := 15) rfl))) (by decide) (t := (.array .int)) (t' := (.array .int)) (by decide) (by decide))))
  have F230 := (((F229.ext E24).other W34 (Or.inr (slot_ne (Or.inl (hw _ (List.mem_of_getElem? (i := 44) rfl))) (Or.inl (hw _ (List.mem_of_getElem? (i := 17) rfl))) (by decide) (t := (.array .int)) (t' := (.array .int)) (by decide) (by decide)))).ext E35)
  have F231 := (((F230.other W46 (Or.inr (slot_ne (Or.inl (hw _ (List.mem_of_getElem? (i := 44) rfl))) (Or.inl (hw _ (List.mem_of_getElem? (i := 19) rfl))) (by decide) (t := (.array .int)) (t' := (.array .int)) (by decide) (by decide)))).ext E48).other W61 (Or.inr (slot_ne (Or.inl (hw _ (List.mem_of_getElem? (i := 44) rfl))) (Or.inl (hw _ (List.mem_of_getElem? (i := 21) rfl))) (by decide) (t := (.array .int)) (t' := (.array .int)) (by decide) (by decide))))
  have F232 := (((F231.ext E62).other W77 (Or.inr (slot_ne (Or.inl (hw _ (List.mem_of_getElem? (i := 44) rfl))) (Or.inl (hw _ (List.mem_of_getElem? (i := 25) rfl))) (by decide) (t := (.array .int)) (t' := (.array (.array .int))) (by decide) (by decide)))).ext E78)
  have F233 := (((F232.other W94 (Or.inr (slot_ne (Or.inl (hw _ (List.mem_of_getElem? (i := 44) rfl))) (Or.inl (hw _ (List.mem_of_getElem? (i := 28) rfl))) (by decide) (t := (.array .int)) (t' := (.array .boolean)) (by decide) (by decide)))).ext E96).other W114 (Or.inr (slot_ne (Or.inl (hw _ (List.mem_of_getElem? (i := 44) rfl))) (Or.inl (hw _ (List.mem_of_getElem? (i := 30) rfl))) (by decide) (t := (.array .int)) (t' := (.array .int)) (by decide) (by decide))))
  have F234 := (((F233.ext E115).other W135 (Or.inr (slot_ne (Or.inl (hw _ (List.mem_of_getElem? (i := 44) rfl))) (Or.inr (hw _ (List.mem_of_getElem? (i := 32) rfl))) (by decide) (t := (.array .int)) (t' := (.array .int)) (by decide) (by decide)))).keep K137 (ninS ne_a0__b115 nin0))
  have F235 := (((F234.ext E142).other W163 (Or.inr (slot_ne (Or.inl (hw _ (List.mem_of_getElem? (i := 44) rfl))) (Or.inl (hw _ (List.mem_of_getElem? (i := 38) rfl))) (by decide) (t := (.array .int)) (t' := (.array .int)) (by decide) (by decide)))).ext E164)
  have F236 := (((F235.other W186 (Or.inr (slot_ne (Or.inl (hw _ (List.mem_of_getElem? (i := 44) rfl))) (Or.inl (hw _ (List.mem_of_getElem? (i := 40) rfl))) (by decide) (t := (.array .int)) (t' := (.array .int)) (by decide) (by decide)))).ext E187).other W211 (Or.inr (slot_ne (Or.inl (hw _ (List.mem_of_getElem? (i := 44) rfl))) (Or.inl (hw _ (List.mem_of_getElem? (i := 42) rfl))) (by decide) (t := (.array .int)) (t' := (.array .int)) (by decide) (by decide))))
  have F237 := (F236.ext E213)
  have F238 := (F215.ext E213)
  obtain ⟨T239, h239, X239, e239, W239, st239⟩ := putF X213 hx hZ hown (host := "") (Or.inl (hw _ (List.mem_of_getElem? (i := 43) rfl))) Via.refl e213 F237 F238 (Or.inl (hw _ (List.mem_of_getElem? (i := 44) rfl))) (hw _ (List.mem_of_getElem? (i := 2) rfl)) (ty := (.array .int)) (by decide) rfl rfl (g := (mkF m 112 #[.val (.ref a0_), .val (.int (4 : Int32)), .val (.int (2 : Int32))] [(.ref b213), (.ref a0_)])) rfl rfl (hb hby own_d1_112)
  have N239 := Fr.snoc X239 Nf211 g_
  obtain ⟨Lf239, Nf239, Xf239⟩ := own_fold X239 N239
  have Fw239 := F237.same W239
  obtain ⟨T240, h240, kk240, X240, e240, E240, A240, st240⟩ := newP Xf239 hx hZ (hw _ (List.mem_of_getElem? (i := 0) rfl)) e239 (g := (mkF m 117 #[.val (.ref a0_), .val (.int (4 : Int32)), .val (.int (2 : Int32))] [(.int (4 : Int32)), (.ref a0_)])) rfl (hb hby own_d1_117) rfl (by decide) (cap := 4) (by decide) (by decide) (by decide) (by decide)
  obtain ⟨b240, g240⟩ : ∃ z, z = h239.size := ⟨_, rfl⟩
  rw [← g240] at A240 st240
  have K241 : Keep h0 h239 [a0_] := ((K214.ext E213).wr W239 (Or.inl (List.mem_of_getElem? (i := 0) rfl)))
  have ge_b240 : n0 ≤ b240 := Nat.le_trans (Nat.le_trans Z0 K241.1) (Nat.le_of_eq g240.symm)
  have sz_b240 : h0.size ≤ b240 := Nat.le_trans K241.1 (Nat.le_of_eq g240.symm)
  have F242 := (F238.wr W239)
  have ne_a0__b240 : a0_ ≠ b240 := Nat.ne_of_lt (Nat.lt_of_lt_of_le F242.lt (Nat.le_of_eq g240.symm))
  have F243 := ((F216.ext E213).other W239 (Ne.symm ne_a0__b2))
  have ne_b2_b240 : b2 ≠ b240 := Nat.ne_of_lt (Nat.lt_of_lt_of_le F243.lt (Nat.le_of_eq g240.symm))
  have F244 := ((F217.ext E213).other W239 (Ne.symm ne_a0__b7))
  have ne_b7_b240 : b7 ≠ b240 := Nat.ne_of_lt (Nat.lt_of_lt_of_le F244.lt (Nat.le_of_eq g240.symm))
  have F245 := ((F218.ext E213).other W239 (Ne.symm ne_a0__b15))
  have ne_b15_b240 : b15 ≠ b240 := Nat.ne_of_lt (Nat.lt_of_lt_of_le F245.lt (Nat.le_of_eq g240.symm))
  have F246 := ((F219.ext E213).other W239 (Ne.symm ne_a0__b24))
  have ne_b24_b240 : b24 ≠ b240 := Nat.ne_of_lt (Nat.lt_of_lt_of_le F246.lt (Nat.le_of_eq g240.symm))
  have F247 := ((F220.ext E213).other W239 (Ne.symm ne_a0__b35))
  have ne_b35_b240 : b35 ≠ b240 := Nat.ne_of_lt (Nat.lt_of_lt_of_le F247.lt (Nat.le_of_eq g240.symm))
  have F248 := ((F221.ext E213).other W239 (Ne.symm ne_a0__b48))
  have ne_b48_b240 : b48 ≠ b240 := Nat.ne_of_lt (Nat.lt_of_lt_of_le F248.lt (Nat.le_of_eq g240.symm))
  have F249 := ((F222.ext E213).other W239 (Ne.symm ne_a0__b62))
  have ne_b62_b240 : b62 ≠ b240 := Nat.ne_of_lt (Nat.lt_of_lt_of_le F249.lt (Nat.le_of_eq g240.symm))
  have F250 := ((F223.ext E213).other W239 (Ne.symm ne_a0__b78))
  have ne_b78_b240 : b78 ≠ b240 := Nat.ne_of_lt (Nat.lt_of_lt_of_le F250.lt (Nat.le_of_eq g240.symm))
  have F251 := ((F224.ext E213).other W239 (Ne.symm ne_a0__b96))
  have ne_b96_b240 : b96 ≠ b240 := Nat.ne_of_lt (Nat.lt_of_lt_of_le F251.lt (Nat.le_of_eq g240.symm))
  have F252 := ((F225.ext E213).other W239 (Ne.symm ne_a0__b142))
  have ne_b142_b240 : b142 ≠ b240 := Nat.ne_of_lt (Nat.lt_of_lt_of_le F252.lt (Nat.le_of_eq g240.symm))
  have F253 := ((F226.ext E213).other W239 (Ne.symm ne_a0__b164))
  have ne_b164_b240 : b164 ≠ b240 := Nat.ne_of_lt (Nat.lt_of_lt_of_le F253.lt (Nat.le_of_eq g240.symm))
  have F254 := ((F227.ext E213).other W239 (Ne.symm ne_a0__b187))
  have ne_b187_b240 : b187 ≠ b240 := Nat.ne_of_lt (Nat.lt_of_lt_of_le F254.lt (Nat.le_of_eq g240.symm))
  have F255 := (V213.other W239 (Ne.symm ne_a0__b213))
  have ne_b213_b240 : b213 ≠ b240 := Nat.ne_of_lt (Nat.lt_of_lt_of_le F255.lt (Nat.le_of_eq g240.symm))
  have V240 : Arv Z h240 b240 kk240 .int (4 : Int32) [] (.int (0 : Int32)) := Arv.new A240 (by decide)
  have F256 := (((F_settledMarks.ext E2).other W6 (Or.inr (slot_ne (Or.inl (hw _ (List.mem_of_getElem? (i := 46) rfl))) (Or.inl (hw _ (List.mem_of_getElem? (i := 11) rfl))) (by decide) (t := (.array .int)) (t' := (.array .int)) (by decide) (by decide)))).ext E7)
  have F257 := (((F256.other W13 (Or.inr (slot_ne (Or.inl (hw _ (List.mem_of_getElem? (i := 46) rfl))) (Or.inl (hw _ (List.mem_of_getElem? (i := 13) rfl))) (by decide) (t := (.array .int)) (t' := (.array .int)) (by decide) (by decide)))).ext E15).other W23 (Or.inr (slot_ne (Or.inl (hw _ (List.mem_of_getElem? (i := 46) rfl))) (Or.inl (hw _ (List.mem_of_getElem? (i := 15) rfl))) (by decide) (t := (.array .int)) (t' := (.array .int)) (by decide) (by decide))))
  have F258 := (((F257.ext E24).other W34 (Or.inr (slot_ne (Or.inl (hw _ (List.mem_of_getElem? (i := 46) rfl))) (Or.inl (hw _ (List.mem_of_getElem? (i := 17) rfl))) (by decide) (t := (.array .int)) (t' := (.array .int)) (by decide) (by decide)))).ext E35)
  have F259 := (((F258.other W46 (Or.inr (slot_ne (Or.inl (hw _ (List.mem_of_getElem? (i := 46) rfl))) (Or.inl (hw _ (List.mem_of_getElem? (i := 19) rfl))) (by decide) (t := (.array .int)) (t' := (.array .int)) (by decide) (by decide)))).ext E48).other W61 (Or.inr (slot_ne (Or.inl (hw _ (List.mem_of_getElem? (i := 46) rfl))) (Or.inl (hw _ (List.mem_of_getElem? (i := 21) rfl))) (by decide) (t := (.array .int)) (t' := (.array .int)) (by decide) (by decide))))
  have F260 := (((F259.ext E62).other W77 (Or.inr (slot_ne (Or.inl (hw _ (List.mem_of_getElem? (i := 46) rfl))) (Or.inl (hw _ (List.mem_of_getElem? (i := 25) rfl))) (by decide) (t := (.array .int)) (t' := (.array (.array .int))) (by decide) (by decide)))).ext E78)
  have F261 := (((F260.other W94 (Or.inr (slot_ne (Or.inl (hw _ (List.mem_of_getElem? (i := 46) rfl))) (Or.inl (hw _ (List.mem_of_getElem? (i := 28) rfl))) (by decide) (t := (.array .int)) (t' := (.array .boolean)) (by decide) (by decide)))).ext E96).other W114 (Or.inr (slot_ne (Or.inl (hw _ (List.mem_of_getElem? (i := 46) rfl))) (Or.inl (hw _ (List.mem_of_getElem? (i := 30) rfl))) (by decide) (t := (.array .int)) (t' := (.array .int)) (by decide) (by decide))))
  have F262 := (((F261.ext E115).other W135 (Or.inr (slot_ne (Or.inl (hw _ (List.mem_of_getElem? (i := 46) rfl))) (Or.inr (hw _ (List.mem_of_getElem? (i := 32) rfl))) (by decide) (t := (.array .int)) (t' := (.array .int)) (by decide) (by decide)))).keep K137 (ninS ne_a0__b115 nin0))
  have F263 := (((F262.ext E142).other W163 (Or.inr (slot_ne (Or.inl (hw _ (List.mem_of_getElem? (i := 46) rfl))) (Or.inl (hw _ (List.mem_of_getElem? (i := 38) rfl))) (by decide) (t := (.array .int)) (t' := (.array .int)) (by decide) (by decide)))).ext E164)
  have F264 := (((F263.other W186 (Or.inr (slot_ne (Or.inl (hw _ (List.mem_of_getElem? (i := 46) rfl))) (Or.inl (hw _ (List.mem_of_getElem? (i := 40) rfl))) (by decide) (t := (.array .int)) (t' := (.array .int)) (by decide) (by decide)))).ext E187).other W211 (Or.inr (slot_ne (Or.inl (hw _ (List.mem_of_getElem? (i := 46) rfl))) (Or.inl (hw _ (List.mem_of_getElem? (i := 42) rfl))) (by decide) (t := (.array .int)) (t' := (.array .int)) (by decide) (by decide))))
  have F265 := (((F264.ext E213).other W239 (Or.inr (slot_ne (Or.inl (hw _ (List.mem_of_getElem? (i := 46) rfl))) (Or.inl (hw _ (List.mem_of_getElem? (i := 44) rfl))) (by decide) (t := (.array .int)) (t' := (.array .int)) (by decide) (by decide)))).ext E240)
  have F266 := (F242.ext E240)
  obtain ⟨T267, h267, X267, e267, W267, st267⟩ := putF X240 hx hZ hown (host := "") (Or.inl (hw _ (List.mem_of_getElem? (i := 45) rfl))) Via.refl e240 F265 F266 (Or.inl (hw _ (List.mem_of_getElem? (i := 46) rfl))) (hw _ (List.mem_of_getElem? (i := 2) rfl)) (ty := (.array .int)) (by decide) rfl rfl (g := (mkF m 119 #[.val (.ref a0_), .val (.int (4 : Int32)), .val (.int (2 : Int32))] [(.ref b240), (.ref a0_)])) rfl rfl (hb hby own_d1_119)
  have N267 := Fr.snoc X267 Nf239 g_
  obtain ⟨Lf267, Nf267, Xf267⟩ := own_fold X267 N267
  have Fw267 := F265.same W267
  obtain ⟨T268, h268, kk268, X268, e268, E268, A268, st268⟩ := newP Xf267 hx hZ (hw _ (List.mem_of_getElem? (i := 0) rfl)) e267 (g := (mkF m 124 #[.val (.ref a0_), .val (.int (4 : Int32)), .val (.int (2 : Int32))] [(.int (4 : Int32)), (.ref a0_)])) rfl (hb hby own_d1_124) rfl (by decide) (cap := 4) (by decide) (by decide) (by decide) (by decide)
  obtain ⟨b268, g268⟩ : ∃ z, z = h267.size := ⟨_, rfl⟩
  rw [← g268] at A268 st268
  have K269 : Keep h0 h267 [a0_] := ((K241.ext E240).wr W267 (Or.inl (List.mem_of_getElem? (i := 0) rfl)))
  have ge_b268 : n0 ≤ b268 := Nat.le_trans (Nat.le_trans Z0 K269.1) (Nat.le_of_eq g268.symm)
  have sz_b268 : h0.size ≤ b268 := Nat.le_trans K269.1 (Nat.le_of_eq g268.symm)
  have F270 := (F266.wr W267)
  have ne_a0__b268 : a0_ ≠ b268 := Nat.ne_of_lt (Nat.lt_of_lt_of_le F270.lt (Nat.le_of_eq g268.symm))
  have F271 := ((F243.ext E240).other W267 (Ne.symm ne_a0__b2))
  have ne_b2_b268 : b2 ≠ b268 := Nat.ne_of_lt (Nat.lt_of_lt_of_le F271.lt (Nat.le_of_eq g268.symm))
  have F272 := ((F244.ext E240).other W267 (Ne.symm ne_a0__b7))
  have ne_b7_b268 : b7 ≠ b268 := Nat.ne_of_lt (Nat.lt_of_lt_of_le F272.lt (Nat.le_of_eq g268.symm))
  have F273 := ((F245.ext E240).other W267 (Ne.symm ne_a0__b15))
  have ne_b15_b268 : b15 ≠ b268 := Nat.ne_of_lt (Nat.lt_of_lt_of_le F273.lt (Nat.le_of_eq g268.symm))
  have F274 := ((F246.ext E240).other W267 (Ne.symm ne_a0__b24))
  have ne_b24_b268 : b24 ≠ b268 := Nat.ne_of_lt (Nat.lt_of_lt_of_le F274.lt (Nat.le_of_eq g268.symm))
  have F275 := ((F247.ext E240).other W267 (Ne.symm ne_a0__b35))
  have ne_b35_b268 : b35 ≠ b268 := Nat.ne_of_lt (Nat.lt_of_lt_of_le F275.lt (Nat.le_of_eq g268.symm))
  have F276 := ((F248.ext E240).other W267 (Ne.symm ne_a0__b48))
  have ne_b48_b268 : b48 ≠ b268 := Nat.ne_of_lt (Nat.lt_of_lt_of_le F276.lt (Nat.le_of_eq g268.symm))
  have F277 := ((F249.ext E240).other W267 (Ne.symm ne_a0__b62))
  have ne_b62_b268 : b62 ≠ b268 := Nat.ne_of_lt (Nat.lt_of_lt_of_le F277.lt (Nat.le_of_eq g268.symm))
  have F278 := ((F250.ext E240).other W267 (Ne.symm ne_a0__b78))
  have ne_b78_b268 : b78 ≠ b268 := Nat.ne_of_lt (Nat.lt_of_lt_of_le F278.lt (Nat.le_of_eq g268.symm))
  have F279 := ((F251.ext E240).other W267 (Ne.symm ne_a0__b96))
  have ne_b96_b268 : b96 ≠ b268 := Nat.ne_of_lt (Nat.lt_of_lt_of_le F279.lt (Nat.le_of_eq g268.symm))
  have F280 := ((F252.ext E240).other W267 (Ne.symm ne_a0__b142))
  have ne_b142_b268 : b142 ≠ b268 := Nat.ne_of_lt (Nat.lt_of_lt_of_le F280.lt (Nat.le_of_eq g268.symm))
  have F281 := ((F253.ext E240).other W267 (Ne.symm ne_a0__b164))
  have ne_b164_b268 : b164 ≠ b268 := Nat.ne_of_lt (Nat.lt_of_lt_of_le F281.lt (Nat.le_of_eq g268.symm))
  have F282 := ((F254.ext E240).other W267 (Ne.symm ne_a0__b187))
  have ne_b187_b268 : b187 ≠ b268 := Nat.ne_of_lt (Nat.lt_of_lt_of_le F282.lt (Nat.le_of_eq g268.symm))
  have F283 := ((F255.ext E240).other W267 (Ne.symm ne_a0__b213))
  have ne_b213_b268 : b213 ≠ b268 := Nat.ne_of_lt (Nat.lt_of_lt_of_le F283.lt (Nat.le_of_eq g268.symm))
  have F284 := (V240.other W267 (Ne.symm ne_a0__b240))
  have ne_b240_b268 : b240 ≠ b268 := Nat.ne_of_lt (Nat.lt_of_lt_of_le F284.lt (Nat.le_of_eq g268.symm))
  have V268 : Arv Z h268 b268 kk268 .int (4 : Int32) [] (.int (0 : Int32)) := Arv.new A268 (by decide)
  have F285 := (((F_readyMarks.ext E2).other W6 (Or.inr (slot_ne (Or.inl (hw _ (List.mem_of_getElem? (i := 48) rfl))) (Or.inl (hw _ (List.mem_of_getElem? (i := 11) rfl))) (by decide) (t := (.array .int)) (t' := (.array .int)) (by decide) (by decide)))).ext E7)
  have F286 := (((F285.other W13 (Or.inr (slot_ne (Or.inl (hw _ (List.mem_of_getElem? (i := 48) rfl))) (Or.inl (hw _ (List.mem_of_getElem? (i := 13) rfl))) (by decide) (t := (.array .int)) (t' := (.array .int)) (by decide) (by decide)))).ext E15).other W23 (Or.inr (slot_ne (Or.inl (hw _ (List.mem_of_getElem? (i := 48) rfl))) (Or.inl (hw _ (List.mem_of_getElem? (i := 15) rfl))) (by decide) (t := (.array .int)) (t' := (.array .int)) (by decide) (by decide))))
  have F287 := (((F286.ext E24).other W34 (Or.inr (slot_ne (Or.inl (hw _ (List.mem_of_getElem? (i := 48) rfl))) (Or.inl (hw _ (List.mem_of_getElem? (i := 17) rfl))) (by decide) (t := (.array .int)) (t' := (.array .int)) (by decide) (by decide)))).ext E35)
  have F288 := (((F287.other W46 (Or.inr (slot_ne (Or.inl (hw _ (List.mem_of_getElem? (i := 48) rfl))) (Or.inl (hw _ (List.mem_of_getElem? (i := 19) rfl))) (by decide) (t := (.array .int)) (t' := (.array .int)) (by decide) (by decide)))).ext E48).other W61 (Or.inr (slot_ne (Or.inl (hw _ (List.mem_of_getElem? (i := 48) rfl))) (Or.inl (hw _ (List.mem_of_getElem? (i := 21) rfl))) (by decide) (t := (.array .int)) (t' := (.array .int)) (by decide) (by decide))))
  have F289 := (((F288.ext E62).other W77 (Or.inr (slot_ne (Or.inl (hw _ (List.mem_of_getElem? (i := 48) rfl))) (Or.inl (hw _ (List.mem_of_getElem? (i := 25) rfl))) (by decide) (t := (.array .int)) (t' := (.array (.array .int))) (by decide) (by decide)))).ext E78)
  have F290 := (((F289.other W94 (Or.inr (slot_ne (Or.inl (hw _ (List.mem_of_getElem? (i := 48) rfl))) (Or.inl (hw _ (List.mem_of_getElem? (i := 28) rfl))) (by decide) (t := (.array .int)) (t' := (.array .boolean)) (by decide) (by decide)))).ext E96).other W114 (Or.inr (slot_ne (Or.inl (hw _ (List.mem_of_getElem? (i := 48) rfl))) (Or.inl (hw _ (List.mem_of_getElem? (i := 30) rfl))) (by decide) (t := (.array .int)) (t' := (.array .int)) (by decide) (by decide))))
  have F291 := (((F290.ext E115).other W135 (Or.inr (slot_ne (Or.inl (hw _ (List.mem_of_getElem? (i := 48) rfl))) (Or.inr (hw _ (List.mem_of_getElem? (i := 32) rfl))) (by decide) (t := (.array .int)) (t' := (.array .int)) (by decide) (by decide)))).keep K137 (ninS ne_a0__b115 nin0))
  have F292 := (((F291.ext E142).other W163 (Or.inr (slot_ne (Or.inl (hw _ (List.mem_of_getElem? (i := 48) rfl))) (Or.inl (hw _ (List.mem_of_getElem? (i := 38) rfl))) (by decide) (t := (.array .int)) (t' := (.array .int)) (by decide) (by decide)))).ext E164)
  have F293 := (((F292.other W186 (Or.inr (slot_ne (Or.inl (hw _ (List.mem_of_getElem? (i := 48) rfl))) (Or.inl (hw _ (List.mem_of_getElem? (i := 40) rfl))) (by decide) (t := (.array .int)) (t' := (.array .int)) (by decide) (by decide)))).ext E187).other W211 (Or.inr (slot_ne (Or.inl (hw _ (List.mem_of_getElem? (i := 48) rfl))) (Or.inl (hw _ (List.mem_of_getElem? (i := 42) rfl))) (by decide) (t := (.array .int)) (t' := (.array .int)) (by decide) (by decide))))
  have F294 := (((F293.ext E213).other W239 (Or.inr (slot_ne (Or.inl (hw _ (List.mem_of_getElem? (i := 48) rfl))) (Or.inl (hw _ (List.mem_of_getElem? (i := 44) rfl))) (by decide) (t := (.array .int)) (t' := (.array .int)) (by decide) (by decide)))).ext E240)
  have F295 := ((F294.other W267 (Or.inr (slot_ne (Or.inl (hw _ (List.mem_of_getElem? (i := 48) rfl))) (Or.inl (hw _ (List.mem_of_getElem? (i := 46) rfl))) (by decide) (t := (.array .int)) (t' := (.array .int)) (by decide) (by decide)))).ext E268)
  have F296 := (F270.ext E268)
  obtain ⟨T297, h297, X297, e297, W297, st297⟩ := putF X268 hx hZ hown (host := "") (Or.inl (hw _ (List.mem_of_getElem? (i := 47) rfl))) Via.refl e268 F295 F296 (Or.inl (hw _ (List.mem_of_getElem? (i := 48) rfl))) (hw _ (List.mem_of_getElem? (i := 2) rfl)) (ty := (.array .int)) (by decide) rfl rfl (g := (mkF m 126 #[.val (.ref a0_), .val (.int (4 : Int32)), .val (.int (2 : Int32))] [(.ref b268), (.ref a0_)])) rfl rfl (hb hby own_d1_126)
  have N297 := Fr.snoc X297 Nf267 g_
  obtain ⟨Lf297, Nf297, Xf297⟩ := own_fold X297 N297
  have Fw297 := F295.same W297
  have k298 : own_To p e below T297 (mkF m 131 #[.val (.ref a0_), .val (.int (4 : Int32)), .val (.int (2 : Int32))] [(.int (4 : Int32)), (.ref a0_)]) s₁ (mkF m 0 #[.val (.ref a0_), .val (.int (4 : Int32)), .val (.int (2 : Int32))] []) := fun t q => k212 t (by
    refine st213 _ ?_
    show Steps p.tables e below (T213.setTop (mkF m 112 #[.val (.ref a0_), .val (.int (4 : Int32)), .val (.int (2 : Int32))] [(.ref b213), (.ref a0_)])) _
    refine st239 _ ?_
    show Steps p.tables e below (T239.setTop (mkF m 115 #[.val (.ref a0_), .val (.int (4 : Int32)), .val (.int (2 : Int32))] [])) _
    refine XS.aloadN Xf239.here hx rfl (hb hby own_d1_115) rfl rfl ?_
    show Steps p.tables e below (T239.setTop (mkF m 116 #[.val (.ref a0_), .val (.int (4 : Int32)), .val (.int (2 : Int32))] [(.ref a0_)])) _
    refine XS.iloadN Xf239.here hx rfl (hb hby own_d1_116) rfl ?_
    show Steps p.tables e below (T239.setTop (mkF m 117 #[.val (.ref a0_), .val (.int (4 : Int32)), .val (.int (2 : Int32))] [(.int (4 : Int32)), (.ref a0_)])) _
    refine st240 _ ?_
    show Steps p.tables e below (T240.setTop (mkF m 119 #[.val (.ref a0_), .val (.int (4 : Int32)), .val (.int (2 : Int32))] [(.ref b240), (.ref a0_)])) _
    refine st267 _ ?_
    show Steps p.tables e below (T267.setTop (mkF m 122 #[.val (.ref a0_), .val (.int (4 : Int32)), .val (.int (2 : Int32))] [])) _
    refine XS.aloadN Xf267.here hx rfl (hb hby own_d1_122) rfl rfl ?_
    show Steps p.tables e below (T267.setTop (mkF m 123 #[.val (.ref a0_), .val (.int (4 : Int32)), .val (.int (2 : Int32))] [(.ref a0_)])) _
    refine XS.iloadN Xf267.here hx rfl (hb hby own_d1_123) rfl ?_
    show Steps p.tables e below (T267.setTop (mkF m 124 #[.val (.ref a0_), .val (.int (4 : Int32)), .val (.int (2 : Int32))] [(.int (4 : Int32)), (.ref a0_)])) _
    refine st268 _ ?_
    show Steps p.tables e below (T268.setTop (mkF m 126 #[.val (.ref a0_), .val (.int (4 : Int32)), .val (.int (2 : Int32))] [(.ref b268), (.ref a0_)])) _
    refine st297 _ ?_
    show Steps p.tables e below (T297.setTop (mkF m 129 #[.val (.ref a0_), .val (.int (4 : Int32)), .val (.int (2 : Int32))] [])) _
    refine XS.aloadN Xf297.here hx rfl (hb hby own_d1_129) rfl rfl ?_
    show Steps p.tables e below (T297.setTop (mkF m 130 #[.val (.ref a0_), .val (.int (4 : Int32)), .val (.int (2 : Int32))] [(.ref a0_)])) _
    refine XS.iloadN Xf297.here hx rfl (hb hby own_d1_130) rfl ?_
    show Steps p.tables e below (T297.setTop (mkF m 131 #[.val (.ref a0_), .val (.int (4 : Int32)), .val (.int (2 : Int32))] [(.int (4 : Int32)), (.ref a0_)])) _
    exact q)
  obtain ⟨T299, h299, kk299, X299, e299, E299, A299, st299⟩ := newP Xf297 hx hZ (hw _ (List.mem_of_getElem? (i := 0) rfl)) e297 (g := (mkF m 131 #[.val (.ref a0_), .val (.int (4 : Int32)), .val (.int (2 : Int32))] [(.int (4 : Int32)), (.ref a0_)])) rfl (hb hby own_d1_131) rfl (by decide) (cap := 4) (by decide) (by decide) (by decide) (by decide)
  obtain ⟨b299, g299⟩ : ∃ z, z = h297.size := ⟨_, rfl⟩
  rw [← g299] at A299 st299
  have K300 : Keep h0 h297 [a0_] := ((K269.ext E268).wr W297 (Or.inl (List.mem_of_getElem? (i := 0) rfl)))
  have ge_b299 : n0 ≤ b299 := Nat.le_trans (Nat.le_trans Z0 K300.1) (Nat.le_of_eq g299.symm)
  have sz_b299 : h0.size ≤ b299 := Nat.le_trans K300.1 (Nat.le_of_eq g299.symm)
  have F301 := (F296.wr W297)
  have ne_a0__b299 : a0_ ≠ b299 := Nat.ne_of_lt (Nat.lt_of_lt_of_le F301.lt (Nat.le_of_eq g299.symm))
  have F302 := ((F271.ext E268).other W297 (Ne.symm ne_a0__b2))
  have ne_b2_b299 : b2 ≠ b299 := Nat.ne_of_lt (Nat.lt_of_lt_of_le F302.lt (Nat.le_of_eq g299.symm))
  have F303 := ((F272.ext E268).other W297 (Ne.symm ne_a0__b7))
  have ne_b7_b299 : b7 ≠ b299 := Nat.ne_of_lt (Nat.lt_of_lt_of_le F303.lt (Nat.le_of_eq g299.symm))
  have F304 := ((F273.ext E268).other W297 (Ne.symm ne_a0__b15))
  have ne_b15_b299 : b15 ≠ b299 := Nat.ne_of_lt (Nat.lt_of_lt_of_le F304.lt (Nat.le_of_eq g299.symm))
  have F305 := ((F274.ext E268).other W297 (Ne.symm ne_a0__b24))
  have ne_b24_b299 : b24 ≠ b299 := Nat.ne_of_lt (Nat.lt_of_lt_of_le F305.lt (Nat.le_of_eq g299.symm))
  have F306 := ((F275.ext E268).other W297 (Ne.symm ne_a0__b35))
  have ne_b35_b299 : b35 ≠ b299 := Nat.ne_of_lt (Nat.lt_of_lt_of_le F306.lt (Nat.le_of_eq g299.symm))
  have F307 := ((F276.ext E268).other W297 (Ne.symm ne_a0__b48))
  have ne_b48_b299 : b48 ≠ b299 := Nat.ne_of_lt (Nat.lt_of_lt_of_le F307.lt (Nat.le_of_eq g299.symm))
  have F308 := ((F277.ext E268).other W297 (Ne.symm ne_a0__b62))
  have ne_b62_b299 : b62 ≠ b299 := Nat.ne_of_lt (Nat.lt_of_lt_of_le F308.lt (Nat.le_of_eq g299.symm))
  have F309 := ((F278.ext E268).other W297 (Ne.symm ne_a0__b78))
  have ne_b78_b299 : b78 ≠ b299 := Nat.ne_of_lt (Nat.lt_of_lt_of_le F309.lt (Nat.le_of_eq g299.symm))
  have F310 := ((F279.ext E268).other W297 (Ne.symm ne_a0__b96))
  have ne_b96_b299 : b96 ≠ b299 := Nat.ne_of_lt (Nat.lt_of_lt_of_le F310.lt (Nat.le_of_eq g299.symm))
  have F311 := ((F280.ext E268).other W297 (Ne.symm ne_a0__b142))
  have ne_b142_b299 : b142 ≠ b299 := Nat.ne_of_lt (Nat.lt_of_lt_of_le F311.lt (Nat.le_of_eq g299.symm))
  have F312 := ((F281.ext E268).other W297 (Ne.symm ne_a0__b164))
  have ne_b164_b299 : b164 ≠ b299 := Nat.ne_of_lt (Nat.lt_of_lt_of_le F312.lt (Nat.le_of_eq g299.symm))
  have F313 := ((F282.ext E268).other W297 (Ne.symm ne_a0__b187))
  have ne_b187_b299 : b187 ≠ b299 := Nat.ne_of_lt (Nat.lt_of_lt_of_le F313.lt (Nat.le_of_eq g299.symm))
  have F314 := ((F283.ext E268).other W297 (Ne.symm ne_a0__b213))
  have ne_b213_b299 : b213 ≠ b299 := Nat.ne_of_lt (Nat.lt_of_lt_of_le F314.lt (Nat.le_of_eq g299.symm))
  have F315 := ((F284.ext E268).other W297 (Ne.symm ne_a0__b240))
  have ne_b240_b299 : b240 ≠ b299 := Nat.ne_of_lt (Nat.lt_of_lt_of_le F315.lt (Nat.le_of_eq g299.symm))
  have F316 := (V268.other W297 (Ne.symm ne_a0__b268))
  have ne_b268_b299 : b268 ≠ b299 := Nat.ne_of_lt (Nat.lt_of_lt_of_le F316.lt (Nat.le_of_eq g299.symm))
  have V299 : Arv Z h299 b299 kk299 .int (4 : Int32) [] (.int (0 : Int32)) := Arv.new A299 (by decide)
  have F317 := (((F_readyTakenMarks.ext E2).other W6 (Or.inr (slot_ne (Or.inl (hw _ (List.mem_of_getElem? (i := 50) rfl))) (Or.inl (hw _ (List.mem_of_getElem? (i := 11) rfl))) (by decide) (t := (.array .int)) (t' := (.array .int)) (by decide) (by decide)))).ext E7)
  have F318 := (((F317.other W13 (Or.inr (slot_ne (Or.inl (hw _ (List.mem_of_getElem? (i := 50) rfl))) (Or.inl (hw _ (List.mem_of_getElem? (i := 13) rfl))) (by decide) (t := (.array .int)) (t' := (.array .int)) (by decide) (by decide)))).ext E15).other W23 (Or.inr (slot_ne (Or.inl (hw _ (List.mem_of_getElem? (i := 50) rfl))) (Or.inl (hw _ (List.mem_of_getElem? (i := 15) rfl))) (by decide) (t := (.array .int)) (t' := (.array .int)) (by decide) (by decide))))
  have F319 := (((F318.ext E24).other W34 (Or.inr (slot_ne (Or.inl (hw _ (List.mem_of_getElem? (i := 50) rfl))) (Or.inl (hw _ (List.mem_of_getElem? (i := 17) rfl))) (by decide) (t := (.array .int)) (t' := (.array .int)) (by decide) (by decide)))).ext E35)
  have F320 := (((F319.other W46 (Or.inr (slot_ne (Or.inl (hw _ (List.mem_of_getElem? (i := 50) rfl))) (Or.inl (hw _ (List.mem_of_getElem? (i := 19) rfl))) (by decide) (t := (.array .int)) (t' := (.array .int)) (by decide) (by decide)))).ext E48).other W61 (Or.inr (slot_ne (Or.inl (hw _ (List.mem_of_getElem? (i := 50) rfl))) (Or.inl (hw _ (List.mem_of_getElem? (i := 21) rfl))) (by decide) (t := (.array .int)) (t' := (.array .int)) (by decide) (by decide))))
  have F321 := (((F320.ext E62).other W77 (Or.inr (slot_ne (Or.inl (hw _ (List.mem_of_getElem? (i := 50) rfl))) (Or.inl (hw _ (List.mem_of_getElem? (i := 25) rfl))) (by decide) (t := (.array .int)) (t' := (.array (.array .int))) (by decide) (by decide)))).ext E78)
  have F322 := (((F321.other W94 (Or.inr (slot_ne (Or.inl (hw _ (List.mem_of_getElem? (i := 50) rfl))) (Or.inl (hw _ (List.mem_of_getElem? (i := 28) rfl))) (by decide) (t := (.array .int)) (t' := (.array .boolean)) (by decide) (by decide)))).ext E96).other W114 (Or.inr (slot_ne (Or.inl (hw _ (List.mem_of_getElem? (i := 50) rfl))) (Or.inl (hw _ (List.mem_of_getElem? (i := 30) rfl))) (by decide) (t := (.array .int)) (t' := (.array .int)) (by decide) (by decide))))
  have F323 := (((F322.ext E115).other W135 (Or.inr (slot_ne (Or.inl (hw _ (List.mem_of_getElem? (i := 50) rfl))) (Or.inr (hw _ (List.mem_of_getElem? (i := 32) rfl))) (by decide) (t := (.array .int)) (t' := (.array .int)) (by decide) (by decide)))).keep K137 (ninS ne_a0__b115 nin0))
  have F324 := (((F323.ext E142).other W163 (Or.inr (slot_ne (Or.inl (hw _ (List.mem_of_getElem? (i := 50) rfl))) (Or.inl (hw _ (List.mem_of_getElem? (i := 38) rfl))) (by decide) (t := (.array .int)) (t' := (.array .int)) (by decide) (by decide)))).ext E164)
  have F325 := (((F324.other W186 (Or.inr (slot_ne (Or.inl (hw _ (List.mem_of_getElem? (i := 50) rfl))) (Or.inl (hw _ (List.mem_of_getElem? (i := 40) rfl))) (by decide) (t := (.array .int)) (t' := (.array .int)) (by decide) (by decide)))).ext E187).other W211 (Or.inr (slot_ne (Or.inl (hw _ (List.mem_of_getElem? (i := 50) rfl))) (Or.inl (hw _ (List.mem_of_getElem? (i := 42) rfl))) (by decide) (t := (.array .int)) (t' := (.array .int)) (by decide) (by decide))))
  have F326 := (((F325.ext E213).other W239 (Or.inr (slot_ne (Or.inl (hw _ (List.mem_of_getElem? (i := 50) rfl))) (Or.inl (hw _ (List.mem_of_getElem? (i := 44) rfl))) (by decide) (t := (.array .int)) (t' := (.array .int)) (by decide) (by decide)))).ext E240)
  have F327 := (((F326.other W267 (Or.inr (slot_ne (Or.inl (hw _ (List.mem_of_getElem? (i := 50) rfl))) (Or.inl (hw _ (List.mem_of_getElem? (i := 46) rfl))) (by decide) (t := (.array .int)) (t' := (.array .int)) (by decide) (by decide)))).ext E268).other W297 (Or.inr (slot_ne (Or.inl (hw _ (List.mem_of_getElem? (i := 50) rfl))) (Or.inl (hw _ (List.mem_of_getElem? (i := 48) rfl))) (by decide) (t := (.array .int)) (t' := (.array .int)) (by decide) (by decide))))
  have F328 := (F327.ext E299)
  have F329 := (F301.ext E299)
  obtain ⟨T330, h330, X330, e330, W330, st330⟩ := putF X299 hx hZ hown (host := "") (Or.inl (hw _ (List.mem_of_getElem? (i := 49) rfl))) Via.refl e299 F328 F329 (Or.inl (hw _ (List.mem_of_getElem? (i := 50) rfl))) (hw _ (List.mem_of_getElem? (i := 2) rfl)) (ty := (.array .int)) (by decide) rfl rfl (g := (mkF m 133 #[.val (.ref a0_), .val (.int (4 : Int32)), .val (.int (2 : Int32))] [(.ref b299), (.ref a0_)])) rfl rfl (hb hby own_d1_133)
  have N330 := Fr.snoc X330 Nf297 g_
  obtain ⟨Lf330, Nf330, Xf330⟩ := own_fold X330 N330
  have Fw330 := F328.same W330
  obtain ⟨T331, h331, kk331, X331, e331, E331, A331, st331⟩ := newP Xf330 hx hZ (hw _ (List.mem_of_getElem? (i := 0) rfl)) e330 (g := (mkF m 138 #[.val (.ref a0_), .val (.int (4 : Int32)), .val (.int (2 : Int32))] [(.int (4 : Int32)), (.ref a0_)])) rfl (hb hby own_d1_138) rfl (by decide) (cap := 4) (by decide) (by decide) (by decide) (by decide)
  obtain ⟨b331, g331⟩ : ∃ z, z = h330.size := ⟨_, rfl⟩
  rw [← g331] at A331 st331
  have K332 : Keep h0 h330 [a0_] := ((K300.ext E299).wr W330 (Or.inl (List.mem_of_getElem? (i := 0) rfl)))
  have ge_b331 : n0 ≤ b331 := Nat.le_trans (Nat.le_trans Z0 K332.1) (Nat.le_of_eq g331.symm)
  have sz_b331 : h0.size ≤ b331 := Nat.le_trans K332.1 (Nat.le_of_eq g331.symm)
  have F333 := (F329.wr W330)
  have ne_a0__b331 : a0_ ≠ b331 := Nat.ne_of_lt (Nat.lt_of_lt_of_le F333.lt (Nat.le_of_eq g331.symm))
  have F334 := ((F302.ext E299).other W330 (Ne.symm ne_a0__b2))
  have ne_b2_b331 : b2 ≠ b331 := Nat.ne_of_lt (Nat.lt_of_lt_of_le F334.lt (Nat.le_of_eq g331.symm))
  have F335 := ((F303.ext E299).other W330 (Ne.symm ne_a0__b7))
  have ne_b7_b331 : b7 ≠ b331 := Nat.ne_of_lt (Nat.lt_of_lt_of_le F335.lt (Nat.le_of_eq g331.symm))
  have F336 := ((F304.ext E299).other W330 (Ne.symm ne_a0__b15))
  have ne_b15_b331 : b15 ≠ b331 := Nat.ne_of_lt (Nat.lt_of_lt_of_le F336.lt (Nat.le_of_eq g331.symm))
  have F337 := ((F305.ext E299).other W330 (Ne.symm ne_a0__b24))
  have ne_b24_b331 : b24 ≠ b331 := Nat.ne_of_lt (Nat.lt_of_lt_of_le F337.lt (Nat.le_of_eq g331.symm))
  have F338 := ((F306.ext E299).other W330 (Ne.symm ne_a0__b35))
  have ne_b35_b331 : b35 ≠ b331 := Nat.ne_of_lt (Nat.lt_of_lt_of_le F338.lt (Nat.le_of_eq g331.symm))
  have F339 := ((F307.ext E299).other W330 (Ne.symm ne_a0__b48))
  have ne_b48_b331 : b48 ≠ b331 := Nat.ne_of_lt (Nat.lt_of_lt_of_le F339.lt (Nat.le_of_eq g331.symm))
  have F340 := ((F308.ext E299).other W330 (Ne.symm ne_a0__b62))
  have ne_b62_b331 : b62 ≠ b331 := Nat.ne_of_lt (Nat.lt_of_lt_of_le F340.lt (Nat.le_of_eq g331.symm))
  have F341 := ((F309.ext E299).other W330 (Ne.symm ne_a0__b78))
  have ne_b78_b331 : b78 ≠ b331 := Nat.ne_of_lt (Nat.lt_of_lt_of_le F341.lt (Nat.le_of_eq g331.symm))
  have F342 := ((F310.ext E299).other W330 (Ne.symm ne_a0__b96))
  have ne_b96_b331 : b96 ≠ b331 := Nat.ne_of_lt (Nat.lt_of_lt_of_le F342.lt (Nat.le_of_eq g331.symm))
  have F343 := ((F311.ext E299).other W330 (Ne.symm ne_a0__b142))
  have ne_b142_b331 : b142 ≠ b331 := Nat.ne_of_lt (Nat.lt_of_lt_of_le F343.lt (Nat.le_of_eq g331.symm))
  have F344 := ((F312.ext E299).other W330 (Ne.symm ne_a0__b164))
  have ne_b164_b331 : b164 ≠ b331 := Nat.ne_of_lt (Nat.lt_of_lt_of_le F344.lt (Nat.le_of_eq g331.symm))
  have F345 := ((F313.ext E299).other W330 (Ne.symm ne_a0__b187))
  have ne_b187_b331 : b187 ≠ b331 := Nat.ne_of_lt (Nat.lt_of_lt_of_le F345.lt (Nat.le_of_eq g331.symm))
  have F346 := ((F314.ext E299).other W330 (Ne.symm ne_a0__b213))
  have ne_b213_b331 : b213 ≠ b331 := Nat.ne_of_lt (Nat.lt_of_lt_of_le F346.lt (Nat.le_of_eq g331.symm))
  have F347 := ((F315.ext E299).other W330 (Ne.symm ne_a0__b240))
  have ne_b240_b331 : b240 ≠ b331 := Nat.ne_of_lt (Nat.lt_of_lt_of_le F347.lt (Nat.le_of_eq g331.symm))
  have F348 := ((F316.ext E299).other W330 (Ne.symm ne_a0__b268))
  have ne_b268_b331 : b268 ≠ b331 := Nat.ne_of_lt (Nat.lt_of_lt_of_le F348.lt (Nat.le_of_eq g331.symm))
  have F349 := (V299.other W330 (Ne.symm ne_a0__b299))
  have ne_b299_b331 : b299 ≠ b331 := Nat.ne_of_lt (Nat.lt_of_lt_of_le F349.lt (Nat.le_of_eq g331.symm))
  have V331 : Arv Z h331 b331 kk331 .int (4 : Int32) [] (.int (0 : Int32)) := Arv.new A331 (by decide)
  have F350 := (((F_matchedMarks.ext E2).other W6 (Or.inr (slot_ne (Or.inl (hw _ (List.mem_of_getElem? (i := 52) rfl))) (Or.inl (hw _ (List.mem_of_getElem? (i := 11) rfl))) (by decide) (t := (.array .int)) (t' := (.array .int)) (by decide) (by decide)))).ext E7)
  have F351 := (((F350.other W13 (Or.inr (slot_ne (Or.inl (hw _ (List.mem_of_getElem? (i := 52) rfl))) (Or.inl (hw _ (List.mem_of_getElem? (i := 13) rfl))) (by decide) (t := (.array .int)) (t' := (.array .int)) (by decide) (by decide)))).ext E15).other W23 (Or.inr (slot_ne (Or.inl (hw _ (List.mem_of_getElem? (i := 52) rfl))) (Or.inl (hw _ (List.mem_of_getElem? (i := 15) rfl))) (by decide) (t := (.array .int)) (t' := (.array .int)) (by decide) (by decide))))
  have F352 := (((F351.ext E24).other W34 (Or.inr (slot_ne (Or.inl (hw _ (List.mem_of_getElem? (i := 52) rfl))) (Or.inl (hw _ (List.mem_of_getElem? (i := 17) rfl))) (by decide) (t := (.array .int)) (t' := (.array .int)) (by decide) (by decide)))).ext E35)
  have F353 := (((F352.other W46 (Or.inr (slot_ne (Or.inl (hw _ (List.mem_of_getElem? (i := 52) rfl))) (Or.inl (hw _ (List.mem_of_getElem? (i := 19) rfl))) (by decide) (t := (.array .int)) (t' := (.array .int)) (by decide) (by decide)))).ext E48).other W61 (Or.inr (slot_ne (Or.inl (hw _ (List.mem_of_getElem? (i := 52) rfl))) (Or.inl (hw _ (List.mem_of_getElem? (i := 21) rfl))) (by decide) (t := (.array .int)) (t' := (.array .int)) (by decide) (by decide))))
  have F354 := (((F353.ext E62).other W77 (Or.inr (slot_ne (Or.inl (hw _ (List.mem_of_getElem? (i := 52) rfl))) (Or.inl (hw _ (List.mem_of_getElem? (i := 25) rfl))) (by decide) (t := (.array .int)) (t' := (.array (.array .int))) (by decide) (by decide)))).ext E78)
  have F355 := (((F354.other W94 (Or.inr (slot_ne (Or.inl (hw _ (List.mem_of_getElem? (i := 52) rfl))) (Or.inl (hw _ (List.mem_of_getElem? (i := 28) rfl))) (by decide) (t := (.array .int)) (t' := (.array .boolean)) (by decide) (by decide)))).ext E96).other W114 (Or.inr (slot_ne (Or.inl (hw _ (List.mem_of_getElem? (i := 52) rfl))) (Or.inl (hw _ (List.mem_of_getElem? (i := 30) rfl))) (by decide) (t := (.array .int)) (t' := (.array .int)) (by decide) (by decide))))
  have F356 := (((F355.ext E115).other W135 (Or.inr (slot_ne (Or.inl (hw _ (List.mem_of_getElem? (i := 52) rfl))) (Or.inr (hw _ (List.mem_of_getElem? (i := 32) rfl))) (by decide) (t := (.array .int)) (t' := (.array .int)) (by decide) (by decide)))).keep K137 (ninS ne_a0__b115 nin0))
  have F357 := (((F356.ext E142).other W163 (Or.inr (slot_ne (Or.inl (hw _ (List.mem_of_getElem? (i := 52) rfl))) (Or.inl (hw _ (List.mem_of_getElem? (i := 38) rfl))) (by decide) (t := (.array .int)) (t' := (.array .int)) (by decide) (by decide)))).ext E164)
  have F358 := (((F357.other W186 (Or.inr (slot_ne (Or.inl (hw _ (List.mem_of_getElem? (i := 52) rfl))) (Or.inl (hw _ (List.mem_of_getElem? (i := 40) rfl))) (by decide) (t := (.array .int)) (t' := (.array .int)) (by decide) (by decide)))).ext E187).other W211 (Or.inr (slot_ne (Or.inl (hw _ (List.mem_of_getElem? (i := 52) rfl))) (Or.inl (hw _ (List.mem_of_getElem? (i := 42) rfl))) (by decide) (t := (.array .int)) (t' := (.array .int)) (by decide) (by decide))))
  have F359 := (((F358.ext E213).other W239 (Or.inr (slot_ne (Or.inl (hw _ (List.mem_of_getElem? (i := 52) rfl))) (Or.inl (hw _ (List.mem_of_getElem? (i := 44) rfl))) (by decide) (t := (.array .int)) (t' := (.array .int)) (by decide) (by decide)))).ext E240)
  have F360 := (((F359.other W267 (Or.inr (slot_ne (Or.inl (hw _ (List.mem_of_getElem? (i := 52) rfl))) (Or.inl (hw _ (List.mem_of_getElem? (i := 46) rfl))) (by decide) (t := (.array .int)) (t' := (.array .int)) (by decide) (by decide)))).ext E268).other W297 (Or.inr (slot_ne (Or.inl (hw _ (List.mem_of_getElem? (i := 52) rfl))) (Or.inl (hw _ (List.mem_of_getElem? (i := 48) rfl))) (by decide) (t := (.array .int)) (t' := (.array .int)) (by decide) (by decide))))
  have F361 := (((F360.ext E299).other W330 (Or.inr (slot_ne (Or.inl (hw _ (List.mem_of_getElem? (i := 52) rfl))) (Or.inl (hw _ (List.mem_of_getElem? (i := 50) rfl))) (by decide) (t := (.array .int)) (t' := (.array .int)) (by decide) (by decide)))).ext E331)
  have F362 := (F333.ext E331)
  obtain ⟨T363, h363, X363, e363, W363, st363⟩ := putF X331 hx hZ hown (host := "") (Or.inl (hw _ (List.mem_of_getElem? (i := 51) rfl))) Via.refl e331 F361 F362 (Or.inl (hw _ (List.mem_of_getElem? (i := 52) rfl))) (hw _ (List.mem_of_getElem? (i := 2) rfl)) (ty := (.array .int)) (by decide) rfl rfl (g := (mkF m 140 #[.val (.ref a0_), .val (.int (4 : Int32)), .val (.int (2 : Int32))] [(.ref b331), (.ref a0_)])) rfl rfl (hb hby own_d1_140)
  have N363 := Fr.snoc X363 Nf330 g_
  obtain ⟨Lf363, Nf363, Xf363⟩ := own_fold X363 N363
  have Fw363 := F361.same W363
  obtain ⟨T364, h364, kk364, X364, e364, E364, A364, st364⟩ := newP Xf363 hx hZ (hw _ (List.mem_of_getElem? (i := 0) rfl)) e363 (g := (mkF m 145 #[.val (.ref a0_), .val (.int (4 : Int32)), .val (.int (2 : Int32))] [(.int (4 : Int32)), (.ref a0_)])) rfl (hb hby own_d1_145) rfl (by decide) (cap := 4) (by decide) (by decide) (by decide) (by decide)
  obtain ⟨b364, g364⟩ : ∃ z, z = h363.size := ⟨_, rfl⟩
  rw [← g364] at A364 st364
  have K365 : Keep h0 h363 [a0_] := ((K332.ext E331).wr W363 (Or.inl (List.mem_of_getElem? (i := 0) rfl)))
  have ge_b364 : n0 ≤ b364 := Nat.le_trans (Nat.le_trans Z0 K365.1) (Nat.le_of_eq g364.symm)
  have sz_b364 : h0.size ≤ b364 := Nat.le_trans K365.1 (Nat.le_of_eq g364.symm)
  have F366 := (F362.wr W363)
  have ne_a0__b364 : a0_ ≠ b364 := Nat.ne_of_lt (Nat.lt_of_lt_of_le F366.lt (Nat.le_of_eq g364.symm))
  have F367 := ((F334.ext E331).other W363 (Ne.symm ne_a0__b2))
  have ne_b2_b364 : b2 ≠ b364 := Nat.ne_of_lt (Nat.lt_of_lt_of_le F367.lt (Nat.le_of_eq g364.symm))
  have F368 := ((F335.ext E331).other W363 (Ne.symm ne_a0__b7))
  have ne_b7_b364 : b7 ≠ b364 := Nat.ne_of_lt (Nat.lt_of_lt_of_le F368.lt (Nat.le_of_eq g364.symm))
  have F369 := ((F336.ext E331).other W363 (Ne.symm ne_a0__b15))
  have ne_b15_b364 : b15 ≠ b364 := Nat.ne_of_lt (Nat.lt_of_lt_of_le F369.lt (Nat.le_of_eq g364.symm))
  have F370 := ((F337.ext E331).other W363 (Ne.symm ne_a0__b24))
  have ne_b24_b364 : b24 ≠ b364 := Nat.ne_of_lt (Nat.lt_of_lt_of_le F370.lt (Nat.le_of_eq g364.symm))
  have F371 := ((F338.ext E331).other W363 (Ne.symm ne_a0__b35))
  have ne_b35_b364 : b35 ≠ b364 := Nat.ne_of_lt (Nat.lt_of_lt_of_le F371.lt (Nat.le_of_eq g364.symm))
  have F372 := ((F339.ext E331).other W363 (Ne.symm ne_a0__b48))
  have ne_b48_b364 : b48 ≠ b364 := Nat.ne_of_lt (Nat.lt_of_lt_of_le F372.lt (Nat.le_of_eq g364.symm))
  have F373 := ((F340.ext E331).other W363 (Ne.symm ne_a0__b62))
  have ne_b62_b364 : b62 ≠ b364 := Nat.ne_of_lt (Nat.lt_of_lt_of_le F373.lt (Nat.le_of_eq g364.symm))
  have F374 := ((F341.ext E331).other W363 (Ne.symm ne_a0__b78))
  have ne_b78_b364 : b78 ≠ b364 := Nat.ne_of_lt (Nat.lt_of_lt_of_le F374.lt (Nat.le_of_eq g364.symm))
  have F375 := ((F342.ext E331).other W363 (Ne.symm ne_a0__b96))
  have ne_b96_b364 : b96 ≠ b364 := Nat.ne_of_lt (Nat.lt_of_lt_of_le F375.lt (Nat.le_of_eq g364.symm))
  have F376 := ((F343.ext E331).other W363 (Ne.symm ne_a0__b142))
  have ne_b142_b364 : b142 ≠ b364 := Nat.ne_of_lt (Nat.lt_of_lt_of_le F376.lt (Nat.le_of_eq g364.symm))
  have F377 := ((F344.ext E331).other W363 (Ne.symm ne_a0__b164))
  have ne_b164_b364 : b164 ≠ b364 := Nat.ne_of_lt (Nat.lt_of_lt_of_le F377.lt (Nat.le_of_eq g364.symm))
  have F378 := ((F345.ext E331).other W363 (Ne.symm ne_a0__b187))
  have ne_b187_b364 : b187 ≠ b364 := Nat.ne_of_lt (Nat.lt_of_lt_of_le F378.lt (Nat.le_of_eq g364.symm))
  have F379 := ((F346.ext E331).other W363 (Ne.symm ne_a0__b213))
  have ne_b213_b364 : b213 ≠ b364 := Nat.ne_of_lt (Nat.lt_of_lt_of_le F379.lt (Nat.le_of_eq g364.symm))
  have F380 := ((F347.ext E331).other W363 (Ne.symm ne_a0__b240))
  have ne_b240_b364 : b240 ≠ b364 := Nat.ne_of_lt (Nat.lt_of_lt_of_le F380.lt (Nat.le_of_eq g364.symm))
  have F381 := ((F348.ext E331).other W363 (Ne.symm ne_a0__b268))
  have ne_b268_b364 : b268 ≠ b364 := Nat.ne_of_lt (Nat.lt_of_lt_of_le F381.lt (Nat.le_of_eq g364.symm))
  have F382 := ((F349.ext E331).other W363 (Ne.symm ne_a0__b299))
  have ne_b299_b364 : b299 ≠ b364 := Nat.ne_of_lt (Nat.lt_of_lt_of_le F382.lt (Nat.le_of_eq g364.symm))
  have F383 := (V331.other W363 (Ne.symm ne_a0__b331))
  have ne_b331_b364 : b331 ≠ b364 := Nat.ne_of_lt (Nat.lt_of_lt_of_le F383.lt (Nat.le_of_eq g364.symm))
  have V364 : Arv Z h364 b364 kk364 .int (4 : Int32) [] (.int (0 : Int32)) := Arv.new A364 (by decide)
  have F384 := (((F_watchMarks.ext E2).other W6 (Or.inr (slot_ne (Or.inl (hw _ (List.mem_of_getElem? (i := 54) rfl))) (Or.inl (hw _ (List.mem_of_getElem? (i := 11) rfl))) (by decide) (t := (.array .int)) (t' := (.array .int)) (by decide) (by decide)))).ext E7)
  have F385 := (((F384.other W13 (Or.inr (slot_ne (Or.inl (hw _ (List.mem_of_getElem? (i := 54) rfl))) (Or.inl (hw _ (List.mem_of_getElem? (i := 13) rfl))) (by decide) (t := (.array .int)) (t' := (.array .int)) (by decide) (by decide)))).ext E15).other W23 (Or.inr (slot_ne (Or.inl (hw _ (List.mem_of_getElem? (i := 54) rfl))) (Or.inl (hw _ (List.mem_of_getElem? (i := 15) rfl))) (by decide) (t := (.array .int)) (t' := (.array .int)) (by decide) (by decide))))
  have F386 := (((F385.ext E24).other W34 (Or.inr (slot_ne (Or.inl (hw _ (List.mem_of_getElem? (i := 54) rfl))) (Or.inl (hw _ (List.mem_of_getElem? (i := 17) rfl))) (by decide) (t := (.array .int)) (t' := (.array .int)) (by decide) (by decide)))).ext E35)
  have F387 := (((F386.other W46 (Or.inr (slot_ne (Or.inl (hw _ (List.mem_of_getElem? (i := 54) rfl))) (Or.inl (hw _ (List.mem_of_getElem? (i := 19) rfl))) (by decide) (t := (.array .int)) (t' := (.array .int)) (by decide) (by decide)))).ext E48).other W61 (Or.inr (slot_ne (Or.inl (hw _ (List.mem_of_getElem? (i := 54) rfl))) (Or.inl (hw _ (List.mem_of_getElem? (i := 21) rfl))) (by decide) (t := (.array .int)) (t' := (.array .int)) (by decide) (by decide))))
  have F388 := (((F387.ext E62).other W77 (Or.inr (slot_ne (Or.inl (hw _ (List.mem_of_getElem? (i := 54) rfl))) (Or.inl (hw _ (List.mem_of_getElem? (i := 25) rfl))) (by decide) (t := (.array .int)) (t' := (.array (.array .int))) (by decide) (by decide)))).ext E78)
  have F389 := (((F388.other W94 (Or.inr (slot_ne (Or.inl (hw _ (List.mem_of_getElem? (i := 54) rfl))) (Or.inl (hw _ (List.mem_of_getElem? (i := 28) rfl))) (by decide) (t := (.array .int)) (t' := (.array .boolean)) (by decide) (by decide)))).ext E96).other W114 (Or.inr (slot_ne (Or.inl (hw _ (List.mem_of_getElem? (i := 54) rfl))) (Or.inl (hw _ (List.mem_of_getElem? (i := 30) rfl))) (by decide) (t := (.array .int)) (t' := (.array .int)) (by decide) (by decide))))
  have F390 := (((F389.ext E115).other W135 (Or.inr (slot_ne (Or.inl (hw _ (List.mem_of_getElem? (i := 54) rfl))) (Or.inr (hw _ (List.mem_of_getElem? (i := 32) rfl))) (by decide) (t := (.array .int)) (t' := (.array .int)) (by decide) (by decide)))).keep K137 (ninS ne_a0__b115 nin0))
  have F391 := (((F390.ext E142).other W163 (Or.inr (slot_ne (Or.inl (hw _ (List.mem_of_getElem? (i := 54) rfl))) (Or.inl (hw _ (List.mem_of_getElem? (i := 38) rfl))) (by decide) (t := (.array .int)) (t' := (.array .int)) (by decide) (by decide)))).ext E164)
  have F392 := (((F391.other W186 (Or.inr (slot_ne (Or.inl (hw _ (List.mem_of_getElem? (i := 54) rfl))) (Or.inl (hw _ (List.mem_of_getElem? (i := 40) rfl))) (by decide) (t := (.array .int)) (t' := (.array .int)) (by decide) (by decide)))).ext E187).other W211 (Or.inr (slot_ne (Or.inl (hw _ (List.mem_of_getElem? (i := 54) rfl))) (Or.inl (hw _ (List.mem_of_getElem? (i := 42) rfl))) (by decide) (t := (.array .int)) (t' := (.array .int)) (by decide) (by decide))))
  have F393 := (((F392.ext E213).other W239 (Or.inr (slot_ne (Or.inl (hw _ (List.mem_of_getElem? (i := 54) rfl))) (Or.inl (hw _ (List.mem_of_getElem? (i := 44) rfl))) (by decide) (t := (.array .int)) (t' := (.array .int)) (by decide) (by decide)))).ext E240)
  have F394 := (((F393.other W267 (Or.inr (slot_ne (Or.inl (hw _ (List.mem_of_getElem? (i := 54) rfl))) (Or.inl (hw _ (List.mem_of_getElem? (i := 46) rfl))) (by decide) (t := (.array .int)) (t' := (.array .int)) (by decide) (by decide)))).ext E268).other W297 (Or.inr (slot_ne (Or.inl (hw _ (List.mem_of_getElem? (i := 54) rfl))) (Or.inl (hw _ (List.mem_of_getElem? (i := 48) rfl))) (by decide) (t := (.array .int)) (t' := (.array .int)) (by decide) (by decide))))
  have F395 := (((F394.ext E299).other W330 (Or.inr (slot_ne (Or.inl (hw _ (List.mem_of_getElem? (i := 54) rfl))) (Or.inl (hw _ (List.mem_of_getElem? (i := 50) rfl))) (by decide) (t := (.array .int)) (t' := (.array .int)) (by decide) (by decide)))).ext E331)
  have F396 := ((F395.other W363 (Or.inr (slot_ne (Or.inl (hw _ (List.mem_of_getElem? (i := 54) rfl))) (Or.inl (hw _ (List.mem_of_getElem? (i := 52) rfl))) (by decide) (t := (.array .int)) (t' := (.array .int)) (by decide) (by decide)))).ext E364)
  have F397 := (F366.ext E364)
  obtain ⟨T398, h398, X398, e398, W398, st398⟩ := putF X364 hx hZ hown (host := "") (Or.inl (hw _ (List.mem_of_getElem? (i := 53) rfl))) Via.refl e364 F396 F397 (Or.inl (hw _ (List.mem_of_getElem? (i := 54) rfl))) (hw _ (List.mem_of_getElem? (i := 2) rfl)) (ty := (.array .int)) (by decide) rfl rfl (g := (mkF m 147 #[.val (.ref a0_), .val (.int (4 : Int32)), .val (.int (2 : Int32))] [(.ref b364), (.ref a0_)])) rfl rfl (hb hby own_d1_147)
  have N398 := Fr.snoc X398 Nf363 g_
  obtain ⟨Lf398, Nf398, Xf398⟩ := own_fold X398 N398
  have Fw398 := F396.same W398
  have k399 : own_To p e below T398 (mkF m 152 #[.val (.ref a0_), .val (.int (4 : Int32)), .val (.int (2 : Int32))] [(.int (4 : Int32)), (.ref a0_)]) s₁ (mkF m 0 #[.val (.ref a0_), .val (.int (4 : Int32)), .val (.int (2 : Int32))] []) := fun t q => k298 t (by
    refine st299 _ ?_
    show Steps p.tables e below (T299.setTop (mkF m 133 #[.val (.ref a0_), .val (.int (4 : Int32)), .val (.int (2 : Int32))] [(.ref b299), (.ref a0_)])) _
    refine st330 _ ?_
    show Steps p.tables e below (T330.setTop (mkF m 136 #[.val (.ref a0_), .val (.int (4 : Int32)), .val (.int (2 : Int32))] [])) _
    refine XS.aloadN Xf330.here hx rfl (hb hby own_d1_136) rfl rfl ?_
    show Steps p.tables e below (T330.setTop (mkF m 137 #[.val (.ref a0_), .val (.int (4 : Int32)), .val (.int (2 : Int32))] [(.ref a0_)])) _
    refine XS.iloadN Xf330.here hx rfl (hb hby own_d1_137) rfl ?_
    show Steps p.tables e below (T330.setTop (mkF m 138 #[.val (.ref a0_), .val (.int (4 : Int32)), .val (.int (2 : Int32))] [(.int (4 : Int32)), (.ref a0_)])) _
    refine st331 _ ?_
    show Steps p.tables e below (T331.setTop (mkF m 140 #[.val (.ref a0_), .val (.int (4 : Int32)), .val (.int (2 : Int32))] [(.ref b331), (.ref a0_)])) _
    refine st363 _ ?_
    show Steps p.tables e below (T363.setTop (mkF m 143 #[.val (.ref a0_), .val (.int (4 : Int32)), .val (.int (2 : Int32))] [])) _
    refine XS.aloadN Xf363.here hx rfl (hb hby own_d1_143) rfl rfl ?_
    show Steps p.tables e below (T363.setTop (mkF m 144 #[.val (.ref a0_), .val (.int (4 : Int32)), .val (.int (2 : Int32))] [(.ref a0_)])) _
    refine XS.iloadN Xf363.here hx rfl (hb hby own_d1_144) rfl ?_
    show Steps p.tables e below (T363.setTop (mkF m 145 #[.val (.ref a0_), .val (.int (4 : Int32)), .val (.int (2 : Int32))] [(.int (4 : Int32)), (.ref a0_)])) _
    refine st364 _ ?_
    show Steps p.tables e below (T364.setTop (mkF m 147 #[.val (.ref a0_), .val (.int (4 : Int32)), .val (.int (2 : Int32))] [(.ref b364), (.ref a0_)])) _
    refine st398 _ ?_
    show Steps p.tables e below (T398.setTop (mkF m 150 #[.val (.ref a0_), .val (.int (4 : Int32)), .val (.int (2 : Int32))] [])) _
    refine XS.aloadN Xf398.here hx rfl (hb hby own_d1_150) rfl rfl ?_
    show Steps p.tables e below (T398.setTop (mkF m 151 #[.val (.ref a0_), .val (.int (4 : Int32)), .val (.int (2 : Int32))] [(.ref a0_)])) _
    refine XS.iloadN Xf398.here hx rfl (hb hby own_d1_151) rfl ?_
    show Steps p.tables e below (T398.setTop (mkF m 152 #[.val (.ref a0_), .val (.int (4 : Int32)), .val (.int (2 : Int32))] [(.int (4 : Int32)), (.ref a0_)])) _
    exact q)
  obtain ⟨T400, h400, kk400, X400, e400, E400, A400, st400⟩ := newP Xf398 hx hZ (hw _ (List.mem_of_getElem? (i := 0) rfl)) e398 (g := (mkF m 152 #[.val (.ref a0_), .val (.int (4 : Int32)), .val (.int (2 : Int32))] [(.int (4 : Int32)), (.ref a0_)])) rfl (hb hby own_d1_152) rfl (by decide) (cap := 4) (by decide) (by decide) (by decide) (by decide)
  obtain ⟨b400, g400⟩ : ∃ z, z = h398.size := ⟨_, rfl⟩
  rw [← g400] at A400 st400
  have K401 : Keep h0 h398 [a0_] := ((K365.ext E364).wr W398 (Or.inl (List.mem_of_getElem? (i := 0) rfl)))
  have ge_b400 : n0 ≤ b400 := Nat.le_trans (Nat.le_trans Z0 K401.1) (Nat.le_of_eq g400.symm)
  have sz_b400 : h0.size ≤ b400 := Nat.le_trans K401.1 (Nat.le_of_eq g400.symm)
  have F402 := (F397.wr W398)
  have ne_a0__b400 : a0_ ≠ b400 := Nat.ne_of_lt (Nat.lt_of_lt_of_le F402.lt (Nat.le_of_eq g400.symm))
  have F403 := ((F367.ext E364).other W398 (Ne.symm ne_a0__b2))
  have ne_b2_b400 : b2 ≠ b400 := Nat.ne_of_lt (Nat.lt_of_lt_of_le F403.lt (Nat.le_of_eq g400.symm))
  have F404 := ((F368.ext E364).other W398 (Ne.symm ne_a0__b7))
  have ne_b7_b400 : b7 ≠ b400 := Nat.ne_of_lt (Nat.lt_of_lt_of_le F404.lt (Nat.le_of_eq g400.symm))
  have F405 := ((F369.ext E364).other W398 (Ne.symm ne_a0__b15))
  have ne_b15_b400 : b15 ≠ b400 := Nat.ne_of_lt (Nat.lt_of_lt_of_le F405.lt (Nat.le_of_eq g400.symm))
  have F406 := ((F370.ext E364).other W398 (Ne.symm ne_a0__b24))
  have ne_b24_b400 : b24 ≠ b400 := Nat.ne_of_lt (Nat.lt_of_lt_of_le F406.lt (Nat.le_of_eq g400.symm))
  have F407 := ((F371.ext E364).other W398 (Ne.symm ne_a0__b35))
  have ne_b35_b400 : b35 ≠ b400 := Nat.ne_of_lt (Nat.lt_of_lt_of_le F407.lt (Nat.le_of_eq g400.symm))
  have F408 := ((F372.ext E364).other W398 (Ne.symm ne_a0__b48))
  have ne_b48_b400 : b48 ≠ b400 := Nat.ne_of_lt (Nat.lt_of_lt_of_le F408.lt (Nat.le_of_eq g400.symm))
  have F409 := ((F373.ext E364).other W398 (Ne.symm ne_a0__b62))
  have ne_b62_b400 : b62 ≠ b400 := Nat.ne_of_lt (Nat.lt_of_lt_of_le F409.lt (Nat.le_of_eq g400.symm))
  have F410 := ((F374.ext E364).other W398 (Ne.symm ne_a0__b78))
  have ne_b78_b400 : b78 ≠ b400 := Nat.ne_of_lt (Nat.lt_of_lt_of_le F410.lt (Nat.le_of_eq g400.symm))
  have F411 := ((F375.ext E364).other W398 (Ne.symm ne_a0__b96))
  have ne_b96_b400 : b96 ≠ b400 := Nat.ne_of_lt (Nat.lt_of_lt_of_le F411.lt (Nat.le_of_eq g400.symm))
  have F412 := ((F376.ext E364).other W398 (Ne.symm ne_a0__b142))
  have ne_b142_b400 : b142 ≠ b400 := Nat.ne_of_lt (Nat.lt_of_lt_of_le F412.lt (Nat.le_of_eq g400.symm))
  have F413 := ((F377.ext E364).other W398 (Ne.symm ne_a0__b164))
  have ne_b164_b400 : b164 ≠ b400 := Nat.ne_of_lt (Nat.lt_of_lt_of_le F413.lt (Nat.le_of_eq g400.symm))
  have F414 := ((F378.ext E364).other W398 (Ne.symm ne_a0__b187))
  have ne_b187_b400 : b187 ≠ b400 := Nat.ne_of_lt (Nat.lt_of_lt_of_le F414.lt (Nat.le_of_eq g400.symm))
  have F415 := ((F379.ext E364).other W398 (Ne.symm ne_a0__b213))
  have ne_b213_b400 : b213 ≠ b400 := Nat.ne_of_lt (Nat.lt_of_lt_of_le F415.lt (Nat.le_of_eq g400.symm))
  have F416 := ((F380.ext E364).other W398 (Ne.symm ne_a0__b240))
  have ne_b240_b400 : b240 ≠ b400 := Nat.ne_of_lt (Nat.lt_of_lt_of_le F416.lt (Nat.le_of_eq g400.symm))
  have F417 := ((F381.ext E364).other W398 (Ne.symm ne_a0__b268))
  have ne_b268_b400 : b268 ≠ b400 := Nat.ne_of_lt (Nat.lt_of_lt_of_le F417.lt (Nat.le_of_eq g400.symm))
  have F418 := ((F382.ext E364).other W398 (Ne.symm ne_a0__b299))
  have ne_b299_b400 : b299 ≠ b400 := Nat.ne_of_lt (Nat.lt_of_lt_of_le F418.lt (Nat.le_of_eq g400.symm))
  have F419 := ((F383.ext E364).other W398 (Ne.symm ne_a0__b331))
  have ne_b331_b400 : b331 ≠ b400 := Nat.ne_of_lt (Nat.lt_of_lt_of_le F419.lt (Nat.le_of_eq g400.symm))
  have F420 := (V364.other W398 (Ne.symm ne_a0__b364))
  have ne_b364_b400 : b364 ≠ b400 := Nat.ne_of_lt (Nat.lt_of_lt_of_le F420.lt (Nat.le_of_eq g400.symm))
  have V400 : Arv Z h400 b400 kk400 .int (4 : Int32) [] (.int (0 : Int32)) := Arv.new A400 (by decide)
  have F421 := (((F_trailLookedMarks.ext E2).other W6 (Or.inr (slot_ne (Or.inl (hw _ (List.mem_of_getElem? (i := 56) rfl))) (Or.inl (hw _ (List.mem_of_getElem? (i := 11) rfl))) (by decide) (t := (.array .int)) (t' := (.array .int)) (by decide) (by decide)))).ext E7)
  have F422 := (((F421.other W13 (Or.inr (slot_ne (Or.inl (hw _ (List.mem_of_getElem? (i := 56) rfl))) (Or.inl (hw _ (List.mem_of_getElem? (i := 13) rfl))) (by decide) (t := (.array .int)) (t' := (.array .int)) (by decide) (by decide)))).ext E15).other W23 (Or.inr (slot_ne (Or.inl (hw _ (List.mem_of_getElem? (i := 56) rfl))) (Or.inl (hw _ (List.mem_of_getElem? (i := 15) rfl))) (by decide) (t := (.array .int)) (t' := (.array .int)) (by decide) (by decide))))
  have F423 := (((F422.ext E24).other W34 (Or.inr (slot_ne (Or.inl (hw _ (List.mem_of_getElem? (i := 56) rfl))) (Or.inl (hw _ (List.mem_of_getElem? (i := 17) rfl))) (by decide) (t := (.array .int)) (t' := (.array .int)) (by decide) (by decide)))).ext E35)
  have F424 := (((F423.other W46 (Or.inr (slot_ne (Or.inl (hw _ (List.mem_of_getElem? (i := 56) rfl))) (Or.inl (hw _ (List.mem_of_getElem? (i := 19) rfl))) (by decide) (t := (.array .int)) (t' := (.array .int)) (by decide) (by decide)))).ext E48).other W61 (Or.inr (slot_ne (Or.inl (hw _ (List.mem_of_getElem? (i := 56) rfl))) (Or.inl (hw _ (List.mem_of_getElem? (i := 21) rfl))) (by decide) (t := (.array .int)) (t' := (.array .int)) (by decide) (by decide))))
  have F425 := (((F424.ext E62).other W77 (Or.inr (slot_ne (Or.inl (hw _ (List.mem_of_getElem? (i := 56) rfl))) (Or.inl (hw _ (List.mem_of_getElem? (i := 25) rfl))) (by decide) (t := (.array .int)) (t' := (.array (.array .int))) (by decide) (by decide)))).ext E78)
  have F426 := (((F425.other W94 (Or.inr (slot_ne (Or.inl (hw _ (List.mem_of_getElem? (i := 56) rfl))) (Or.inl (hw _ (List.mem_of_getElem? (i := 28) rfl))) (by decide) (t := (.array .int)) (t' := (.array .boolean)) (by decide) (by decide)))).ext E96).other W114 (Or.inr (slot_ne (Or.inl (hw _ (List.mem_of_getElem? (i := 56) rfl))) (Or.inl (hw _ (List.mem_of_getElem? (i := 30) rfl))) (by decide) (t := (.array .int)) (t' := (.array .int)) (by decide) (by decide))))
  have F427 := (((F426.ext E115).other W135 (Or.inr (slot_ne (Or.inl (hw _ (List.mem_of_getElem? (i := 56) rfl))) (Or.inr (hw _ (List.mem_of_getElem? (i := 32) rfl))) (by decide) (t := (.array .int)) (t' := (.array .int)) (by decide) (by decide)))).keep K137 (ninS ne_a0__b115 nin0))
  have F428 := (((F427.ext E142).other W163 (Or.inr (slot_ne (Or.inl (hw _ (List.mem_of_getElem? (i := 56) rfl))) (Or.inl (hw _ (List.mem_of_getElem? (i := 38) rfl))) (by decide) (t := (.array .int)) (t' := (.array .int)) (by decide) (by decide)))).ext E164)
  have F429 := (((F428.other W186 (Or.inr (slot_ne (Or.inl (hw _ (List.mem_of_getElem? (i := 56) rfl))) (Or.inl (hw _ (List.mem_of_getElem? (i := 40) rfl))) (by decide) (t := (.array .int)) (t' := (.array .int)) (by decide) (by decide)))).ext E187).other W211 (Or.inr (slot_ne (Or.inl (hw _ (List.mem_of_getElem? (i := 56) rfl))) (Or.inl (hw _ (List.mem_of_getElem? (i := 42) rfl))) (by decide) (t := (.array .int)) (t' := (.array .int)) (by decide) (by decide))))
  have F430 := (((F429.ext E213).other W239 (Or.inr (slot_ne (Or.inl (hw _ (List.mem_of_getElem? (i := 56) rfl))) (Or.inl (hw _ (List.mem_of_getElem? (i := 44) rfl))) (by decide) (t := (.array .int)) (t' := (.array .int)) (by decide) (by decide)))).ext E240)
  have F431 := (((F430.other W267 (Or.inr (slot_ne (Or.inl (hw _ (List.mem_of_getElem? (i := 56) rfl))) (Or.inl (hw _ (List.mem_of_getElem? (i := 46) rfl))) (by decide) (t := (.array .int)) (t' := (.array .int)) (by decide) (by decide)))).ext E268).other W297 (Or.inr (slot_ne (Or.inl (hw _ (List.mem_of_getElem? (i := 56) rfl))) (Or.inl (hw _ (List.mem_of_getElem? (i := 48) rfl))) (by decide) (t := (.array .int)) (t' := (.array .int)) (by decide) (by decide))))
  have F432 := (((F431.ext E299).other W330 (Or.inr (slot_ne (Or.inl (hw _ (List.mem_of_getElem? (i := 56) rfl))) (Or.inl (hw _ (List.mem_of_getElem? (i := 50) rfl))) (by decide) (t := (.array .int)) (t' := (.array .int)) (by decide) (by decide)))).ext E331)
  have F433 := (((F432.other W363 (Or.inr (slot_ne (Or.inl (hw _ (List.mem_of_getElem? (i := 56) rfl))) (Or.inl (hw _ (List.mem_of_getElem? (i := 52) rfl))) (by decide) (t := (.array .int)) (t' := (.array .int)) (by decide) (by decide)))).ext E364).other W398 (Or.inr (slot_ne (Or.inl (hw _ (List.mem_of_getElem? (i := 56) rfl))) (Or.inl (hw _ (List.mem_of_getElem? (i := 54) rfl))) (by decide) (t := (.array .int)) (t' := (.array .int)) (by decide) (by decide))))
  have F434 := (F433.ext E400)
  have F435 := (F402.ext E400)
  obtain ⟨T436, h436, X436, e436, W436, st436⟩ := putF X400 hx hZ hown (host := "") (Or.inl (hw _ (List.mem_of_getElem? (i := 55) rfl))) Via.refl e400 F434 F435 (Or.inl (hw _ (List.mem_of_getElem? (i := 56) rfl))) (hw _ (List.mem_of_getElem? (i := 2) rfl)) (ty := (.array .int)) (by decide) rfl rfl (g := (mkF m 154 #[.val (.ref a0_), .val (.int (4 : Int32)), .val (.int (2 : Int32))] [(.ref b400), (.ref a0_)])) rfl rfl (hb hby own_d1_154)
  have N436 := Fr.snoc X436 Nf398 g_
  obtain ⟨Lf436, Nf436, Xf436⟩ := own_fold X436 N436
  have Fw436 := F434.same W436
  have F437 := (((F_builtinCount.ext E2).other W6 (Or.inr (slot_ne (Or.inl (hw _ (List.mem_of_getElem? (i := 70) rfl))) (Or.inl (hw _ (List.mem_of_getElem? (i := 11) rfl))) (by decide) (t := .int) (t' := (.array .int)) (by decide) (by decide)))).ext E7)
  have F438 := (((F437.other W13 (Or.inr (slot_ne (Or.inl (hw _ (List.mem_of_getElem? (i := 70) rfl))) (Or.inl (hw _ (List.mem_of_getElem? (i := 13) rfl))) (by decide) (t := .int) (t' := (.array .int)) (by decide) (by decide)))).ext E15).other W23 (Or.inr (slot_ne (Or.inl (hw _ (List.mem_of_getElem? (i := 70) rfl))) (Or.inl (hw _ (List.mem_of_getElem? (i := 15) rfl))) (by decide) (t := .int) (t' := (.array .int)) (by decide) (by decide))))
  have F439 := (((F438.ext E24).other W34 (Or.inr (slot_ne (Or.inl (hw _ (List.mem_of_getElem? (i := 70) rfl))) (Or.inl (hw _ (List.mem_of_getElem? (i := 17) rfl))) (by decide) (t := .int) (t' := (.array .int)) (by decide) (by decide)))).ext E35)
  have F440 := (((F439.other W46 (Or.inr (slot_ne (Or.inl (hw _ (List.mem_of_getElem? (i := 70) rfl))) (Or.inl (hw _ (List.mem_of_getElem? (i := 19) rfl))) (by decide) (t := .int) (t' := (.array .int)) (by decide) (by decide)))).ext E48).other W61 (Or.inr (slot_ne (Or.inl (hw _ (List.mem_of_getElem? (i := 70) rfl))) (Or.inl (hw _ (List.mem_of_getElem? (i := 21) rfl))) (by decide) (t := .int) (t' := (.array .int)) (by decide) (by decide))))
  have F441 := (((F440.ext E62).other W77 (Or.inr (slot_ne (Or.inl (hw _ (List.mem_of_getElem? (i := 70) rfl))) (Or.inl (hw _ (List.mem_of_getElem? (i := 25) rfl))) (by decide) (t := .int) (t' := (.array (.array .int))) (by decide) (by decide)))).ext E78)
  have F442 := (((F441.other W94 (Or.inr (slot_ne (Or.inl (hw _ (List.mem_of_getElem? (i := 70) rfl))) (Or.inl (hw _ (List.mem_of_getElem? (i := 28) rfl))) (by decide) (t := .int) (t' := (.array .boolean)) (by decide) (by decide)))).ext E96).other W114 (Or.inr (slot_ne (Or.inl (hw _ (List.mem_of_getElem? (i := 70) rfl))) (Or.inl (hw _ (List.mem_of_getElem? (i := 30) rfl))) (by decide) (t := .int) (t' := (.array .int)) (by decide) (by decide))))
  have F443 := (((F442.ext E115).other W135 (Or.inr (slot_ne (Or.inl (hw _ (List.mem_of_getElem? (i := 70) rfl))) (Or.inr (hw _ (List.mem_of_getElem? (i := 32) rfl))) (by decide) (t := .int) (t' := (.array .int)) (by decide) (by decide)))).keep K137 (ninS ne_a0__b115 nin0))
  have F444 := (((F443.ext E142).other W163 (Or.inr (slot_ne (Or.inl (hw _ (List.mem_of_getElem? (i := 70) rfl))) (Or.inl (hw _ (List.mem_of_getElem? (i := 38) rfl))) (by decide) (t := .int) (t' := (.array .int)) (by decide) (by decide)))).ext E164)
  have F445 := (((F444.other W186 (Or.inr (slot_ne (Or.inl (hw _ (List.mem_of_getElem? (i := 70) rfl))) (Or.inl (hw _ (List.mem_of_getElem? (i := 40) rfl))) (by decide) (t := .int) (t' := (.array .int)) (by decide) (by decide)))).ext E187).other W211 (Or.inr (slot_ne (Or.inl (hw _ (List.mem_of_getElem? (i := 70) rfl))) (Or.inl (hw _ (List.mem_of_getElem? (i := 42) rfl))) (by decide) (t := .int) (t' := (.array .int)) (by decide) (by decide))))
  have F446 := (((F445.ext E213).other W239 (Or.inr (slot_ne (Or.inl (hw _ (List.mem_of_getElem? (i := 70) rfl))) (Or.inl (hw _ (List.mem_of_getElem? (i := 44) rfl))) (by decide) (t := .int) (t' := (.array .int)) (by decide) (by decide)))).ext E240)
  have F447 := (((F446.other W267 (Or.inr (slot_ne (Or.inl (hw _ (List.mem_of_getElem? (i := 70) rfl))) (Or.inl (hw _ (List.mem_of_getElem? (i := 46) rfl))) (by decide) (t := .int) (t' := (.array .int)) (by decide) (by decide)))).ext E268).other W297 (Or.inr (slot_ne (Or.inl (hw _ (List.mem_of_getElem? (i := 70) rfl))) (Or.inl (hw _ (List.mem_of_getElem? (i := 48) rfl))) (by decide) (t := .int) (t' := (.array .int)) (by decide) (by decide))))
  have F448 := (((F447.ext E299).other W330 (Or.inr (slot_ne (Or.inl (hw _ (List.mem_of_getElem? (i := 70) rfl))) (Or.inl (hw _ (List.mem_of_getElem? (i := 50) rfl))) (by decide) (t := .int) (t' := (.array .int)) (by decide) (by decide)))).ext E331)
  have F449 := (((F448.other W363 (Or.inr (slot_ne (Or.inl (hw _ (List.mem_of_getElem? (i := 70) rfl))) (Or.inl (hw _ (List.mem_of_getElem? (i := 52) rfl))) (by decide) (t := .int) (t' := (.array .int)) (by decide) (by decide)))).ext E364).other W398 (Or.inr (slot_ne (Or.inl (hw _ (List.mem_of_getElem? (i := 70) rfl))) (Or.inl (hw _ (List.mem_of_getElem? (i := 54) rfl))) (by decide) (t := .int) (t' := (.array .int)) (by decide) (by decide))))
  have F450 := ((F449.ext E400).other W436 (Or.inr (slot_ne (Or.inl (hw _ (List.mem_of_getElem? (i := 70) rfl))) (Or.inl (hw _ (List.mem_of_getElem? (i := 56) rfl))) (by decide) (t := .int) (t' := (.array .int)) (by decide) (by decide))))
  have F451 := (((F_disjunctionCount.ext E2).other W6 (Or.inr (slot_ne (Or.inl (hw _ (List.mem_of_getElem? (i := 72) rfl))) (Or.inl (hw _ (List.mem_of_getElem? (i := 11) rfl))) (by decide) (t := .int) (t' := (.array .int)) (by decide) (by decide)))).ext E7)
  have F452 := (((F451.other W13 (Or.inr (slot_ne (Or.inl (hw _ (List.mem_of_getElem? (i := 72) rfl))) (Or.inl (hw _ (List.mem_of_getElem? (i := 13) rfl))) (by decide) (t := .int) (t' := (.array .int)) (by decide) (by decide)))).ext E15).other W23 (Or.inr (slot_ne (Or.inl (hw _ (List.mem_of_getElem? (i := 72) rfl))) (Or.inl (hw _ (List.mem_of_getElem? (i := 15) rfl))) (by decide) (t := .int) (t' := (.array .int)) (by decide) (by decide))))
  have F453 := (((F452.ext E24).other W34 (Or.inr (slot_ne (Or.inl (hw _ (List.mem_of_getElem? (i := 72) rfl))) (Or.inl (hw _ (List.mem_of_getElem? (i := 17) rfl))) (by decide) (t := .int) (t' := (.array .int)) (by decide) (by decide)))).ext E35)
  have F454 := (((F453.other W46 (Or.inr (slot_ne (Or.inl (hw _ (List.mem_of_getElem? (i := 72) rfl))) (Or.inl (hw _ (List.mem_of_getElem? (i := 19) rfl))) (by decide) (t := .int) (t' := (.array .int)) (by decide) (by decide)))).ext E48).other W61 (Or.inr (slot_ne (Or.inl (hw _ (List.mem_of_getElem? (i := 72) rfl))) (Or.inl (hw _ (List.mem_of_getElem? (i := 21) rfl))) (by decide) (t := .int) (t' := (.array .int)) (by decide) (by decide))))
  have F455 := (((F454.ext E62).other W77 (Or.inr (slot_ne (Or.inl (hw _ (List.mem_of_getElem? (i := 72) rfl))) (Or.inl (hw _ (List.mem_of_getElem? (i := 25) rfl))) (by decide) (t := .int) (t' := (.array (.array .int))) (by decide) (by decide)))).ext E78)
  have F456 := (((F455.other W94 (Or.inr (slot_ne (Or.inl (hw _ (List.mem_of_getElem? (i := 72) rfl))) (Or.inl (hw _ (List.mem_of_getElem? (i := 28) rfl))) (by decide) (t := .int) (t' := (.array .boolean)) (by decide) (by decide)))).ext E96).other W114 (Or.inr (slot_ne (Or.inl (hw _ (List.mem_of_getElem? (i := 72) rfl))) (Or.inl (hw _ (List.mem_of_getElem? (i := 30) rfl))) (by decide) (t := .int) (t' := (.array .int)) (by decide) (by decide))))
  have F457 := (((F456.ext E115).other W135 (Or.inr (slot_ne (Or.inl (hw _ (List.mem_of_getElem? (i := 72) rfl))) (Or.inr (hw _ (List.mem_of_getElem? (i := 32) rfl))) (by decide) (t := .int) (t' := (.array .int)) (by decide) (by decide)))).keep K137 (ninS ne_a0__b115 nin0))
  have F458 := (((F457.ext E142).other W163 (Or.inr (slot_ne (Or.inl (hw _ (List.mem_of_getElem? (i := 72) rfl))) (Or.inl (hw _ (List.mem_of_getElem? (i := 38) rfl))) (by decide) (t := .int) (t' := (.array .int)) (by decide) (by decide)))).ext E164)
  have F459 := (((F458.other W186 (Or.inr (slot_ne (Or.inl (hw _ (List.mem_of_getElem? (i := 72) rfl))) (Or.inl (hw _ (List.mem_of_getElem? (i := 40) rfl))) (by decide) (t := .int) (t' := (.array .int)) (by decide) (by decide)))).ext E187).other W211 (Or.inr (slot_ne (Or.inl (hw _ (List.mem_of_getElem? (i := 72) rfl))) (Or.inl (hw _ (List.mem_of_getElem? (i := 42) rfl))) (by decide) (t := .int) (t' := (.array .int)) (by decide) (by decide))))
  have F460 := (((F459.ext E213).other W239 (Or.inr (slot_ne (Or.inl (hw _ (List.mem_of_getElem? (i := 72) rfl))) (Or.inl (hw _ (List.mem_of_getElem? (i := 44) rfl))) (by decide) (t := .int) (t' := (.array .int)) (by decide) (by decide)))).ext E240)
  have F461 := (((F460.other W267 (Or.inr (slot_ne (Or.inl (hw _ (List.mem_of_getElem? (i := 72) rfl))) (Or.inl (hw _ (List.mem_of_getElem? (i := 46) rfl))) (by decide) (t := .int) (t' := (.array .int)) (by decide) (by decide)))).ext E268).other W297 (Or.inr (slot_ne (Or.inl (hw _ (List.mem_of_getElem? (i := 72) rfl))) (Or.inl (hw _ (List.mem_of_getElem? (i := 48) rfl))) (by decide) (t := .int) (t' := (.array .int)) (by decide) (by decide))))
  have F462 := (((F461.ext E299).other W330 (Or.inr (slot_ne (Or.inl (hw _ (List.mem_of_getElem? (i := 72) rfl))) (Or.inl (hw _ (List.mem_of_getElem? (i := 50) rfl))) (by decide) (t := .int) (t' := (.array .int)) (by decide) (by decide)))).ext E331)
  have F463 := (((F462.other W363 (Or.inr (slot_ne (Or.inl (hw _ (List.mem_of_getElem? (i := 72) rfl))) (Or.inl (hw _ (List.mem_of_getElem? (i := 52) rfl))) (by decide) (t := .int) (t' := (.array .int)) (by decide) (by decide)))).ext E364).other W398 (Or.inr (slot_ne (Or.inl (hw _ (List.mem_of_getElem? (i := 72) rfl))) (Or.inl (hw _ (List.mem_of_getElem? (i := 54) rfl))) (by decide) (t := .int) (t' := (.array .int)) (by decide) (by decide))))
  have F464 := ((F463.ext E400).other W436 (Or.inr (slot_ne (Or.inl (hw _ (List.mem_of_getElem? (i := 72) rfl))) (Or.inl (hw _ (List.mem_of_getElem? (i := 56) rfl))) (by decide) (t := .int) (t' := (.array .int)) (by decide) (by decide))))
  have F465 := (((F_builtinsLooked.ext E2).other W6 (Or.inr (slot_ne (Or.inl (hw _ (List.mem_of_getElem? (i := 74) rfl))) (Or.inl (hw _ (List.mem_of_getElem? (i := 11) rfl))) (by decide) (t := .int) (t' := (.array .int)) (by decide) (by decide)))).ext E7)
  have F466 := (((F465.other W13 (Or.inr (slot_ne (Or.inl (hw _ (List.mem_of_getElem? (i := 74) rfl))) (Or.inl (hw _ (List.mem_of_getElem? (i := 13) rfl))) (by decide) (t := .int) (t' := (.array .int)) (by decide) (by decide)))).ext E15).other W23 (Or.inr (slot_ne (Or.inl (hw _ (List.mem_of_getElem? (i := 74) rfl))) (Or.inl (hw _ (List.mem_of_getElem? (i := 15) rfl))) (by decide) (t := .int) (t' := (.array .int)) (by decide) (by decide))))
  have F467 := (((F466.ext E24).other W34 (Or.inr (slot_ne (Or.inl (hw _ (List.mem_of_getElem? (i := 74) rfl))) (Or.inl (hw _ (List.mem_of_getElem? (i := 17) rfl))) (by decide) (t := .int) (t' := (.array .int)) (by decide) (by decide)))).ext E35)
  have F468 := (((F467.other W46 (Or.inr (slot_ne (Or.inl (hw _ (List.mem_of_getElem? (i := 74) rfl))) (Or.inl (hw _ (List.mem_of_getElem? (i := 19) rfl))) (by decide) (t := .int) (t' := (.array .int)) (by decide) (by decide)))).ext E48).other W61 (Or.inr (slot_ne (Or.inl (hw _ (List.mem_of_getElem? (i := 74) rfl))) (Or.inl (hw _ (List.mem_of_getElem? (i := 21) rfl))) (by decide) (t := .int) (t' := (.array .int)) (by decide) (by decide))))
  have F469 := (((F468.ext E62).other W77 (Or.inr (slot_ne (Or.inl (hw _ (List.mem_of_getElem? (i := 74) rfl))) (Or.inl (hw _ (List.mem_of_getElem? (i := 25) rfl))) (by decide) (t := .int) (t' := (.array (.array .int))) (by decide) (by decide)))).ext E78)
  have F470 := (((F469.other W94 (Or.inr (slot_ne (Or.inl (hw _ (List.mem_of_getElem? (i := 74) rfl))) (Or.inl (hw _ (List.mem_of_getElem? (i := 28) rfl))) (by decide) (t := .int) (t' := (.array .boolean)) (by decide) (by decide)))).ext E96).other W114 (Or.inr (slot_ne (Or.inl (hw _ (List.mem_of_getElem? (i := 74) rfl))) (Or.inl (hw _ (List.mem_of_getElem? (i := 30) rfl))) (by decide) (t := .int) (t' := (.array .int)) (by decide) (by decide))))
  have F471 := (((F470.ext E115).other W135 (Or.inr (slot_ne (Or.inl (hw _ (List.mem_of_getElem? (i := 74) rfl))) (Or.inr (hw _ (List.mem_of_getElem? (i := 32) rfl))) (by decide) (t := .int) (t' := (.array .int)) (by decide) (by decide)))).keep K137 (ninS ne_a0__b115 nin0))
  have F472 := (((F471.ext E142).other W163 (Or.inr (slot_ne (Or.inl (hw _ (List.mem_of_getElem? (i := 74) rfl))) (Or.inl (hw _ (List.mem_of_getElem? (i := 38) rfl))) (by decide) (t := .int) (t' := (.array .int)) (by decide) (by decide)))).ext E164)
  have F473 := (((F472.other W186 (Or.inr (slot_ne (Or.inl (hw _ (List.mem_of_getElem? (i := 74) rfl))) (Or.inl (hw _ (List.mem_of_getElem? (i := 40) rfl))) (by decide) (t := .int) (t' := (.array .int)) (by decide) (by decide)))).ext E187).other W211 (Or.inr (slot_ne (Or.inl (hw _ (List.mem_of_getElem? (i := 74) rfl))) (Or.inl (hw _ (List.mem_of_getElem? (i := 42) rfl))) (by decide) (t := .int) (t' := (.array .int)) (by decide) (by decide))))
  have F474 := (((F473.ext E213).other W239 (Or.inr (slot_ne (Or.inl (hw _ (List.mem_of_getElem? (i := 74) rfl))) (Or.inl (hw _ (List.mem_of_getElem? (i := 44) rfl))) (by decide) (t := .int) (t' := (.array .int)) (by decide) (by decide)))).ext E240)
  have F475 := (((F474.other W267 (Or.inr (slot_ne (Or.inl (hw _ (List.mem_of_getElem? (i := 74) rfl))) (Or.inl (hw _ (List.mem_of_getElem? (i := 46) rfl))) (by decide) (t := .int) (t' := (.array .int)) (by decide) (by decide)))).ext E268).other W297 (Or.inr (slot_ne (Or.inl (hw _ (List.mem_of_getElem? (i := 74) rfl))) (Or.inl (hw _ (List.mem_of_getElem? (i := 48) rfl))) (by decide) (t := .int) (t' := (.array .int)) (by decide) (by decide))))
  have F476 := (((F475.ext E299).other W330 (Or.inr (slot_ne (Or.inl (hw _ (List.mem_of_getElem? (i := 74) rfl))) (Or.inl (hw _ (List.mem_of_getElem? (i := 50) rfl))) (by decide) (t := .int) (t' := (.array .int)) (by decide) (by decide)))).ext E331)
  have F477 := (((F476.other W363 (Or.inr (slot_ne (Or.inl (hw _ (List.mem_of_getElem? (i := 74) rfl))) (Or.inl (hw _ (List.mem_of_getElem? (i := 52) rfl))) (by decide) (t := .int) (t' := (.array .int)) (by decide) (by decide)))).ext E364).other W398 (Or.inr (slot_ne (Or.inl (hw _ (List.mem_of_getElem? (i := 74) rfl))) (Or.inl (hw _ (List.mem_of_getElem? (i := 54) rfl))) (by decide) (t := .int) (t' := (.array .int)) (by decide) (by decide))))
  have F478 := ((F477.ext E400).other W436 (Or.inr (slot_ne (Or.inl (hw _ (List.mem_of_getElem? (i := 74) rfl))) (Or.inl (hw _ (List.mem_of_getElem? (i := 56) rfl))) (by decide) (t := .int) (t' := (.array .int)) (by decide) (by decide))))
  have F479 := (((F_disjunctionsLooked.ext E2).other W6 (Or.inr (slot_ne (Or.inl (hw _ (List.mem_of_getElem? (i := 76) rfl))) (Or.inl (hw _ (List.mem_of_getElem? (i := 11) rfl))) (by decide) (t := .int) (t' := (.array .int)) (by decide) (by decide)))).ext E7)
  have F480 := (((F479.other W13 (Or.inr (slot_ne (Or.inl (hw _ (List.mem_of_getElem? (i := 76) rfl))) (Or.inl (hw _ (List.mem_of_getElem? (i := 13) rfl))) (by decide) (t := .int) (t' := (.array .int)) (by decide) (by decide)))).ext E15).other W23 (Or.inr (slot_ne (Or.inl (hw _ (List.mem_of_getElem? (i := 76) rfl))) (Or.inl (hw _ (List.mem_of_getElem? (i := 15) rfl))) (by decide) (t := .int) (t' := (.array .int)) (by decide) (by decide))))
  have F481 := (((F480.ext E24).other W34 (Or.inr (slot_ne (Or.inl (hw _ (List.mem_of_getElem? (i := 76) rfl))) (Or.inl (hw _ (List.mem_of_getElem? (i := 17) rfl))) (by decide) (t := .int) (t' := (.array .int)) (by decide) (by decide)))).ext E35)
  have F482 := (((F481.other W46 (Or.inr (slot_ne (Or.inl (hw _ (List.mem_of_getElem? (i := 76) rfl))) (Or.inl (hw _ (List.mem_of_getElem? (i := 19) rfl))) (by decide) (t := .int) (t' := (.array .int)) (by decide) (by decide)))).ext E48).other W61 (Or.inr (slot_ne (Or.inl (hw _ (List.mem_of_getElem? (i := 76) rfl))) (Or.inl (hw _ (List.mem_of_getElem? (i := 21) rfl))) (by decide) (t := .int) (t' := (.array .int)) (by decide) (by decide))))
  have F483 := (((F482.ext E62).other W77 (Or.inr (slot_ne (Or.inl (hw _ (List.mem_of_getElem? (i := 76) rfl))) (Or.inl (hw _ (List.mem_of_getElem? (i := 25) rfl))) (by decide) (t := .int) (t' := (.array (.array .int))) (by decide) (by decide)))).ext E78)
  have F484 := (((F483.other W94 (Or.inr (slot_ne (Or.inl (hw _ (List.mem_of_getElem? (i := 76) rfl))) (Or.inl (hw _ (List.mem_of_getElem? (i := 28) rfl))) (by decide) (t := .int) (t' := (.array .boolean)) (by decide) (by decide)))).ext E96).other W114 (Or.inr (slot_ne (Or.inl (hw _ (List.mem_of_getElem? (i := 76) rfl))) (Or.inl (hw _ (List.mem_of_getElem? (i := 30) rfl))) (by decide) (t := .int) (t' := (.array .int)) (by decide) (by decide))))
  have F485 := (((F484.ext E115).other W135 (Or.inr (slot_ne (Or.inl (hw _ (List.mem_of_getElem? (i := 76) rfl))) (Or.inr (hw _ (List.mem_of_getElem? (i := 32) rfl))) (by decide) (t := .int) (t' := (.array .int)) (by decide) (by decide)))).keep K137 (ninS ne_a0__b115 nin0))
  have F486 := (((F485.ext E142).other W163 (Or.inr (slot_ne (Or.inl (hw _ (List.mem_of_getElem? (i := 76) rfl))) (Or.inl (hw _ (List.mem_of_getElem? (i := 38) rfl))) (by decide) (t := .int) (t' := (.array .int)) (by decide) (by decide)))).ext E164)
  have F487 := (((F486.other W186 (Or.inr (slot_ne (Or.inl (hw _ (List.mem_of_getElem? (i := 76) rfl))) (Or.inl (hw _ (List.mem_of_getElem? (i := 40) rfl))) (by decide) (t := .int) (t' := (.array .int)) (by decide) (by decide)))).ext E187).other W211 (Or.inr (slot_ne (Or.inl (hw _ (List.mem_of_getElem? (i := 76) rfl))) (Or.inl (hw _ (List.mem_of_getElem? (i := 42) rfl))) (by decide) (t := .int) (t' := (.array .int)) (by decide) (by decide))))
  have F488 := (((F487.ext E213).other W239 (Or.inr (slot_ne (Or.inl (hw _ (List.mem_of_getElem? (i := 76) rfl))) (Or.inl (hw _ (List.mem_of_getElem? (i := 44) rfl))) (by decide) (t := .int) (t' := (.array .int)) (by decide) (by decide)))).ext E240)
  have F489 := (((F488.other W267 (Or.inr (slot_ne (Or.inl (hw _ (List.mem_of_getElem? (i := 76) rfl))) (Or.inl (hw _ (List.mem_of_getElem? (i := 46) rfl))) (by decide) (t := .int) (t' := (.array .int)) (by decide) (by decide)))).ext E268).other W297 (Or.inr (slot_ne (Or.inl (hw _ (List.mem_of_getElem? (i := 76) rfl))) (Or.inl (hw _ (List.mem_of_getElem? (i := 48) rfl))) (by decide) (t := .int) (t' := (.array .int)) (by decide) (by decide))))
  have F490 := (((F489.ext E299).other W330 (Or.inr (slot_ne (Or.inl (hw _ (List.mem_of_getElem? (i := 76) rfl))) (Or.inl (hw _ (List.mem_of_getElem? (i := 50) rfl))) (by decide) (t := .int) (t' := (.array .int)) (by decide) (by decide)))).ext E331)
  have F491 := (((F490.other W363 (Or.inr (slot_ne (Or.inl (hw _ (List.mem_of_getElem? (i := 76) rfl))) (Or.inl (hw _ (List.mem_of_getElem? (i := 52) rfl))) (by decide) (t := .int) (t' := (.array .int)) (by decide) (by decide)))).ext E364).other W398 (Or.inr (slot_ne (Or.inl (hw _ (List.mem_of_getElem? (i := 76) rfl))) (Or.inl (hw _ (List.mem_of_getElem? (i := 54) rfl))) (by decide) (t := .int) (t' := (.array .int)) (by decide) (by decide))))
  have F492 := ((F491.ext E400).other W436 (Or.inr (slot_ne (Or.inl (hw _ (List.mem_of_getElem? (i := 76) rfl))) (Or.inl (hw _ (List.mem_of_getElem? (i := 56) rfl))) (by decide) (t := .int) (t' := (.array .int)) (by decide) (by decide))))
  have F493 := (((F_settledDisjunctions.ext E2).other W6 (Or.inr (slot_ne (Or.inl (hw _ (List.mem_of_getElem? (i := 78) rfl))) (Or.inl (hw _ (List.mem_of_getElem? (i := 11) rfl))) (by decide) (t := .int) (t' := (.array .int)) (by decide) (by decide)))).ext E7)
  have F494 := (((F493.other W13 (Or.inr (slot_ne (Or.inl (hw _ (List.mem_of_getElem? (i := 78) rfl))) (Or.inl (hw _ (List.mem_of_getElem? (i := 13) rfl))) (by decide) (t := .int) (t' := (.array .int)) (by decide) (by decide)))).ext E15).other W23 (Or.inr (slot_ne (Or.inl (hw _ (List.mem_of_getElem? (i := 78) rfl))) (Or.inl (hw _ (List.mem_of_getElem? (i := 15) rfl))) (by decide) (t := .int) (t' := (.array .int)) (by decide) (by decide))))
  have F495 := (((F494.ext E24).other W34 (Or.inr (slot_ne (Or.inl (hw _ (List.mem_of_getElem? (i := 78) rfl))) (Or.inl (hw _ (List.mem_of_getElem? (i := 17) rfl))) (by decide) (t := .int) (t' := (.array .int)) (by decide) (by decide)))).ext E35)
  have F496 := (((F495.other W46 (Or.inr (slot_ne (Or.inl (hw _ (List.mem_of_getElem? (i := 78) rfl))) (Or.inl (hw _ (List.mem_of_getElem? (i := 19) rfl))) (by decide) (t := .int) (t' := (.array .int)) (by decide) (by decide)))).ext E48).other W61 (Or.inr (slot_ne (Or.inl (hw _ (List.mem_of_getElem? (i := 78) rfl))) (Or.inl (hw _ (List.mem_of_getElem? (i := 21) rfl))) (by decide) (t := .int) (t' := (.array .int)) (by decide) (by decide))))
  have F497 := (((F496.ext E62).other W77 (Or.inr (slot_ne (Or.inl (hw _ (List.mem_of_getElem? (i := 78) rfl))) (Or.inl (hw _ (List.mem_of_getElem? (i := 25) rfl))) (by decide) (t := .int) (t' := (.array (.array .int))) (by decide) (by decide)))).ext E78)
  have F498 := (((F497.other W94 (Or.inr (slot_ne (Or.inl (hw _ (List.mem_of_getElem? (i := 78) rfl))) (Or.inl (hw _ (List.mem_of_getElem? (i := 28) rfl))) (by decide) (t := .int) (t' := (.array .boolean)) (by decide) (by decide)))).ext E96).other W114 (Or.inr (slot_ne (Or.inl (hw _ (List.mem_of_getElem? (i := 78) rfl))) (Or.inl (hw _ (List.mem_of_getElem? (i := 30) rfl))) (by decide) (t := .int) (t' := (.array .int)) (by decide) (by decide))))
  have F499 := (((F498.ext E115).other W135 (Or.inr (slot_ne (Or.inl (hw _ (List.mem_of_getElem? (i := 78) rfl))) (Or.inr (hw _ (List.mem_of_getElem? (i := 32) rfl))) (by decide) (t := .int) (t' := (.array .int)) (by decide) (by decide)))).keep K137 (ninS ne_a0__b115 nin0))
  have F500 := (((F499.ext E142).other W163 (Or.inr (slot_ne (Or.inl (hw _ (List.mem_of_getElem? (i := 78) rfl))) (Or.inl (hw _ (List.mem_of_getElem? (i := 38) rfl))) (by decide) (t := .int) (t' := (.array .int)) (by decide) (by decide)))).ext E164)
  have F501 := (((F500.other W186 (Or.inr (slot_ne (Or.inl (hw _ (List.mem_of_getElem? (i := 78) rfl))) (Or.inl (hw _ (List.mem_of_getElem? (i := 40) rfl))) (by decide) (t := .int) (t' := (.array .int)) (by decide) (by decide)))).ext E187).other W211 (Or.inr (slot_ne (Or.inl (hw _ (List.mem_of_getElem? (i := 78) rfl))) (Or.inl (hw _ (List.mem_of_getElem? (i := 42) rfl))) (by decide) (t := .int) (t' := (.array .int)) (by decide) (by decide))))
  have F502 := (((F501.ext E213).other W239 (Or.inr (slot_ne (Or.inl (hw _ (List.mem_of_getElem? (i := 78) rfl))) (Or.inl (hw _ (List.mem_of_getElem? (i := 44) rfl))) (by decide) (t := .int) (t' := (.array .int)) (by decide) (by decide)))).ext E240)
  have F503 := (((F502.other W267 (Or.inr (slot_ne (Or.inl (hw _ (List.mem_of_getElem? (i := 78) rfl))) (Or.inl (hw _ (List.mem_of_getElem? (i := 46) rfl))) (by decide) (t := .int) (t' := (.array .int)) (by decide) (by decide)))).ext E268).other W297 (Or.inr (slot_ne (Or.inl (hw _ (List.mem_of_getElem? (i := 78) rfl))) (Or.inl (hw _ (List.mem_of_getElem? (i := 48) rfl))) (by decide) (t := .int) (t' := (.array .int)) (by decide) (by decide))))
  have F504 := (((F503.ext E299).other W330 (Or.inr (slot_ne (Or.inl (hw _ (List.mem_of_getElem? (i := 78) rfl))) (Or.inl (hw _ (List.mem_of_getElem? (i := 50) rfl))) (by decide) (t := .int) (t' := (.array .int)) (by decide) (by decide)))).ext E331)
  have F505 := (((F504.other W363 (Or.inr (slot_ne (Or.inl (hw _ (List.mem_of_getElem? (i := 78) rfl))) (Or.inl (hw _ (List.mem_of_getElem? (i := 52) rfl))) (by decide) (t := .int) (t' := (.array .int)) (by decide) (by decide)))).ext E364).other W398 (Or.inr (slot_ne (Or.inl (hw _ (List.mem_of_getElem? (i := 78) rfl))) (Or.inl (hw _ (List.mem_of_getElem? (i := 54) rfl))) (by decide) (t := .int) (t' := (.array .int)) (by decide) (by decide))))
  have F506 := ((F505.ext E400).other W436 (Or.inr (slot_ne (Or.inl (hw _ (List.mem_of_getElem? (i := 78) rfl))) (Or.inl (hw _ (List.mem_of_getElem? (i := 56) rfl))) (by decide) (t := .int) (t' := (.array .int)) (by decide) (by decide))))
  have F507 := (((F_readyCount.ext E2).other W6 (Or.inr (slot_ne (Or.inl (hw _ (List.mem_of_getElem? (i := 80) rfl))) (Or.inl (hw _ (List.mem_of_getElem? (i := 11) rfl))) (by decide) (t := .int) (t' := (.array .int)) (by decide) (by decide)))).ext E7)
  have F508 := (((F507.other W13 (Or.inr (slot_ne (Or.inl (hw _ (List.mem_of_getElem? (i := 80) rfl))) (Or.inl (hw _ (List.mem_of_getElem? (i := 13) rfl))) (by decide) (t := .int) (t' := (.array .int)) (by decide) (by decide)))).ext E15).other W23 (Or.inr (slot_ne (Or.inl (hw _ (List.mem_of_getElem? (i := 80) rfl))) (Or.inl (hw _ (List.mem_of_getElem? (i := 15) rfl))) (by decide) (t := .int) (t' := (.array .int)) (by decide) (by decide))))
  have F509 := (((F508.ext E24).other W34 (Or.inr (slot_ne (Or.inl (hw _ (List.mem_of_getElem? (i := 80) rfl))) (Or.inl (hw _ (List.mem_of_getElem? (i := 17) rfl))) (by decide) (t := .int) (t' := (.array .int)) (by decide) (by decide)))).ext E35)
  have F510 := (((F509.other W46 (Or.inr (slot_ne (Or.inl (hw _ (List.mem_of_getElem? (i := 80) rfl))) (Or.inl (hw _ (List.mem_of_getElem? (i := 19) rfl))) (by decide) (t := .int) (t' := (.array .int)) (by decide) (by decide)))).ext E48).other W61 (Or.inr (slot_ne (Or.inl (hw _ (List.mem_of_getElem? (i := 80) rfl))) (Or.inl (hw _ (List.mem_of_getElem? (i := 21) rfl))) (by decide) (t := .int) (t' := (.array .int)) (by decide) (by decide))))
  have F511 := (((F510.ext E62).other W77 (Or.inr (slot_ne (Or.inl (hw _ (List.mem_of_getElem? (i := 80) rfl))) (Or.inl (hw _ (List.mem_of_getElem? (i := 25) rfl))) (by decide) (t := .int) (t' := (.array (.array .int))) (by decide) (by decide)))).ext E78)
  have F512 := (((F511.other W94 (Or.inr (slot_ne (Or.inl (hw _ (List.mem_of_getElem? (i := 80) rfl))) (Or.inl (hw _ (List.mem_of_getElem? (i := 28) rfl))) (by decide) (t := .int) (t' := (.array .boolean)) (by decide) (by decide)))).ext E96).other W114 (Or.inr (slot_ne (Or.inl (hw _ (List.mem_of_getElem? (i := 80) rfl))) (Or.inl (hw _ (List.mem_of_getElem? (i := 30) rfl))) (by decide) (t := .int) (t' := (.array .int)) (by decide) (by decide))))
  have F513 := (((F512.ext E115).other W135 (Or.inr (slot_ne (Or.inl (hw _ (List.mem_of_getElem? (i := 80) rfl))) (Or.inr (hw _ (List.mem_of_getElem? (i := 32) rfl))) (by decide) (t := .int) (t' := (.array .int)) (by decide) (by decide)))).keep K137 (ninS ne_a0__b115 nin0))
  have F514 := (((F513.ext E142).other W163 (Or.inr (slot_ne (Or.inl (hw _ (List.mem_of_getElem? (i := 80) rfl))) (Or.inl (hw _ (List.mem_of_getElem? (i := 38) rfl))) (by decide) (t := .int) (t' := (.array .int)) (by decide) (by decide)))).ext E164)
  have F515 := (((F514.other W186 (Or.inr (slot_ne (Or.inl (hw _ (List.mem_of_getElem? (i := 80) rfl))) (Or.inl (hw _ (List.mem_of_getElem? (i := 40) rfl))) (by decide) (t := .int) (t' := (.array .int)) (by decide) (by decide)))).ext E187).other W211 (Or.inr (slot_ne (Or.inl (hw _ (List.mem_of_getElem? (i := 80) rfl))) (Or.inl (hw _ (List.mem_of_getElem? (i := 42) rfl))) (by decide) (t := .int) (t' := (.array .int)) (by decide) (by decide))))
  have F516 := (((F515.ext E213).other W239 (Or.inr (slot_ne (Or.inl (hw _ (List.mem_of_getElem? (i := 80) rfl))) (Or.inl (hw _ (List.mem_of_getElem? (i := 44) rfl))) (by decide) (t := .int) (t' := (.array .int)) (by decide) (by decide)))).ext E240)
  have F517 := (((F516.other W267 (Or.inr (slot_ne (Or.inl (hw _ (List.mem_of_getElem? (i := 80) rfl))) (Or.inl (hw _ (List.mem_of_getElem? (i := 46) rfl))) (by decide) (t := .int) (t' := (.array .int)) (by decide) (by decide)))).ext E268).other W297 (Or.inr (slot_ne (Or.inl (hw _ (List.mem_of_getElem? (i := 80) rfl))) (Or.inl (hw _ (List.mem_of_getElem? (i := 48) rfl))) (by decide) (t := .int) (t' := (.array .int)) (by decide) (by decide))))
  have F518 := (((F517.ext E299).other W330 (Or.inr (slot_ne (Or.inl (hw _ (List.mem_of_getElem? (i := 80) rfl))) (Or.inl (hw _ (List.mem_of_getElem? (i := 50) rfl))) (by decide) (t := .int) (t' := (.array .int)) (by decide) (by decide)))).ext E331)
  have F519 := (((F518.other W363 (Or.inr (slot_ne (Or.inl (hw _ (List.mem_of_getElem? (i := 80) rfl))) (Or.inl (hw _ (List.mem_of_getElem? (i := 52) rfl))) (by decide) (t := .int) (t' := (.array .int)) (by decide) (by decide)))).ext E364).other W398 (Or.inr (slot_ne (Or.inl (hw _ (List.mem_of_getElem? (i := 80) rfl))) (Or.inl (hw _ (List.mem_of_getElem? (i := 54) rfl))) (by decide) (t := .int) (t' := (.array .int)) (by decide) (by decide))))
  have F520 := ((F519.ext E400).other W436 (Or.inr (slot_ne (Or.inl (hw _ (List.mem_of_getElem? (i := 80) rfl))) (Or.inl (hw _ (List.mem_of_getElem? (i := 56) rfl))) (by decide) (t := .int) (t' := (.array .int)) (by decide) (by decide))))
  have F521 := (((F_readyTaken.ext E2).other W6 (Or.inr (slot_ne (Or.inl (hw _ (List.mem_of_getElem? (i := 82) rfl))) (Or.inl (hw _ (List.mem_of_getElem? (i := 11) rfl))) (by decide) (t := .int) (t' := (.array .int)) (by decide) (by decide)))).ext E7)
  have F522 := (((F521.other W13 (Or.inr (slot_ne (Or.inl (hw _ (List.mem_of_getElem? (i := 82) rfl))) (Or.inl (hw _ (List.mem_of_getElem? (i := 13) rfl))) (by decide) (t := .int) (t' := (.array .int)) (by decide) (by decide)))).ext E15).other W23 (Or.inr (slot_ne (Or.inl (hw _ (List.mem_of_getElem? (i := 82) rfl))) (Or.inl (hw _ (List.mem_of_getElem? (i := 15) rfl))) (by decide) (t := .int) (t' := (.array .int)) (by decide) (by decide))))
  have F523 := (((F522.ext E24).other W34 (Or.inr (slot_ne (Or.inl (hw _ (List.mem_of_getElem? (i := 82) rfl))) (Or.inl (hw _ (List.mem_of_getElem? (i := 17) rfl))) (by decide) (t := .int) (t' := (.array .int)) (by decide) (by decide)))).ext E35)
  have F524 := (((F523.other W46 (Or.inr (slot_ne (Or.inl (hw _ (List.mem_of_getElem? (i := 82) rfl))) (Or.inl (hw _ (List.mem_of_getElem? (i := 19) rfl))) (by decide) (t := .int) (t' := (.array .int)) (by decide) (by decide)))).ext E48).other W61 (Or.inr (slot_ne (Or.inl (hw _ (List.mem_of_getElem? (i := 82) rfl))) (Or.inl (hw _ (List.mem_of_getElem? (i := 21) rfl))) (by decide) (t := .int) (t' := (.array .int)) (by decide) (by decide))))
  have F525 := (((F524.ext E62).other W77 (Or.inr (slot_ne (Or.inl (hw _ (List.mem_of_getElem? (i := 82) rfl))) (Or.inl (hw _ (List.mem_of_getElem? (i := 25) rfl))) (by decide) (t := .int) (t' := (.array (.array .int))) (by decide) (by decide)))).ext E78)
  have F526 := (((F525.other W94 (Or.inr (slot_ne (Or.inl (hw _ (List.mem_of_getElem? (i := 82) rfl))) (Or.inl (hw _ (List.mem_of_getElem? (i := 28) rfl))) (by decide) (t := .int) (t' := (.array .boolean)) (by decide) (by decide)))).ext E96).other W114 (Or.inr (slot_ne (Or.inl (hw _ (List.mem_of_getElem? (i := 82) rfl))) (Or.inl (hw _ (List.mem_of_getElem? (i := 30) rfl))) (by decide) (t := .int) (t' := (.array .int)) (by decide) (by decide))))
  have F527 := (((F526.ext E115).other W135 (Or.inr (slot_ne (Or.inl (hw _ (List.mem_of_getElem? (i := 82) rfl))) (Or.inr (hw _ (List.mem_of_getElem? (i := 32) rfl))) (by decide) (t := .int) (t' := (.array .int)) (by decide) (by decide)))).keep K137 (ninS ne_a0__b115 nin0))
  have F528 := (((F527.ext E142).other W163 (Or.inr (slot_ne (Or.inl (hw _ (List.mem_of_getElem? (i := 82) rfl))) (Or.inl (hw _ (List.mem_of_getElem? (i := 38) rfl))) (by decide) (t := .int) (t' := (.array .int)) (by decide) (by decide)))).ext E164)
  have F529 := (((F528.other W186 (Or.inr (slot_ne (Or.inl (hw _ (List.mem_of_getElem? (i := 82) rfl))) (Or.inl (hw _ (List.mem_of_getElem? (i := 40) rfl))) (by decide) (t := .int) (t' := (.array .int)) (by decide) (by decide)))).ext E187).other W211 (Or.inr (slot_ne (Or.inl (hw _ (List.mem_of_getElem? (i := 82) rfl))) (Or.inl (hw _ (List.mem_of_getElem? (i := 42) rfl))) (by decide) (t := .int) (t' := (.array .int)) (by decide) (by decide))))
  have F530 := (((F529.ext E213).other W239 (Or.inr (slot_ne (Or.inl (hw _ (List.mem_of_getElem? (i := 82) rfl))) (Or.inl (hw _ (List.mem_of_getElem? (i := 44) rfl))) (by decide) (t := .int) (t' := (.array .int)) (by decide) (by decide)))).ext E240)
  have F531 := (((F530.other W267 (Or.inr (slot_ne (Or.inl (hw _ (List.mem_of_getElem? (i := 82) rfl))) (Or.inl (hw _ (List.mem_of_getElem? (i := 46) rfl))) (by decide) (t := .int) (t' := (.array .int)) (by decide) (by decide)))).ext E268).other W297 (Or.inr (slot_ne (Or.inl (hw _ (List.mem_of_getElem? (i := 82) rfl))) (Or.inl (hw _ (List.mem_of_getElem? (i := 48) rfl))) (by decide) (t := .int) (t' := (.array .int)) (by decide) (by decide))))
  have F532 := (((F531.ext E299).other W330 (Or.inr (slot_ne (Or.inl (hw _ (List.mem_of_getElem? (i := 82) rfl))) (Or.inl (hw _ (List.mem_of_getElem? (i := 50) rfl))) (by decide) (t := .int) (t' := (.array .int)) (by decide) (by decide)))).ext E331)
  have F533 := (((F532.other W363 (Or.inr (slot_ne (Or.inl (hw _ (List.mem_of_getElem? (i := 82) rfl))) (Or.inl (hw _ (List.mem_of_getElem? (i := 52) rfl))) (by decide) (t := .int) (t' := (.array .int)) (by decide) (by decide)))).ext E364).other W398 (Or.inr (slot_ne (Or.inl (hw _ (List.mem_of_getElem? (i := 82) rfl))) (Or.inl (hw _ (List.mem_of_getElem? (i := 54) rfl))) (by decide) (t := .int) (t' := (.array .int)) (by decide) (by decide))))
  have F534 := ((F533.ext E400).other W436 (Or.inr (slot_ne (Or.inl (hw _ (List.mem_of_getElem? (i := 82) rfl))) (Or.inl (hw _ (List.mem_of_getElem? (i := 56) rfl))) (by decide) (t := .int) (t' := (.array .int)) (by decide) (by decide))))
  have F535 := (((F_matchedCount.ext E2).other W6 (Or.inr (slot_ne (Or.inl (hw _ (List.mem_of_getElem? (i := 84) rfl))) (Or.inl (hw _ (List.mem_of_getElem? (i := 11) rfl))) (by decide) (t := .int) (t' := (.array .int)) (by decide) (by decide)))).ext E7)
  have F536 := (((F535.other W13 (Or.inr (slot_ne (Or.inl (hw _ (List.mem_of_getElem? (i := 84) rfl))) (Or.inl (hw _ (List.mem_of_getElem? (i := 13) rfl))) (by decide) (t := .int) (t' := (.array .int)) (by decide) (by decide)))).ext E15).other W23 (Or.inr (slot_ne (Or.inl (hw _ (List.mem_of_getElem? (i := 84) rfl))) (Or.inl (hw _ (List.mem_of_getElem? (i := 15) rfl))) (by decide) (t := .int) (t' := (.array .int)) (by decide) (by decide))))
  have F537 := (((F536.ext E24).other W34 (Or.inr (slot_ne (Or.inl (hw _ (List.mem_of_getElem? (i := 84) rfl))) (Or.inl (hw _ (List.mem_of_getElem? (i := 17) rfl))) (by decide) (t := .int) (t' := (.array .int)) (by decide) (by decide)))).ext E35)
  have F538 := (((F537.other W46 (Or.inr (slot_ne (Or.inl (hw _ (List.mem_of_getElem? (i := 84) rfl))) (Or.inl (hw _ (List.mem_of_getElem? (i := 19) rfl))) (by decide) (t := .int) (t' := (.array .int)) (by decide) (by decide)))).ext E48).other W61 (Or.inr (slot_ne (Or.inl (hw _ (List.mem_of_getElem? (i := 84) rfl))) (Or.inl (hw _ (List.mem_of_getElem? (i := 21) rfl))) (by decide) (t := .int) (t' := (.array .int)) (by decide) (by decide))))
  have F539 := (((F538.ext E62).other W77 (Or.inr (slot_ne (Or.inl (hw _ (List.mem_of_getElem? (i := 84) rfl))) (Or.inl (hw _ (List.mem_of_getElem? (i := 25) rfl))) (by decide) (t := .int) (t' := (.array (.array .int))) (by decide) (by decide)))).ext E78)
  have F540 := (((F539.other W94 (Or.inr (slot_ne (Or.inl (hw _ (List.mem_of_getElem? (i := 84) rfl))) (Or.inl (hw _ (List.mem_of_getElem? (i := 28) rfl))) (by decide) (t := .int) (t' := (.array .boolean)) (by decide) (by decide)))).ext E96).other W114 (Or.inr (slot_ne (Or.inl (hw _ (List.mem_of_getElem? (i := 84) rfl))) (Or.inl (hw _ (List.mem_of_getElem? (i := 30) rfl))) (by decide) (t := .int) (t' := (.array .int)) (by decide) (by decide))))
  have F541 := (((F540.ext E115).other W135 (Or.inr (slot_ne (Or.inl (hw _ (List.mem_of_getElem? (i := 84) rfl))) (Or.inr (hw _ (List.mem_of_getElem? (i := 32) rfl))) (by decide) (t := .int) (t' := (.array .int)) (by decide) (by decide)))).keep K137 (ninS ne_a0__b115 nin0))
  have F542 := (((F541.ext E142).other W163 (Or.inr (slot_ne (Or.inl (hw _ (List.mem_of_getElem? (i := 84) rfl))) (Or.inl (hw _ (List.mem_of_getElem? (i := 38) rfl))) (by decide) (t := .int) (t' := (.array .int)) (by decide) (by decide)))).ext E164)
  have F543 := (((F542.other W186 (Or.inr (slot_ne (Or.inl (hw _ (List.mem_of_getElem? (i := 84) rfl))) (Or.inl (hw _ (List.mem_of_getElem? (i := 40) rfl))) (by decide) (t := .int) (t' := (.array .int)) (by decide) (by decide)))).ext E187).other W211 (Or.inr (slot_ne (Or.inl (hw _ (List.mem_of_getElem? (i := 84) rfl))) (Or.inl (hw _ (List.mem_of_getElem? (i := 42) rfl))) (by decide) (t := .int) (t' := (.array .int)) (by decide) (by decide))))
  have F544 := (((F543.ext E213).other W239 (Or.inr (slot_ne (Or.inl (hw _ (List.mem_of_getElem? (i := 84) rfl))) (Or.inl (hw _ (List.mem_of_getElem? (i := 44) rfl))) (by decide) (t := .int) (t' := (.array .int)) (by decide) (by decide)))).ext E240)
  have F545 := (((F544.other W267 (Or.inr (slot_ne (Or.inl (hw _ (List.mem_of_getElem? (i := 84) rfl))) (Or.inl (hw _ (List.mem_of_getElem? (i := 46) rfl))) (by decide) (t := .int) (t' := (.array .int)) (by decide) (by decide)))).ext E268).other W297 (Or.inr (slot_ne (Or.inl (hw _ (List.mem_of_getElem? (i := 84) rfl))) (Or.inl (hw _ (List.mem_of_getElem? (i := 48) rfl))) (by decide) (t := .int) (t' := (.array .int)) (by decide) (by decide))))
  have F546 := (((F545.ext E299).other W330 (Or.inr (slot_ne (Or.inl (hw _ (List.mem_of_getElem? (i := 84) rfl))) (Or.inl (hw _ (List.mem_of_getElem? (i := 50) rfl))) (by decide) (t := .int) (t' := (.array .int)) (by decide) (by decide)))).ext E331)
  have F547 := (((F546.other W363 (Or.inr (slot_ne (Or.inl (hw _ (List.mem_of_getElem? (i := 84) rfl))) (Or.inl (hw _ (List.mem_of_getElem? (i := 52) rfl))) (by decide) (t := .int) (t' := (.array .int)) (by decide) (by decide)))).ext E364).other W398 (Or.inr (slot_ne (Or.inl (hw _ (List.mem_of_getElem? (i := 84) rfl))) (Or.inl (hw _ (List.mem_of_getElem? (i := 54) rfl))) (by decide) (t := .int) (t' := (.array .int)) (by decide) (by decide))))
  have F548 := ((F547.ext E400).other W436 (Or.inr (slot_ne (Or.inl (hw _ (List.mem_of_getElem? (i := 84) rfl))) (Or.inl (hw _ (List.mem_of_getElem? (i := 56) rfl))) (by decide) (t := .int) (t' := (.array .int)) (by decide) (by decide))))
  have F549 := (((F_watchCount.ext E2).other W6 (Or.inr (slot_ne (Or.inl (hw _ (List.mem_of_getElem? (i := 86) rfl))) (Or.inl (hw _ (List.mem_of_getElem? (i := 11) rfl))) (by decide) (t := .int) (t' := (.array .int)) (by decide) (by decide)))).ext E7)
  have F550 := (((F549.other W13 (Or.inr (slot_ne (Or.inl (hw _ (List.mem_of_getElem? (i := 86) rfl))) (Or.inl (hw _ (List.mem_of_getElem? (i := 13) rfl))) (by decide) (t := .int) (t' := (.array .int)) (by decide) (by decide)))).ext E15).other W23 (Or.inr (slot_ne (Or.inl (hw _ (List.mem_of_getElem? (i := 86) rfl))) (Or.inl (hw _ (List.mem_of_getElem? (i := 15) rfl))) (by decide) (t := .int) (t' := (.array .int)) (by decide) (by decide))))
  have F551 := (((F550.ext E24).other W34 (Or.inr (slot_ne (Or.inl (hw _ (List.mem_of_getElem? (i := 86) rfl))) (Or.inl (hw _ (List.mem_of_getElem? (i := 17) rfl))) (by decide) (t := .int) (t' := (.array .int)) (by decide) (by decide)))).ext E35)
  have F552 := (((F551.other W46 (Or.inr (slot_ne (Or.inl (hw _ (List.mem_of_getElem? (i := 86) rfl))) (Or.inl (hw _ (List.mem_of_getElem? (i := 19) rfl))) (by decide) (t := .int) (t' := (.array .int)) (by decide) (by decide)))).ext E48).other W61 (Or.inr (slot_ne (Or.inl (hw _ (List.mem_of_getElem? (i := 86) rfl))) (Or.inl (hw _ (List.mem_of_getElem? (i := 21) rfl))) (by decide) (t := .int) (t' := (.array .int)) (by decide) (by decide))))
  have F553 := (((F552.ext E62).other W77 (Or.inr (slot_ne (Or.inl (hw _ (List.mem_of_getElem? (i := 86) rfl))) (Or.inl (hw _ (List.mem_of_getElem? (i := 25) rfl))) (by decide) (t := .int) (t' := (.array (.array .int))) (by decide) (by decide)))).ext E78)
  have F554 := (((F553.other W94 (Or.inr (slot_ne (Or.inl (hw _ (List.mem_of_getElem? (i := 86) rfl))) (Or.inl (hw _ (List.mem_of_getElem? (i := 28) rfl))) (by decide) (t := .int) (t' := (.array .boolean)) (by decide) (by decide)))).ext E96).other W114 (Or.inr (slot_ne (Or.inl (hw _ (List.mem_of_getElem? (i := 86) rfl))) (Or.inl (hw _ (List.mem_of_getElem? (i := 30) rfl))) (by decide) (t := .int) (t' := (.array .int)) (by decide) (by decide))))
  have F555 := (((F554.ext E115).other W135 (Or.inr (slot_ne (Or.inl (hw _ (List.mem_of_getElem? (i := 86) rfl))) (Or.inr (hw _ (List.mem_of_getElem? (i := 32) rfl))) (by decide) (t := .int) (t' := (.array .int)) (by decide) (by decide)))).keep K137 (ninS ne_a0__b115 nin0))
  have F556 := (((F555.ext E142).other W163 (Or.inr (slot_ne (Or.inl (hw _ (List.mem_of_getElem? (i := 86) rfl))) (Or.inl (hw _ (List.mem_of_getElem? (i := 38) rfl))) (by decide) (t := .int) (t' := (.array .int)) (by decide) (by decide)))).ext E164)
  have F557 := (((F556.other W186 (Or.inr (slot_ne (Or.inl (hw _ (List.mem_of_getElem? (i := 86) rfl))) (Or.inl (hw _ (List.mem_of_getElem? (i := 40) rfl))) (by decide) (t := .int) (t' := (.array .int)) (by decide) (by decide)))).ext E187).other W211 (Or.inr (slot_ne (Or.inl (hw _ (List.mem_of_getElem? (i := 86) rfl))) (Or.inl (hw _ (List.mem_of_getElem? (i := 42) rfl))) (by decide) (t := .int) (t' := (.array .int)) (by decide) (by decide))))
  have F558 := (((F557.ext E213).other W239 (Or.inr (slot_ne (Or.inl (hw _ (List.mem_of_getElem? (i := 86) rfl))) (Or.inl (hw _ (List.mem_of_getElem? (i := 44) rfl))) (by decide) (t := .int) (t' := (.array .int)) (by decide) (by decide)))).ext E240)
  have F559 := (((F558.other W267 (Or.inr (slot_ne (Or.inl (hw _ (List.mem_of_getElem? (i := 86) rfl))) (Or.inl (hw _ (List.mem_of_getElem? (i := 46) rfl))) (by decide) (t := .int) (t' := (.array .int)) (by decide) (by decide)))).ext E268).other W297 (Or.inr (slot_ne (Or.inl (hw _ (List.mem_of_getElem? (i := 86) rfl))) (Or.inl (hw _ (List.mem_of_getElem? (i := 48) rfl))) (by decide) (t := .int) (t' := (.array .int)) (by decide) (by decide))))
  have F560 := (((F559.ext E299).other W330 (Or.inr (slot_ne (Or.inl (hw _ (List.mem_of_getElem? (i := 86) rfl))) (Or.inl (hw _ (List.mem_of_getElem? (i := 50) rfl))) (by decide) (t := .int) (t' := (.array .int)) (by decide) (by decide)))).ext E331)
  have F561 := (((F560.other W363 (Or.inr (slot_ne (Or.inl (hw _ (List.mem_of_getElem? (i := 86) rfl))) (Or.inl (hw _ (List.mem_of_getElem? (i := 52) rfl))) (by decide) (t := .int) (t' := (.array .int)) (by decide) (by decide)))).ext E364).other W398 (Or.inr (slot_ne (Or.inl (hw _ (List.mem_of_getElem? (i := 86) rfl))) (Or.inl (hw _ (List.mem_of_getElem? (i := 54) rfl))) (by decide) (t := .int) (t' := (.array .int)) (by decide) (by decide))))
  have F562 := ((F561.ext E400).other W436 (Or.inr (slot_ne (Or.inl (hw _ (List.mem_of_getElem? (i := 86) rfl))) (Or.inl (hw _ (List.mem_of_getElem? (i := 56) rfl))) (by decide) (t := .int) (t' := (.array .int)) (by decide) (by decide))))
  have F563 := (((F_trailLooked.ext E2).other W6 (Or.inr (slot_ne (Or.inl (hw _ (List.mem_of_getElem? (i := 63) rfl))) (Or.inl (hw _ (List.mem_of_getElem? (i := 11) rfl))) (by decide) (t := .int) (t' := (.array .int)) (by decide) (by decide)))).ext E7)
  have F564 := (((F563.other W13 (Or.inr (slot_ne (Or.inl (hw _ (List.mem_of_getElem? (i := 63) rfl))) (Or.inl (hw _ (List.mem_of_getElem? (i := 13) rfl))) (by decide) (t := .int) (t' := (.array .int)) (by decide) (by decide)))).ext E15).other W23 (Or.inr (slot_ne (Or.inl (hw _ (List.mem_of_getElem? (i := 63) rfl))) (Or.inl (hw _ (List.mem_of_getElem? (i := 15) rfl))) (by decide) (t := .int) (t' := (.array .int)) (by decide) (by decide))))
  have F565 := (((F564.ext E24).other W34 (Or.inr (slot_ne (Or.inl (hw _ (List.mem_of_getElem? (i := 63) rfl))) (Or.inl (hw _ (List.mem_of_getElem? (i := 17) rfl))) (by decide) (t := .int) (t' := (.array .int)) (by decide) (by decide)))).ext E35)
  have F566 := (((F565.other W46 (Or.inr (slot_ne (Or.inl (hw _ (List.mem_of_getElem? (i := 63) rfl))) (Or.inl (hw _ (List.mem_of_getElem? (i := 19) rfl))) (by decide) (t := .int) (t' := (.array .int)) (by decide) (by decide)))).ext E48).other W61 (Or.inr (slot_ne (Or.inl (hw _ (List.mem_of_getElem? (i := 63) rfl))) (Or.inl (hw _ (List.mem_of_getElem? (i := 21) rfl))) (by decide) (t := .int) (t' := (.array .int)) (by decide) (by decide))))
  have F567 := (((F566.ext E62).other W77 (Or.inr (slot_ne (Or.inl (hw _ (List.mem_of_getElem? (i := 63) rfl))) (Or.inl (hw _ (List.mem_of_getElem? (i := 25) rfl))) (by decide) (t := .int) (t' := (.array (.array .int))) (by decide) (by decide)))).ext E78)
  have F568 := (((F567.other W94 (Or.inr (slot_ne (Or.inl (hw _ (List.mem_of_getElem? (i := 63) rfl))) (Or.inl (hw _ (List.mem_of_getElem? (i := 28) rfl))) (by decide) (t := .int) (t' := (.array .boolean)) (by decide) (by decide)))).ext E96).other W114 (Or.inr (slot_ne (Or.inl (hw _ (List.mem_of_getElem? (i := 63) rfl))) (Or.inl (hw _ (List.mem_of_getElem? (i := 30) rfl))) (by decide) (t := .int) (t' := (.array .int)) (by decide) (by decide))))
  have F569 := (((F568.ext E115).other W135 (Or.inr (slot_ne (Or.inl (hw _ (List.mem_of_getElem? (i := 63) rfl))) (Or.inr (hw _ (List.mem_of_getElem? (i := 32) rfl))) (by decide) (t := .int) (t' := (.array .int)) (by decide) (by decide)))).keep K137 (ninS ne_a0__b115 nin0))
  have F570 := (((F569.ext E142).other W163 (Or.inr (slot_ne (Or.inl (hw _ (List.mem_of_getElem? (i := 63) rfl))) (Or.inl (hw _ (List.mem_of_getElem? (i := 38) rfl))) (by decide) (t := .int) (t' := (.array .int)) (by decide) (by decide)))).ext E164)
  have F571 := (((F570.other W186 (Or.inr (slot_ne (Or.inl (hw _ (List.mem_of_getElem? (i := 63) rfl))) (Or.inl (hw _ (List.mem_of_getElem? (i := 40) rfl))) (by decide) (t := .int) (t' := (.array .int)) (by decide) (by decide)))).ext E187).other W211 (Or.inr (slot_ne (Or.inl (hw _ (List.mem_of_getElem? (i := 63) rfl))) (Or.inl (hw _ (List.mem_of_getElem? (i := 42) rfl))) (by decide) (t := .int) (t' := (.array .int)) (by decide) (by decide))))
  have F572 := (((F571.ext E213).other W239 (Or.inr (slot_ne (Or.inl (hw _ (List.mem_of_getElem? (i := 63) rfl))) (Or.inl (hw _ (List.mem_of_getElem? (i := 44) rfl))) (by decide) (t := .int) (t' := (.array .int)) (by decide) (by decide)))).ext E240)
  have F573 := (((F572.other W267 (Or.inr (slot_ne (Or.inl (hw _ (List.mem_of_getElem? (i := 63) rfl))) (Or.inl (hw _ (List.mem_of_getElem? (i := 46) rfl))) (by decide) (t := .int) (t' := (.array .int)) (by decide) (by decide)))).ext E268).other W297 (Or.inr (slot_ne (Or.inl (hw _ (List.mem_of_getElem? (i := 63) rfl))) (Or.inl (hw _ (List.mem_of_getElem? (i := 48) rfl))) (by decide) (t := .int) (t' := (.array .int)) (by decide) (by decide))))
  have F574 := (((F573.ext E299).other W330 (Or.inr (slot_ne (Or.inl (hw _ (List.mem_of_getElem? (i := 63) rfl))) (Or.inl (hw _ (List.mem_of_getElem? (i := 50) rfl))) (by decide) (t := .int) (t' := (.array .int)) (by decide) (by decide)))).ext E331)
  have F575 := (((F574.other W363 (Or.inr (slot_ne (Or.inl (hw _ (List.mem_of_getElem? (i := 63) rfl))) (Or.inl (hw _ (List.mem_of_getElem? (i := 52) rfl))) (by decide) (t := .int) (t' := (.array .int)) (by decide) (by decide)))).ext E364).other W398 (Or.inr (slot_ne (Or.inl (hw _ (List.mem_of_getElem? (i := 63) rfl))) (Or.inl (hw _ (List.mem_of_getElem? (i := 54) rfl))) (by decide) (t := .int) (t' := (.array .int)) (by decide) (by decide))))
  have F576 := ((F575.ext E400).other W436 (Or.inr (slot_ne (Or.inl (hw _ (List.mem_of_getElem? (i := 63) rfl))) (Or.inl (hw _ (List.mem_of_getElem? (i := 56) rfl))) (by decide) (t := .int) (t' := (.array .int)) (by decide) (by decide))))
  have F577 := (((Fw6.ext E7).other W13 (Or.inr (slot_ne (Or.inl (hw _ (List.mem_of_getElem? (i := 11) rfl))) (Or.inl (hw _ (List.mem_of_getElem? (i := 13) rfl))) (by decide) (t := (.array .int)) (t' := (.array .int)) (by decide) (by decide)))).ext E15)
  have F578 := (((F577.other W23 (Or.inr (slot_ne (Or.inl (hw _ (List.mem_of_getElem? (i := 11) rfl))) (Or.inl (hw _ (List.mem_of_getElem? (i := 15) rfl))) (by decide) (t := (.array .int)) (t' := (.array .int)) (by decide) (by decide)))).ext E24).other W34 (Or.inr (slot_ne (Or.inl (hw _ (List.mem_of_getElem? (i := 11) rfl))) (Or.inl (hw _ (List.mem_of_getElem? (i := 17) rfl))) (by decide) (t := (.array .int)) (t' := (.array .int)) (by decide) (by decide))))
  have F579 := (((F578.ext E35).other W46 (Or.inr (slot_ne (Or.inl (hw _ (List.mem_of_getElem? (i := 11) rfl))) (Or.inl (hw _ (List.mem_of_getElem? (i := 19) rfl))) (by decide) (t := (.array .int)) (t' := (.array .int)) (by decide) (by decide)))).ext E48)
  have F580 := (((F579.other W61 (Or.inr (slot_ne (Or.inl (hw _ (List.mem_of_getElem? (i := 11) rfl))) (Or.inl (hw _ (List.mem_of_getElem? (i := 21) rfl))) (by decide) (t := (.array .int)) (t' := (.array .int)) (by decide) (by decide)))).ext E62).other W77 (Or.inr (slot_ne (Or.inl (hw _ (List.mem_of_getElem? (i := 11) rfl))) (Or.inl (hw _ (List.mem_of_getElem? (i := 25) rfl))) (by decide) (t := (.array .int)) (t' := (.array (.array .int))) (by decide) (by decide))))
  have F581 := (((F580.ext E78).other W94 (Or.inr (slot_ne (Or.inl (hw _ (List.mem_of_getElem? (i := 11) rfl))) (Or.inl (hw _ (List.mem_of_getElem? (i := 28) rfl))) (by decide) (t := (.array .int)) (t' := (.array .boolean)) (by decide) (by decide)))).ext E96)
  have F582 := (((F581.other W114 (Or.inr (slot_ne (Or.inl (hw _ (List.mem_of_getElem? (i := 11) rfl))) (Or.inl (hw _ (List.mem_of_getElem? (i := 30) rfl))) (by decide) (t := (.array .int)) (t' := (.array .int)) (by decide) (by decide)))).ext E115).other W135 (Or.inr (slot_ne (Or.inl (hw _ (List.mem_of_getElem? (i := 11) rfl))) (Or.inr (hw _ (List.mem_of_getElem? (i := 32) rfl))) (by decide) (t := (.array .int)) (t' := (.array .int)) (by decide) (by decide))))
  have F583 := (((F582.keep K137 (ninS ne_a0__b115 nin0)).ext E142).other W163 (Or.inr (slot_ne (Or.inl (hw _ (List.mem_of_getElem? (i := 11) rfl))) (Or.inl (hw _ (List.mem_of_getElem? (i := 38) rfl))) (by decide) (t := (.array .int)) (t' := (.array .int)) (by decide) (by decide))))
  have F584 := (((F583.ext E164).other W186 (Or.inr (slot_ne (Or.inl (hw _ (List.mem_of_getElem? (i := 11) rfl))) (Or.inl (hw _ (List.mem_of_getElem? (i := 40) rfl))) (by decide) (t := (.array .int)) (t' := (.array .int)) (by decide) (by decide)))).ext E187)
  have F585 := (((F584.other W211 (Or.inr (slot_ne (Or.inl (hw _ (List.mem_of_getElem? (i := 11) rfl))) (Or.inl (hw _ (List.mem_of_getElem? (i := 42) rfl))) (by decide) (t := (.array .int)) (t' := (.array .int)) (by decide) (by decide)))).ext E213).other W239 (Or.inr (slot_ne (Or.inl (hw _ (List.mem_of_getElem? (i := 11) rfl))) (Or.inl (hw _ (List.mem_of_getElem? (i := 44) rfl))) (by decide) (t := (.array .int)) (t' := (.array .int)) (by decide) (by decide))))
  have F586 := (((F585.ext E240).other W267 (Or.inr (slot_ne (Or.inl (hw _ (List.mem_of_getElem? (i := 11) rfl))) (Or.inl (hw _ (List.mem_of_getElem? (i := 46) rfl))) (by decide) (t := (.array .int)) (t' := (.array .int)) (by decide) (by decide)))).ext E268)
  have F587 := (((F586.other W297 (Or.inr (slot_ne (Or.inl (hw _ (List.mem_of_getElem? (i := 11) rfl))) (Or.inl (hw _ (List.mem_of_getElem? (i := 48) rfl))) (by decide) (t := (.array .int)) (t' := (.array .int)) (by decide) (by decide)))).ext E299).other W330 (Or.inr (slot_ne (Or.inl (hw _ (List.mem_of_getElem? (i := 11) rfl))) (Or.inl (hw _ (List.mem_of_getElem? (i := 50) rfl))) (by decide) (t := (.array .int)) (t' := (.array .int)) (by decide) (by decide))))
  have F588 := (((F587.ext E331).other W363 (Or.inr (slot_ne (Or.inl (hw _ (List.mem_of_getElem? (i := 11) rfl))) (Or.inl (hw _ (List.mem_of_getElem? (i := 52) rfl))) (by decide) (t := (.array .int)) (t' := (.array .int)) (by decide) (by decide)))).ext E364)
  have F589 := (((F588.other W398 (Or.inr (slot_ne (Or.inl (hw _ (List.mem_of_getElem? (i := 11) rfl))) (Or.inl (hw _ (List.mem_of_getElem? (i := 54) rfl))) (by decide) (t := (.array .int)) (t' := (.array .int)) (by decide) (by decide)))).ext E400).other W436 (Or.inr (slot_ne (Or.inl (hw _ (List.mem_of_getElem? (i := 11) rfl))) (Or.inl (hw _ (List.mem_of_getElem? (i := 56) rfl))) (by decide) (t := (.array .int)) (t' := (.array .int)) (by decide) (by decide))))
  have F590 := (((Fw46.ext E48).other W61 (Or.inr (slot_ne (Or.inl (hw _ (List.mem_of_getElem? (i := 19) rfl))) (Or.inl (hw _ (List.mem_of_getElem? (i := 21) rfl))) (by decide) (t := (.array .int)) (t' := (.array .int)) (by decide) (by decide)))).ext E62)
  have F591 := (((F590.other W77 (Or.inr (slot_ne (Or.inl (hw _ (List.mem_of_getElem? (i := 19) rfl))) (Or.inl (hw _ (List.mem_of_getElem? (i := 25) rfl))) (by decide) (t := (.array .int)) (t' := (.array (.array .int))) (by decide) (by decide)))).ext E78).other W94 (Or.inr (slot_ne (Or.inl (hw _ (List.mem_of_getElem? (i := 19) rfl))) (Or.inl (hw _ (List.mem_of_getElem? (i := 28) rfl))) (by decide) (t := (.array .int)) (t' := (.array .boolean)) (by decide) (by decide))))
  have F592 := (((F591.ext E96).other W114 (Or.inr (slot_ne (Or.inl (hw _ (List.mem_of_getElem? (i := 19) rfl))) (Or.inl (hw _ (List.mem_of_getElem? (i := 30) rfl))) (by decide) (t := (.array .int)) (t' := (.array .int)) (by decide) (by decide)))).ext E115)
  have F593 := (((F592.other W135 (Or.inr (slot_ne (Or.inl (hw _ (List.mem_of_getElem? (i := 19) rfl))) (Or.inr (hw _ (List.mem_of_getElem? (i := 32) rfl))) (by decide) (t := (.array .int)) (t' := (.array .int)) (by decide) (by decide)))).keep K137 (ninS ne_a0__b115 nin0)).ext E142)
  have F594 := (((F593.other W163 (Or.inr (slot_ne (Or.inl (hw _ (List.mem_of_getElem? (i := 19) rfl))) (Or.inl (hw _ (List.mem_of_getElem? (i := 38) rfl))) (by decide) (t := (.array .int)) (t' := (.array .int)) (by decide) (by decide)))).ext E164).other W186 (Or.inr (slot_ne (Or.inl (hw _ (List.mem_of_getElem? (i := 19) rfl))) (Or.inl (hw _ (List.mem_of_getElem? (i := 40) rfl))) (by decide) (t := (.array .int)) (t' := (.array .int)) (by decide) (by decide))))
  have F595 := (((F594.ext E187).other W211 (Or.inr (slot_ne (Or.inl (hw _ (List.mem_of_getElem? (i := 19) rfl))) (Or.inl (hw _ (List.mem_of_getElem? (i := 42) rfl))) (by decide) (t := (.array .int)) (t' := (.array .int)) (by decide) (by decide)))).ext E213)
  have F596 := (((F595.other W239 (Or.inr (slot_ne (Or.inl (hw _ (List.mem_of_getElem? (i := 19) rfl))) (Or.inl (hw _ (List.mem_of_getElem? (i := 44) rfl))) (by decide) (t := (.array .int)) (t' := (.array .int)) (by decide) (by decide)))).ext E240).other W267 (Or.inr (slot_ne (Or.inl (hw _ (List.mem_of_getElem? (i := 19) rfl))) (Or.inl (hw _ (List.mem_of_getElem? (i := 46) rfl))) (by decide) (t := (.array .int)) (t' := (.array .int)) (by decide) (by decide))))
  have F597 := (((F596.ext E268).other W297 (Or.inr (slot_ne (Or.inl (hw _ (List.mem_of_getElem? (i := 19) rfl))) (Or.inl (hw _ (List.mem_of_getElem? (i := 48) rfl))) (by decide) (t := (.array .int)) (t' := (.array .int)) (by decide) (by decide)))).ext E299)
  have F598 := (((F597.other W330 (Or.inr (slot_ne (Or.inl (hw _ (List.mem_of_getElem? (i := 19) rfl))) (Or.inl (hw _ (List.mem_of_getElem? (i := 50) rfl))) (by decide) (t := (.array .int)) (t' := (.array .int)) (by decide) (by decide)))).ext E331).other W363 (Or.inr (slot_ne (Or.inl (hw _ (List.mem_of_getElem? (i := 19) rfl))) (Or.inl (hw _ (List.mem_of_getElem? (i := 52) rfl))) (by decide) (t := (.array .int)) (t' := (.array .int)) (by decide) (by decide))))
  have F599 := (((F598.ext E364).other W398 (Or.inr (slot_ne (Or.inl (hw _ (List.mem_of_getElem? (i := 19) rfl))) (Or.inl (hw _ (List.mem_of_getElem? (i := 54) rfl))) (by decide) (t := (.array .int)) (t' := (.array .int)) (by decide) (by decide)))).ext E400)
  have F600 := (F599.other W436 (Or.inr (slot_ne (Or.inl (hw _ (List.mem_of_getElem? (i := 19) rfl))) (Or.inl (hw _ (List.mem_of_getElem? (i := 56) rfl))) (by decide) (t := (.array .int)) (t' := (.array .int)) (by decide) (by decide))))
  have F601 := (((Fw61.ext E62).other W77 (Or.inr (slot_ne (Or.inl (hw _ (List.mem_of_getElem? (i := 21) rfl))) (Or.inl (hw _ (List.mem_of_getElem? (i := 25) rfl))) (by decide) (t := (.array .int)) (t' := (.array (.array .int))) (by decide) (by decide)))).ext E78)
  have F602 := (((F601.other W94 (Or.inr (slot_ne (Or.inl (hw _ (List.mem_of_getElem? (i := 21) rfl))) (Or.inl (hw _ (List.mem_of_getElem? (i := 28) rfl))) (by decide) (t := (.array .int)) (t' := (.array .boolean)) (by decide) (by decide)))).ext E96).other W114 (Or.inr (slot_ne (Or.inl (hw _ (List.mem_of_getElem? (i := 21) rfl))) (Or.inl (hw _ (List.mem_of_getElem? (i := 30) rfl))) (by decide) (t := (.array .int)) (t' := (.array .int)) (by decide) (by decide))))
  have F603 := (((F602.ext E115).other W135 (Or.inr (slot_ne (Or.inl (hw _ (List.mem_of_getElem? (i := 21) rfl))) (Or.inr (hw _ (List.mem_of_getElem? (i := 32) rfl))) (by decide) (t := (.array .int)) (t' := (.array .int)) (by decide) (by decide)))).keep K137 (ninS ne_a0__b115 nin0))
  have F604 := (((F603.ext E142).other W163 (Or.inr (slot_ne (Or.inl (hw _ (List.mem_of_getElem? (i := 21) rfl))) (Or.inl (hw _ (List.mem_of_getElem? (i := 38) rfl))) (by decide) (t := (.array .int)) (t' := (.array .int)) (by decide) (by decide)))).ext E164)
  have F605 := (((F604.other W186 (Or.inr (slot_ne (Or.inl (hw _ (List.mem_of_getElem? (i := 21) rfl))) (Or.inl (hw _ (List.mem_of_getElem? (i := 40) rfl))) (by decide) (t := (.array .int)) (t' := (.array .int)) (by decide) (by decide)))).ext E187).other W211 (Or.inr (slot_ne (Or.inl (hw _ (List.mem_of_getElem? (i := 21) rfl))) (Or.inl (hw _ (List.mem_of_getElem? (i := 42) rfl))) (by decide) (t := (.array .int)) (t' := (.array .int)) (by decide) (by decide))))
  have F606 := (((F605.ext E213).other W239 (Or.inr (slot_ne (Or.inl (hw _ (List.mem_of_getElem? (i := 21) rfl))) (Or.inl (hw _ (List.mem_of_getElem? (i := 44) rfl))) (by decide) (t := (.array .int)) (t' := (.array .int)) (by decide) (by decide)))).ext E240)
  have F607 := (((F606.other W267 (Or.inr (slot_ne (Or.inl (hw _ (List.mem_of_getElem? (i := 21) rfl))) (Or.inl (hw _ (List.mem_of_getElem? (i := 46) rfl))) (by decide) (t := (.array .int)) (t' := (.array .int)) (by decide) (by decide)))).ext E268).other W297 (Or.inr (slot_ne (Or.inl (hw _ (List.mem_of_getElem? (i := 21) rfl))) (Or.inl (hw _ (List.mem_of_getElem? (i := 48) rfl))) (by decide) (t := (.array .int)) (t' := (.array .int)) (by decide) (by decide))))
  have F608 := (((F607.ext E299).other W330 (Or.inr (slot_ne (Or.inl (hw _ (List.mem_of_getElem? (i := 21) rfl))) (Or.inl (hw _ (List.mem_of_getElem? (i := 50) rfl))) (by decide) (t := (.array .int)) (t' := (.array .int)) (by decide) (by decide)))).ext E331)
  have F609 := (((F608.other W363 (Or.inr (slot_ne (Or.inl (hw _ (List.mem_of_getElem? (i := 21) rfl))) (Or.inl (hw _ (List.mem_of_getElem? (i := 52) rfl))) (by decide) (t := (.array .int)) (t' := (.array .int)) (by decide) (by decide)))).ext E364).other W398 (Or.inr (slot_ne (Or.inl (hw _ (List.mem_of_getElem? (i := 21) rfl))) (Or.inl (hw _ (List.mem_of_getElem? (i := 54) rfl))) (by decide) (t := (.array .int)) (t' := (.array .int)) (by decide) (by decide))))
  have F610 := ((F609.ext E400).other W436 (Or.inr (slot_ne (Or.inl (hw _ (List.mem_of_getElem? (i := 21) rfl))) (Or.inl (hw _ (List.mem_of_getElem? (i := 56) rfl))) (by decide) (t := (.array .int)) (t' := (.array .int)) (by decide) (by decide))))
  have F611 := (((Fw114.ext E115).other W135 (Or.inr (slot_ne (Or.inl (hw _ (List.mem_of_getElem? (i := 30) rfl))) (Or.inr (hw _ (List.mem_of_getElem? (i := 32) rfl))) (by decide) (t := (.array .int)) (t' := (.array .int)) (by decide) (by decide)))).keep K137 (ninS ne_a0__b115 nin0))
  have F612 := (((F611.ext E142).other W163 (Or.inr (slot_ne (Or.inl (hw _ (List.mem_of_getElem? (i := 30) rfl))) (Or.inl (hw _ (List.mem_of_getElem? (i := 38) rfl))) (by decide) (t := (.array .int)) (t' := (.array .int)) (by decide) (by decide)))).ext E164)
  have F613 := (((F612.other W186 (Or.inr (slot_ne (Or.inl (hw _ (List.mem_of_getElem? (i := 30) rfl))) (Or.inl (hw _ (List.mem_of_getElem? (i := 40) rfl))) (by decide) (t := (.array .int)) (t' := (.array .int)) (by decide) (by decide)))).ext E187).other W211 (Or.inr (slot_ne (Or.inl (hw _ (List.mem_of_getElem? (i := 30) rfl))) (Or.inl (hw _ (List.mem_of_getElem? (i := 42) rfl))) (by decide) (t := (.array .int)) (t' := (.array .int)) (by decide) (by decide))))
  have F614 := (((F613.ext E213).other W239 (Or.inr (slot_ne (Or.inl (hw _ (List.mem_of_getElem? (i := 30) rfl))) (Or.inl (hw _ (List.mem_of_getElem? (i := 44) rfl))) (by decide) (t := (.array .int)) (t' := (.array .int)) (by decide) (by decide)))).ext E240)
  have F615 := (((F614.other W267 (Or.inr (slot_ne (Or.inl (hw _ (List.mem_of_getElem? (i := 30) rfl))) (Or.inl (hw _ (List.mem_of_getElem? (i := 46) rfl))) (by decide) (t := (.array .int)) (t' := (.array .int)) (by decide) (by decide)))).ext E268).other W297 (Or.inr (slot_ne (Or.inl (hw _ (List.mem_of_getElem? (i := 30) rfl))) (Or.inl (hw _ (List.mem_of_getElem? (i := 48) rfl))) (by decide) (t := (.array .int)) (t' := (.array .int)) (by decide) (by decide))))
  have F616 := (((F615.ext E299).other W330 (Or.inr (slot_ne (Or.inl (hw _ (List.mem_of_getElem? (i := 30) rfl))) (Or.inl (hw _ (List.mem_of_getElem? (i := 50) rfl))) (by decide) (t := (.array .int)) (t' := (.array .int)) (by decide) (by decide)))).ext E331)
  have F617 := (((F616.other W363 (Or.inr (slot_ne (Or.inl (hw _ (List.mem_of_getElem? (i := 30) rfl))) (Or.inl (hw _ (List.mem_of_getElem? (i := 52) rfl))) (by decide) (t := (.array .int)) (t' := (.array .int)) (by decide) (by decide)))).ext E364).other W398 (Or.inr (slot_ne (Or.inl (hw _ (List.mem_of_getElem? (i := 30) rfl))) (Or.inl (hw _ (List.mem_of_getElem? (i := 54) rfl))) (by decide) (t := (.array .int)) (t' := (.array .int)) (by decide) (by decide))))
  have F618 := ((F617.ext E400).other W436 (Or.inr (slot_ne (Or.inl (hw _ (List.mem_of_getElem? (i := 30) rfl))) (Or.inl (hw _ (List.mem_of_getElem? (i := 56) rfl))) (by decide) (t := (.array .int)) (t' := (.array .int)) (by decide) (by decide))))
  have F619 := (((Fw163.ext E164).other W186 (Or.inr (slot_ne (Or.inl (hw _ (List.mem_of_getElem? (i := 38) rfl))) (Or.inl (hw _ (List.mem_of_getElem? (i := 40) rfl))) (by decide) (t := (.array .int)) (t' := (.array .int)) (by decide) (by decide)))).ext E187)
  have F620 := (((F619.other W211 (Or.inr (slot_ne (Or.inl (hw _ (List.mem_of_getElem? (i := 38) rfl))) (Or.inl (hw _ (List.mem_of_getElem? (i := 42) rfl))) (by decide) (t := (.array .int)) (t' := (.array .int)) (by decide) (by decide)))).ext E213).other W239 (Or.inr (slot_ne (Or.inl (hw _ (List.mem_of_getElem? (i := 38) rfl))) (Or.inl (hw _ (List.mem_of_getElem? (i := 44) rfl))) (by decide) (t := (.array .int)) (t' := (.array .int)) (by decide) (by decide))))
  have F621 := (((F620.ext E240).other W267 (Or.inr (slot_ne (Or.inl (hw _ (List.mem_of_getElem? (i := 38) rfl))) (Or.inl (hw _ (List.mem_of_getElem? (i := 46) rfl))) (by decide) (t := (.array .int)) (t' := (.array .int)) (by decide) (by decide)))).ext E268)
  have F622 := (((F621.other W297 (Or.inr (slot_ne (Or.inl (hw _ (List.mem_of_getElem? (i := 38) rfl))) (Or.inl (hw _ (List.mem_of_getElem? (i := 48) rfl))) (by decide) (t := (.array .int)) (t' := (.array .int)) (by decide) (by decide)))).ext E299).other W330 (Or.inr (slot_ne (Or.inl (hw _ (List.mem_of_getElem? (i := 38) rfl))) (Or.inl (hw _ (List.mem_of_getElem? (i := 50) rfl))) (by decide) (t := (.array .int)) (t' := (.array .int)) (by decide) (by decide))))
  have F623 := (((F622.ext E331).other W363 (Or.inr (slot_ne (Or.inl (hw _ (List.mem_of_getElem? (i := 38) rfl))) (Or.inl (hw _ (List.mem_of_getElem? (i := 52) rfl))) (by decide) (t := (.array .int)) (t' := (.array .int)) (by decide) (by decide)))).ext E364)
  have F624 := (((F623.other W398 (Or.inr (slot_ne (Or.inl (hw _ (List.mem_of_getElem? (i := 38) rfl))) (Or.inl (hw _ (List.mem_of_getElem? (i := 54) rfl))) (by decide) (t := (.array .int)) (t' := (.array .int)) (by decide) (by decide)))).ext E400).other W436 (Or.inr (slot_ne (Or.inl (hw _ (List.mem_of_getElem? (i := 38) rfl))) (Or.inl (hw _ (List.mem_of_getElem? (i := 56) rfl))) (by decide) (t := (.array .int)) (t' := (.array .int)) (by decide) (by decide))))
  have F625 := (((Fw186.ext E187).other W211 (Or.inr (slot_ne (Or.inl (hw _ (List.mem_of_getElem? (i := 40) rfl))) (Or.inl (hw _ (List.mem_of_getElem? (i := 42) rfl))) (by decide) (t := (.array .int)) (t' := (.array .int)) (by decide) (by decide)))).ext E213)
  have F626 := (((F625.other W239 (Or.inr (slot_ne (Or.inl (hw _ (List.mem_of_getElem? (i := 40) rfl))) (Or.inl (hw _ (List.mem_of_getElem? (i := 44) rfl))) (by decide) (t := (.array .int)) (t' := (.array .int)) (by decide) (by decide)))).ext E240).other W267 (Or.inr (slot_ne (Or.inl (hw _ (List.mem_of_getElem? (i := 40) rfl))) (Or.inl (hw _ (List.mem_of_getElem? (i := 46) rfl))) (by decide) (t := (.array .int)) (t' := (.array .int)) (by decide) (by decide))))
  have F627 := (((F626.ext E268).other W297 (Or.inr (slot_ne (Or.inl (hw _ (List.mem_of_getElem? (i := 40) rfl))) (Or.inl (hw _ (List.mem_of_getElem? (i := 48) rfl))) (by decide) (t := (.array .int)) (t' := (.array .int)) (by decide) (by decide)))).ext E299)
  have F628 := (((F627.other W330 (Or.inr (slot_ne (Or.inl (hw _ (List.mem_of_getElem? (i := 40) rfl))) (Or.inl (hw _ (List.mem_of_getElem? (i := 50) rfl))) (by decide) (t := (.array .int)) (t' := (.array .int)) (by decide) (by decide)))).ext E331).other W363 (Or.inr (slot_ne (Or.inl (hw _ (List.mem_of_getElem? (i := 40) rfl))) (Or.inl (hw _ (List.mem_of_getElem? (i := 52) rfl))) (by decide) (t := (.array .int)) (t' := (.array .int)) (by decide) (by decide))))
  have F629 := (((F628.ext E364).other W398 (Or.inr (slot_ne (Or.inl (hw _ (List.mem_of_getElem? (i := 40) rfl))) (Or.inl (hw _ (List.mem_of_getElem? (i := 54) rfl))) (by decide) (t := (.array .int)) (t' := (.array .int)) (by decide) (by decide)))).ext E400)
  have F630 := (F629.other W436 (Or.inr (slot_ne (Or.inl (hw _ (List.mem_of_getElem? (i := 40) rfl))) (Or.inl (hw _ (List.mem_of_getElem? (i := 56) rfl))) (by decide) (t := (.array .int)) (t' := (.array .int)) (by decide) (by decide))))
  have F631 := (((Fw211.ext E213).other W239 (Or.inr (slot_ne (Or.inl (hw _ (List.mem_of_getElem? (i := 42) rfl))) (Or.inl (hw _ (List.mem_of_getElem? (i := 44) rfl))) (by decide) (t := (.array .int)) (t' := (.array .int)) (by decide) (by decide)))).ext E240)
  have F632 := (((F631.other W267 (Or.inr (slot_ne (Or.inl (hw _ (List.mem_of_getElem? (i := 42) rfl))) (Or.inl (hw _ (List.mem_of_getElem? (i := 46) rfl))) (by decide) (t := (.array .int)) (t' := (.array .int)) (by decide) (by decide)))).ext E268).other W297 (Or.inr (slot_ne (Or.inl (hw _ (List.mem_of_getElem? (i := 42) rfl))) (Or.inl (hw _ (List.mem_of_getElem? (i := 48) rfl))) (by decide) (t := (.array .int)) (t' := (.array .int)) (by decide) (by decide))))
  have F633 := (((F632.ext E299).other W330 (Or.inr (slot_ne (Or.inl (hw _ (List.mem_of_getElem? (i := 42) rfl))) (Or.inl (hw _ (List.mem_of_getElem? (i := 50) rfl))) (by decide) (t := (.array .int)) (t' := (.array .int)) (by decide) (by decide)))).ext E331)
  have F634 := (((F633.other W363 (Or.inr (slot_ne (Or.inl (hw _ (List.mem_of_getElem? (i := 42) rfl))) (Or.inl (hw _ (List.mem_of_getElem? (i := 52) rfl))) (by decide) (t := (.array .int)) (t' := (.array .int)) (by decide) (by decide)))).ext E364).other W398 (Or.inr (slot_ne (Or.inl (hw _ (List.mem_of_getElem? (i := 42) rfl))) (Or.inl (hw _ (List.mem_of_getElem? (i := 54) rfl))) (by decide) (t := (.array .int)) (t' := (.array .int)) (by decide) (by decide))))
  have F635 := ((F634.ext E400).other W436 (Or.inr (slot_ne (Or.inl (hw _ (List.mem_of_getElem? (i := 42) rfl))) (Or.inl (hw _ (List.mem_of_getElem? (i := 56) rfl))) (by decide) (t := (.array .int)) (t' := (.array .int)) (by decide) (by decide))))
  have F636 := (((Fw239.ext E240).other W267 (Or.inr (slot_ne (Or.inl (hw _ (List.mem_of_getElem? (i := 44) rfl))) (Or.inl (hw _ (List.mem_of_getElem? (i := 46) rfl))) (by decide) (t := (.array .int)) (t' := (.array .int)) (by decide) (by decide)))).ext E268)
  have F637 := (((F636.other W297 (Or.inr (slot_ne (Or.inl (hw _ (List.mem_of_getElem? (i := 44) rfl))) (Or.inl (hw _ (List.mem_of_getElem? (i := 48) rfl))) (by decide) (t := (.array .int)) (t' := (.array .int)) (by decide) (by decide)))).ext E299).other W330 (Or.inr (slot_ne (Or.inl (hw _ (List.mem_of_getElem? (i := 44) rfl))) (Or.inl (hw _ (List.mem_of_getElem? (i := 50) rfl))) (by decide) (t := (.array .int)) (t' := (.array .int)) (by decide) (by decide))))
  have F638 := (((F637.ext E331).other W363 (Or.inr (slot_ne (Or.inl (hw _ (List.mem_of_getElem? (i := 44) rfl))) (Or.inl (hw _ (List.mem_of_getElem? (i := 52) rfl))) (by decide) (t := (.array .int)) (t' := (.array .int)) (by decide) (by decide)))).ext E364)
  have F639 := (((F638.other W398 (Or.inr (slot_ne (Or.inl (hw _ (List.mem_of_getElem? (i := 44) rfl))) (Or.inl (hw _ (List.mem_of_getElem? (i := 54) rfl))) (by decide) (t := (.array .int)) (t' := (.array .int)) (by decide) (by decide)))).ext E400).other W436 (Or.inr (slot_ne (Or.inl (hw _ (List.mem_of_getElem? (i := 44) rfl))) (Or.inl (hw _ (List.mem_of_getElem? (i := 56) rfl))) (by decide) (t := (.array .int)) (t' := (.array .int)) (by decide) (by decide))))
  have F640 := (((Fw267.ext E268).other W297 (Or.inr (slot_ne (Or.inl (hw _ (List.mem_of_getElem? (i := 46) rfl))) (Or.inl (hw _ (List.mem_of_getElem? (i := 48) rfl))) (by decide) (t := (.array .int)) (t' := (.array .int)) (by decide) (by decide)))).ext E299)
  have F641 := (((F640.other W330 (Or.inr (slot_ne (Or.inl (hw _ (List.mem_of_getElem? (i := 46) rfl))) (Or.inl (hw _ (List.mem_of_getElem? (i := 50) rfl))) (by decide) (t := (.array .int)) (t' := (.array .int)) (by decide) (by decide)))).ext E331).other W363 (Or.inr (slot_ne (Or.inl (hw _ (List.mem_of_getElem? (i := 46) rfl))) (Or.inl (hw _ (List.mem_of_getElem? (i := 52) rfl))) (by decide) (t := (.array .int)) (t' := (.array .int)) (by decide) (by decide))))
  have F642 := (((F641.ext E364).other W398 (Or.inr (slot_ne (Or.inl (hw _ (List.mem_of_getElem? (i := 46) rfl))) (Or.inl (hw _ (List.mem_of_getElem? (i := 54) rfl))) (by decide) (t := (.array .int)) (t' := (.array .int)) (by decide) (by decide)))).ext E400)
  have F643 := (F642.other W436 (Or.inr (slot_ne (Or.inl (hw _ (List.mem_of_getElem? (i := 46) rfl))) (Or.inl (hw _ (List.mem_of_getElem? (i := 56) rfl))) (by decide) (t := (.array .int)) (t' := (.array .int)) (by decide) (by decide))))
  have F644 := (((Fw297.ext E299).other W330 (Or.inr (slot_ne (Or.inl (hw _ (List.mem_of_getElem? (i := 48) rfl))) (Or.inl (hw _ (List.mem_of_getElem? (i := 50) rfl))) (by decide) (t := (.array .int)) (t' := (.array .int)) (by decide) (by decide)))).ext E331)
  have F645 := (((F644.other W363 (Or.inr (slot_ne (Or.inl (hw _ (List.mem_of_getElem? (i := 48) rfl))) (Or.inl (hw _ (List.mem_of_getElem? (i := 52) rfl))) (by decide) (t := (.array .int)) (t' := (.array .int)) (by decide) (by decide)))).ext E364).other W398 (Or.inr (slot_ne (Or.inl (hw _ (List.mem_of_getElem? (i := 48) rfl))) (Or.inl (hw _ (List.mem_of_getElem? (i := 54) rfl))) (by decide) (t := (.array .int)) (t' := (.array .int)) (by decide) (by decide))))
  have F646 := ((F645.ext E400).other W436 (Or.inr (slot_ne (Or.inl (hw _ (List.mem_of_getElem? (i := 48) rfl))) (Or.inl (hw _ (List.mem_of_getElem? (i := 56) rfl))) (by decide) (t := (.array .int)) (t' := (.array .int)) (by decide) (by decide))))
  have F647 := (((Fw330.ext E331).other W363 (Or.inr (slot_ne (Or.inl (hw _ (List.mem_of_getElem? (i := 50) rfl))) (Or.inl (hw _ (List.mem_of_getElem? (i := 52) rfl))) (by decide) (t := (.array .int)) (t' := (.array .int)) (by decide) (by decide)))).ext E364)
  have F648 := (((F647.other W398 (Or.inr (slot_ne (Or.inl (hw _ (List.mem_of_getElem? (i := 50) rfl))) (Or.inl (hw _ (List.mem_of_getElem? (i := 54) rfl))) (by decide) (t := (.array .int)) (t' := (.array .int)) (by decide) (by decide)))).ext E400).other W436 (Or.inr (slot_ne (Or.inl (hw _ (List.mem_of_getElem? (i := 50) rfl))) (Or.inl (hw _ (List.mem_of_getElem? (i := 56) rfl))) (by decide) (t := (.array .int)) (t' := (.array .int)) (by decide) (by decide))))
  have F649 := (((Fw363.ext E364).other W398 (Or.inr (slot_ne (Or.inl (hw _ (List.mem_of_getElem? (i := 52) rfl))) (Or.inl (hw _ (List.mem_of_getElem? (i := 54) rfl))) (by decide) (t := (.array .int)) (t' := (.array .int)) (by decide) (by decide)))).ext E400)
  have F650 := (F649.other W436 (Or.inr (slot_ne (Or.inl (hw _ (List.mem_of_getElem? (i := 52) rfl))) (Or.inl (hw _ (List.mem_of_getElem? (i := 56) rfl))) (by decide) (t := (.array .int)) (t' := (.array .int)) (by decide) (by decide))))
  have F651 := ((Fw398.ext E400).other W436 (Or.inr (slot_ne (Or.inl (hw _ (List.mem_of_getElem? (i := 54) rfl))) (Or.inl (hw _ (List.mem_of_getElem? (i := 56) rfl))) (by decide) (t := (.array .int)) (t' := (.array .int)) (by decide) (by decide))))
  have F652 := (((Fw94.ext E96).other W114 (Or.inr (slot_ne (Or.inl (hw _ (List.mem_of_getElem? (i := 28) rfl))) (Or.inl (hw _ (List.mem_of_getElem? (i := 30) rfl))) (by decide) (t := (.array .boolean)) (t' := (.array .int)) (by decide) (by decide)))).ext E115)
  have F653 := (((F652.other W135 (Or.inr (slot_ne (Or.inl (hw _ (List.mem_of_getElem? (i := 28) rfl))) (Or.inr (hw _ (List.mem_of_getElem? (i := 32) rfl))) (by decide) (t := (.array .boolean)) (t' := (.array .int)) (by decide) (by decide)))).keep K137 (ninS ne_a0__b115 nin0)).ext E142)
  have F654 := (((F653.other W163 (Or.inr (slot_ne (Or.inl (hw _ (List.mem_of_getElem? (i := 28) rfl))) (Or.inl (hw _ (List.mem_of_getElem? (i := 38) rfl))) (by decide) (t := (.array .boolean)) (t' := (.array .int)) (by decide) (by decide)))).ext E164).other W186 (Or.inr (slot_ne (Or.inl (hw _ (List.mem_of_getElem? (i := 28) rfl))) (Or.inl (hw _ (List.mem_of_getElem? (i := 40) rfl))) (by decide) (t := (.array .boolean)) (t' := (.array .int)) (by decide) (by decide))))
  have F655 := (((F654.ext E187).other W211 (Or.inr (slot_ne (Or.inl (hw _ (List.mem_of_getElem? (i := 28) rfl))) (Or.inl (hw _ (List.mem_of_getElem? (i := 42) rfl))) (by decide) (t := (.array .boolean)) (t' := (.array .int)) (by decide) (by decide)))).ext E213)
  have F656 := (((F655.other W239 (Or.inr (slot_ne (Or.inl (hw _ (List.mem_of_getElem? (i := 28) rfl))) (Or.inl (hw _ (List.mem_of_getElem? (i := 44) rfl))) (by decide) (t := (.array .boolean)) (t' := (.array .int)) (by decide) (by decide)))).ext E240).other W267 (Or.inr (slot_ne (Or.inl (hw _ (List.mem_of_getElem? (i := 28) rfl))) (Or.inl (hw _ (List.mem_of_getElem? (i := 46) rfl))) (by decide) (t := (.array .boolean)) (t' := (.array .int)) (by decide) (by decide))))
  have F657 := (((F656.ext E268).other W297 (Or.inr (slot_ne (Or.inl (hw _ (List.mem_of_getElem? (i := 28) rfl))) (Or.inl (hw _ (List.mem_of_getElem? (i := 48) rfl))) (by decide) (t := (.array .boolean)) (t' := (.array .int)) (by decide) (by decide)))).ext E299)
  have F658 := (((F657.other W330 (Or.inr (slot_ne (Or.inl (hw _ (List.mem_of_getElem? (i := 28) rfl))) (Or.inl (hw _ (List.mem_of_getElem? (i := 50) rfl))) (by decide) (t := (.array .boolean)) (t' := (.array .int)) (by decide) (by decide)))).ext E331).other W363 (Or.inr (slot_ne (Or.inl (hw _ (List.mem_of_getElem? (i := 28) rfl))) (Or.inl (hw _ (List.mem_of_getElem? (i := 52) rfl))) (by decide) (t := (.array .boolean)) (t' := (.array .int)) (by decide) (by decide))))
  have F659 := (((F658.ext E364).other W398 (Or.inr (slot_ne (Or.inl (hw _ (List.mem_of_getElem? (i := 28) rfl))) (Or.inl (hw _ (List.mem_of_getElem? (i := 54) rfl))) (by decide) (t := (.array .boolean)) (t' := (.array .int)) (by decide) (by decide)))).ext E400)
  have F660 := (F659.other W436 (Or.inr (slot_ne (Or.inl (hw _ (List.mem_of_getElem? (i := 28) rfl))) (Or.inl (hw _ (List.mem_of_getElem? (i := 56) rfl))) (by decide) (t := (.array .boolean)) (t' := (.array .int)) (by decide) (by decide))))
  have F661 := (((Fw77.ext E78).other W94 (Or.inr (slot_ne (Or.inl (hw _ (List.mem_of_getElem? (i := 25) rfl))) (Or.inl (hw _ (List.mem_of_getElem? (i := 28) rfl))) (by decide) (t := (.array (.array .int))) (t' := (.array .boolean)) (by decide) (by decide)))).ext E96)
  have F662 := (((F661.other W114 (Or.inr (slot_ne (Or.inl (hw _ (List.mem_of_getElem? (i := 25) rfl))) (Or.inl (hw _ (List.mem_of_getElem? (i := 30) rfl))) (by decide) (t := (.array (.array .int))) (t' := (.array .int)) (by decide) (by decide)))).ext E115).other W135 (Or.inr (slot_ne (Or.inl (hw _ (List.mem_of_getElem? (i := 25) rfl))) (Or.inr (hw _ (List.mem_of_getElem? (i := 32) rfl))) (by decide) (t := (.array (.array .int))) (t' := (.array .int)) (by decide) (by decide))))
  have F663 := (((F662.keep K137 (ninS ne_a0__b115 nin0)).ext E142).other W163 (Or.inr (slot_ne (Or.inl (hw _ (List.mem_of_getElem? (i := 25) rfl))) (Or.inl (hw _ (List.mem_of_getElem? (i := 38) rfl))) (by decide) (t := (.array (.array .int))) (t' := (.array .int)) (by decide) (by decide))))
  have F664 := (((F663.ext E164).other W186 (Or.inr (slot_ne (Or.inl (hw _ (List.mem_of_getElem? (i := 25) rfl))) (Or.inl (hw _ (List.mem_of_getElem? (i := 40) rfl))) (by decide) (t := (.array (.array .int))) (t' := (.array .int)) (by decide) (by decide)))).ext E187)
  have F665 := (((F664.other W211 (Or.inr (slot_ne (Or.inl (hw _ (List.mem_of_getElem? (i := 25) rfl))) (Or.inl (hw _ (List.mem_of_getElem? (i := 42) rfl))) (by decide) (t := (.array (.array .int))) (t' := (.array .int)) (by decide) (by decide)))).ext E213).other W239 (Or.inr (slot_ne (Or.inl (hw _ (List.mem_of_getElem? (i := 25) rfl))) (Or.inl (hw _ (List.mem_of_getElem? (i := 44) rfl))) (by decide) (t := (.array (.array .int))) (t' := (.array .int)) (by decide) (by decide))))
  have F666 := (((F665.ext E240).other W267 (Or.inr (slot_ne (Or.inl (hw _ (List.mem_of_getElem? (i := 25) rfl))) (Or.inl (hw _ (List.mem_of_getElem? (i := 46) rfl))) (by decide) (t := (.array (.array .int))) (t' := (.array .int)) (by decide) (by decide)))).ext E268)
  have F667 := (((F666.other W297 (Or.inr (slot_ne (Or.inl (hw _ (List.mem_of_getElem? (i := 25) rfl))) (Or.inl (hw _ (List.mem_of_getElem? (i := 48) rfl))) (by decide) (t := (.array (.array .int))) (t' := (.array .int)) (by decide) (by decide)))).ext E299).other W330 (Or.inr (slot_ne (Or.inl (hw _ (List.mem_of_getElem? (i := 25) rfl))) (Or.inl (hw _ (List.mem_of_getElem? (i := 50) rfl))) (by decide) (t := (.array (.array .int))) (t' := (.array .int)) (by decide) (by decide))))
  have F668 := (((F667.ext E331).other W363 (Or.inr (slot_ne (Or.inl (hw _ (List.mem_of_getElem? (i := 25) rfl))) (Or.inl (hw _ (List.mem_of_getElem? (i := 52) rfl))) (by decide) (t := (.array (.array .int))) (t' := (.array .int)) (by decide) (by decide)))).ext E364)
  have F669 := (((F668.other W398 (Or.inr (slot_ne (Or.inl (hw _ (List.mem_of_getElem? (i := 25) rfl))) (Or.inl (hw _ (List.mem_of_getElem? (i := 54) rfl))) (by decide) (t := (.array (.array .int))) (t' := (.array .int)) (by decide) (by decide)))).ext E400).other W436 (Or.inr (slot_ne (Or.inl (hw _ (List.mem_of_getElem? (i := 25) rfl))) (Or.inl (hw _ (List.mem_of_getElem? (i := 56) rfl))) (by decide) (t := (.array (.array .int))) (t' := (.array .int)) (by decide) (by decide))))
  have F670 := ((F403.ext E400).other W436 (Ne.symm ne_a0__b2))
  have F671 := ((F407.ext E400).other W436 (Ne.symm ne_a0__b35))
  have F672 := ((F408.ext E400).other W436 (Ne.symm ne_a0__b48))
  have F673 := ((F411.ext E400).other W436 (Ne.symm ne_a0__b96))
  have F674 := ((F412.ext E400).other W436 (Ne.symm ne_a0__b142))
  have F675 := ((F413.ext E400).other W436 (Ne.symm ne_a0__b164))
  have F676 := ((F414.ext E400).other W436 (Ne.symm ne_a0__b187))
  have F677 := ((F415.ext E400).other W436 (Ne.symm ne_a0__b213))
  have F678 := ((F416.ext E400).other W436 (Ne.symm ne_a0__b240))
  have F679 := ((F417.ext E400).other W436 (Ne.symm ne_a0__b268))
  have F680 := ((F418.ext E400).other W436 (Ne.symm ne_a0__b299))
  have F681 := ((F419.ext E400).other W436 (Ne.symm ne_a0__b331))
  have F682 := ((F420.ext E400).other W436 (Ne.symm ne_a0__b364))
  have F683 := (V400.other W436 (Ne.symm ne_a0__b400))
  have F684 := ((F410.ext E400).other W436 (Ne.symm ne_a0__b78))
  have F685 := ((F409.ext E400).other W436 (Ne.symm ne_a0__b62))
  have F686 := (F435.wr W436)
  have K687 : Keep h0 h436 [a0_] := ((K401.ext E400).wr W436 (Or.inl (List.mem_of_getElem? (i := 0) rfl)))
  obtain ⟨cR, AR, qR, SR, -, -, -⟩ := id F685
  have HWc : own_W Z h436 a0_ (fun j => match j with | 0 => b2 | 1 => b35 | 2 => b48 | 3 => b96 | 4 => b142 | 5 => b164 | 6 => b187 | 7 => b213 | 8 => b240 | 9 => b268 | 10 => b299 | 11 => b331 | 12 => b364 | 13 => b400 | 14 => b78 | _ => b62 : Nat → Addr) (fun _ => 0) (fun _ _ => 0) := ⟨F686, fun i hi => match i, hi with | 0, _ => F450 | 1, _ => F464 | 2, _ => F478 | 3, _ => F492 | 4, _ => F506 | 5, _ => F520 | 6, _ => F534 | 7, _ => F548 | 8, _ => F562 | 9, _ => F576 | n + 10, hi => absurd hi (by omega), fun j hj => match j, hj with | 0, _ => F589 | 1, _ => F600 | 2, _ => F610 | 3, _ => F618 | 4, _ => F624 | 5, _ => F630 | 6, _ => F635 | 7, _ => F639 | 8, _ => F643 | 9, _ => F646 | 10, _ => F648 | 11, _ => F650 | 12, _ => F651 | 13, _ => Fw436 | 14, _ => F660 | 15, _ => F669 | n + 16, hj => absurd hj (by omega), fun j hj => match j, hj with | 0, _ => own_B.of F670 (fun _ => rfl) | 1, _ => own_B.of F671 (fun _ => rfl) | 2, _ => own_B.of F672 (fun _ => rfl) | 3, _ => own_B.of F673 (fun _ => rfl) | 4, _ => own_B.of F674 (fun _ => rfl) | 5, _ => own_B.of F675 (fun _ => rfl) | 6, _ => own_B.of F676 (fun _ => rfl) | 7, _ => own_B.of F677 (fun _ => rfl) | 8, _ => own_B.of F678 (fun _ => rfl) | 9, _ => own_B.of F679 (fun _ => rfl) | 10, _ => own_B.of F680 (fun _ => rfl) | 11, _ => own_B.of F681 (fun _ => rfl) | 12, _ => own_B.of F682 (fun _ => rfl) | 13, _ => own_B.of F683 (fun _ => rfl) | 14, _ => own_B.of F684 (fun _ => rfl) | n + 15, hj => absurd hj (by omega), ⟨cR, AR, SR, qR ▸ O62⟩⟩
  have HDc : own_D n0 a0_ (fun j => match j with | 0 => b2 | 1 => b35 | 2 => b48 | 3 => b96 | 4 => b142 | 5 => b164 | 6 => b187 | 7 => b213 | 8 => b240 | 9 => b268 | 10 => b299 | 11 => b331 | 12 => b364 | 13 => b400 | 14 => b78 | _ => b62 : Nat → Addr) := ⟨g_, fun j hj => match j, hj with | 0, _ => ⟨ge_b2, ne_a0__b2⟩ | 1, _ => ⟨ge_b35, ne_a0__b35⟩ | 2, _ => ⟨ge_b48, ne_a0__b48⟩ | 3, _ => ⟨ge_b96, ne_a0__b96⟩ | 4, _ => ⟨ge_b142, ne_a0__b142⟩ | 5, _ => ⟨ge_b164, ne_a0__b164⟩ | 6, _ => ⟨ge_b187, ne_a0__b187⟩ | 7, _ => ⟨ge_b213, ne_a0__b213⟩ | 8, _ => ⟨ge_b240, ne_a0__b240⟩ | 9, _ => ⟨ge_b268, ne_a0__b268⟩ | 10, _ => ⟨ge_b299, ne_a0__b299⟩ | 11, _ => ⟨ge_b331, ne_a0__b331⟩ | 12, _ => ⟨ge_b364, ne_a0__b364⟩ | 13, _ => ⟨ge_b400, ne_a0__b400⟩ | 14, _ => ⟨ge_b78, ne_a0__b78⟩ | 15, _ => ⟨ge_b62, ne_a0__b62⟩ | n + 16, hj => absurd hj (by omega), own_pair _ (by
    refine ⟨ne_b2_b35, ne_b2_b48, ne_b2_b96, ne_b2_b142, ne_b2_b164, ne_b2_b187, ne_b2_b213, ne_b2_b240, ne_b2_b268, ne_b2_b299, ne_b2_b331, ne_b2_b364, ne_b2_b400, ne_b2_b78, ne_b2_b62, ne_b35_b48, ne_b35_b96, ne_b35_b142, ne_b35_b164, ne_b35_b187, ne_b35_b213, ne_b35_b240, ne_b35_b268, ne_b35_b299, ne_b35_b331, ne_b35_b364, ne_b35_b400, ne_b35_b78, ne_b35_b62, ne_b48_b96, ne_b48_b142, ne_b48_b164, ne_b48_b187, ne_b48_b213, ne_b48_b240, ne_b48_b268, ne_b48_b299, ne_b48_b331, ne_b48_b364, ne_b48_b400, ne_b48_b78, ne_b48_b62, ne_b96_b142, ne_b96_b164, ne_b96_b187, ne_b96_b213, ne_b96_b240, ne_b96_b268, ne_b96_b299, ne_b96_b331, ne_b96_b364, ne_b96_b400, (Ne.symm ne_b78_b96), (Ne.symm ne_b62_b96), ne_b142_b164, ne_b142_b187, ne_b142_b213, ne_b142_b240, ne_b142_b268, ne_b142_b299, ne_b142_b331, ne_b142_b364, ne_b142_b400, (Ne.symm ne_b78_b142), (Ne.symm ne_b62_b142), ne_b164_b187, ne_b164_b213, ne_b164_b240, ne_b164_b268, ne_b164_b299, ne_b164_b331, ne_b164_b364, ne_b164_b400, (Ne.symm ne_b78_b164), (Ne.symm ne_b62_b164), ne_b187_b213, ne_b187_b240, ne_b187_b268, ne_b187_b299, ne_b187_b331, ne_b187_b364, ne_b187_b400, (Ne.symm ne_b78_b187), (Ne.symm ne_b62_b187), ne_b213_b240, ne_b213_b268, ne_b213_b299, ne_b213_b331, ne_b213_b364, ne_b213_b400, (Ne.symm ne_b78_b213), (Ne.symm ne_b62_b213), ne_b240_b268, ne_b240_b299, ne_b240_b331, ne_b240_b364, ne_b240_b400, (Ne.symm ne_b78_b240), (Ne.symm ne_b62_b240), ne_b268_b299, ne_b268_b331, ne_b268_b364, ne_b268_b400, (Ne.symm ne_b78_b268), (Ne.symm ne_b62_b268), ne_b299_b331, ne_b299_b364, ne_b299_b400, (Ne.symm ne_b78_b299), (Ne.symm ne_b62_b299), ne_b331_b364, ne_b331_b400, (Ne.symm ne_b78_b331), (Ne.symm ne_b62_b331), ne_b364_b400, (Ne.symm ne_b78_b364), (Ne.symm ne_b62_b364), (Ne.symm ne_b78_b400), (Ne.symm ne_b62_b400), (Ne.symm ne_b62_b78)⟩)⟩
  have k688 : own_To p e below T436 (mkF m 157 #[.val (.ref a0_), .val (.int (4 : Int32)), .val (.int (2 : Int32))] []) s₁ (mkF m 0 #[.val (.ref a0_), .val (.int (4 : Int32)), .val (.int (2 : Int32))] []) := fun t q => k399 t (by
    refine st400 _ ?_
    show Steps p.tables e below (T400.setTop (mkF m 154 #[.val (.ref a0_), .val (.int (4 : Int32)), .val (.int (2 : Int32))] [(.ref b400), (.ref a0_)])) _
    refine st436 _ ?_
    show Steps p.tables e below (T436.setTop (mkF m 157 #[.val (.ref a0_), .val (.int (4 : Int32)), .val (.int (2 : Int32))] [])) _
    exact q)
  obtain ⟨fs, hr, hrun, hended, hW, hsame⟩ := Xf436.leave (v := none) (fun _ => rfl)
  refine ⟨_, _, k0 _ (k688 _ ?_), hrun, hended, _, _, rfl, ?_, ⟨_, rfl⟩, hW, hsame.mono (by decide) (by decide)⟩
  · show Steps p.tables e below (T436.setTop (mkF m 157 #[.val (.ref a0_), .val (.int (4 : Int32)), .val (.int (2 : Int32))] [])) _
    exact Xf436.returnOut hx Bd.returns (hb hby own_d1_157) hr
  · show Qct Z a0_ h0 n0 _ T436.heap _
    rw [e436]
    exact ⟨(fun j => match j with | 0 => b2 | 1 => b35 | 2 => b48 | 3 => b96 | 4 => b142 | 5 => b164 | 6 => b187 | 7 => b213 | 8 => b240 | 9 => b268 | 10 => b299 | 11 => b331 | 12 => b364 | 13 => b400 | 14 => b78 | _ => b62 : Nat → Addr), rfl, Nf436, K687, HWc, HDc⟩
/-- the int fields: builtinCount, disjunctionCount, readyCount, matchedCount, trailLooked; the others 0 -/
def own_I (a b r m t : Int32) : Nat → Int32 := fun i => match i with | 0 => a | 1 => b | 5 => r | 7 => m | 9 => t | _ => 0
theorem own_I0 (a b r m t x : Int32) : own_u (own_I a b r m t) 0 x = own_I x b r m t := by
  funext i; match i with | 0 => rfl | 1 => rfl | 2 => rfl | 3 => rfl | 4 => rfl | 5 => rfl | 6 => rfl | 7 => rfl | 8 => rfl | 9 => rfl | n + 10 => simp [own_u, own_I]
theorem own_I1 (a b r m t x : Int32) : own_u (own_I a b r m t) 1 x = own_I a x r m t := by
  funext i; match i with | 0 => rfl | 1 => rfl | 2 => rfl | 3 => rfl | 4 => rfl | 5 => rfl | 6 => rfl | 7 => rfl | 8 => rfl | 9 => rfl | n + 10 => simp [own_u, own_I]
theorem own_I5 (a b r m t x : Int32) : own_u (own_I a b r m t) 5 x = own_I a b x m t := by
  funext i; match i with | 0 => rfl | 1 => rfl | 2 => rfl | 3 => rfl | 4 => rfl | 5 => rfl | 6 => rfl | 7 => rfl | 8 => rfl | 9 => rfl | n + 10 => simp [own_u, own_I]
theorem own_I7 (a b r m t x : Int32) : own_u (own_I a b r m t) 7 x = own_I a b r x t := by
  funext i; match i with | 0 => rfl | 1 => rfl | 2 => rfl | 3 => rfl | 4 => rfl | 5 => rfl | 6 => rfl | 7 => rfl | 8 => rfl | 9 => rfl | n + 10 => simp [own_u, own_I]
theorem own_I9 (a b r m t x : Int32) : own_u (own_I a b r m t) 9 x = own_I a b r m x := by
  funext i; match i with | 0 => rfl | 1 => rfl | 2 => rfl | 3 => rfl | 4 => rfl | 5 => rfl | 6 => rfl | 7 => rfl | 8 => rfl | 9 => rfl | n + 10 => simp [own_u, own_I]
theorem own_Iz (a b r m t : Int32) (i : Nat) (h : i = 2 ∨ i = 3 ∨ i = 4 ∨ i = 6 ∨ i = 8) : own_u (own_I a b r m t) i 0 = own_I a b r m t := by
  funext k; simp only [own_u]; split
  · rename_i e; subst e; rcases h with rfl | rfl | rfl | rfl | rfl <;> rfl
  · rfl
theorem own_Iw : (fun _ => 0 : Nat → Int32) = own_I 0 0 0 0 0 := by
  funext i; match i with | 0 => rfl | 1 => rfl | 2 => rfl | 3 => rfl | 4 => rfl | 5 => rfl | 6 => rfl | 7 => rfl | 8 => rfl | 9 => rfl | n + 10 => rfl
theorem own_bit (x m : Int32) : ∀ v : Int32, v = (if x &&& m = (0 : Int32) then (0 : Int32) else (1 : Int32)) → v = 0 ∨ v = 1 := fun v h => by
  subst h; split
  · exact Or.inl rfl
  · exact Or.inr rfl
/-- what is known of the arrays before the mark -/
def own_P1 (d : Int32) (G : Nat → Nat → Int32) : Prop := (d = 1 → G 2 0 = 2) ∧ G 14 2 = 0
/-- .. behind it: the marks at k hold the int fields of the time -/
def own_P2 (a d r m t : Int32) (k : Nat) (G : Nat → Nat → Int32) : Prop := own_P1 d G ∧ ∀ i, i < 10 → G (4 + i) k = own_I a d r m t i
/-- .. behind the second markMatched: f says if it was -/
def own_P3 (a d r m t f : Int32) (k : Nat) (G : Nat → Nat → Int32) : Prop := (d = 1 → G 2 0 = 2) ∧ (f = 0 → G 14 2 = 0) ∧ (f = 1 → G 3 m.toNatClampNeg = 2) ∧ ∀ i, i < 10 → G (4 + i) k = own_I a d r m t i
theorem own_01 {v : Int32} (h : v = 0 ∨ v = 1) : ¬ v < 0 ∧ v < (4 : Int32) := by rcases h with q | q <;> rw [q] <;> decide
theorem own_emE (a b r m t : Int32) (ha : a = 0 ∨ a = 1) (hb : b = 0 ∨ b = 1) : own_em (own_I a b r m t) = if (a + b) = (0 : Int32) then (1 : Int32) else (0 : Int32) := by
  unfold own_em; show (if a = 0 then (if b = 0 then (1 : Int32) else 0) else 0) = _
  rcases ha with q | q <;> rcases hb with q' | q' <;> rw [q, q'] <;> rfl
theorem own_rw0 (vb vc vd ve vr vm vn p3 p4 : Int32) (G : Nat → Nat → Int32) (k : Nat) (hn : vn = 0) (H : ∀ i, i < 10 → G (4 + i) k = own_I vb vd vr vm p3 i) : (own_u (own_u (own_u (own_u (own_u (own_u (own_u (own_u (own_I (vb + vc) (vd + ve) vr (vm + vn) p4) 0 (G 4 k)) 1 (G 5 k)) 2 (G 6 k)) 3 (G 7 k)) 4 (G 8 k)) 5 (G 9 k)) 6 (G 10 k)) 9 (G 13 k)) = own_I vb vd vr vm p3 := by
  funext i
  match i with
  | 0 => exact H 0 (by decide)
  | 1 => exact H 1 (by decide)
  | 2 => exact H 2 (by decide)
  | 3 => exact H 3 (by decide)
  | 4 => exact H 4 (by decide)
  | 5 => exact H 5 (by decide)
  | 6 => exact H 6 (by decide)
  | 7 => exact by show vm + vn = vm; rw [hn, Int32.add_zero]
  | 8 => exact rfl
  | 9 => exact H 9 (by decide)
  | n + 10 => simp [own_u, own_I]
theorem own_rw1 (vb vc vd ve vr vm vn p3 p4 : Int32) (G : Nat → Nat → Int32) (k : Nat) (h7 : (own_I (vb + vc) (vd + ve) vr (vm + vn) p4) 7 - (1 : Int32) = vm) (H : ∀ i, i < 10 → G (4 + i) k = own_I vb vd vr vm p3 i) : (own_u (own_u (own_u (own_u (own_u (own_u (own_u (own_u (own_u (own_I (vb + vc) (vd + ve) vr (vm + vn) p4) 0 (G 4 k)) 1 (G 5 k)) 2 (G 6 k)) 3 (G 7 k)) 4 (G 8 k)) 5 (G 9 k)) 6 (G 10 k)) 7 (((own_I (vb + vc) (vd + ve) vr (vm + vn) p4) 7) - (1 : Int32))) 9 ((own_g G 14 ((G 3 ((((own_I (vb + vc) (vd + ve) vr (vm + vn) p4) 7) - (1 : Int32))).toNatClampNeg)).toNatClampNeg (nar .boolean (0 : Int32))) 13 k)) = own_I vb vd vr vm p3 := by
  funext i
  match i with
  | 0 => exact H 0 (by decide)
  | 1 => exact H 1 (by decide)
  | 2 => exact H 2 (by decide)
  | 3 => exact H 3 (by decide)
  | 4 => exact H 4 (by decide)
  | 5 => exact H 5 (by decide)
  | 6 => exact H 6 (by decide)
  | 7 => exact h7
  | 8 => exact rfl
  | 9 => exact H 9 (by decide)
  | n + 10 => simp [own_u, own_I]
theorem own_pd5 : parseMethodDescriptor "(II)V" = some ⟨[.int, .int], none⟩ := by decide +kernel
theorem own_pd4 : parseMethodDescriptor "(I)V" = some ⟨[.int], none⟩ := by decide +kernel
theorem own_pd6 : parseMethodDescriptor "(I[I)V" = some ⟨[.int, (.array .int)], none⟩ := by decide +kernel
theorem own_pd3 : parseMethodDescriptor "(I)I" = some ⟨[.int], some .int⟩ := by decide +kernel
theorem own_pd0 : parseMethodDescriptor "()I" = some ⟨[], some .int⟩ := by decide +kernel
theorem own_pd2 : parseMethodDescriptor "()Z" = some ⟨[], some .boolean⟩ := by decide +kernel
theorem own_pn0 : plainName "com/example/hornloom/hornloom/engine/WaitListMarkPinLaw" = true := by first | (simp [plainName, overriddenIn]; done) | decide +kernel
theorem own_ef0 (m : MethodId) (x0 : Int32) (x1 : Int32) (x2 : Int32) (x3 : Int32) (x4 : Int32) : entryFrame m #[(.int x0), (.int x1), (.int x2), (.int x3), (.int x4)] maxLocals = mkF m 0 #[.val (.int x0), .val (.int x1), .val (.int x2), .val (.int x3), .val (.int x4), .unset, .unset, .unset, .unset, .unset, .unset, .unset, .unset, .unset, .unset, .unset, .unset, .unset, .unset, .unset, .unset, .unset, .unset] [] := by first | (simp [entryFrame, mkF, argsToLocals, Value.category, maxLocals]; done) | rfl
def Q0 (Z : State) (p0 : Int32) (p1 : Int32) (p2 : Int32) (p3 : Int32) (p4 : Int32) (h0 : Heap) (n0 : Nat) (v : Option Value) (h : Heap) (L : List Loc) : Prop := v = some (.int 1) ∧ Fr n0 L
set_option maxRecDepth 65536 in
set_option maxHeartbeats 40000000 in
theorem rm0 (l : Launch) (Z : State) (a0 : Array Value) (hw : ∀ d ∈ tables_1, d.before a0 Z = true) (ws : List Jvm.Cond) (p0 : Int32) (p1 : Int32) (p2 : Int32) (p3 : Int32) (p4 : Int32) (h0 : Heap) (n0 : Nat) (Z0 : n0 ≤ h0.size) :
    MetFree l x (head1 (Jvm.Cond.code x code maxLocals ret :: ws) room_1) (fun a U => a = #[(.int p0), (.int p1), (.int p2), (.int p3), (.int p4)] ∧ Z.Warmed39 U.vm ∧ U.heap = h0) (fun _ _ _ _ _ => True) (fun _ U o U' => ∃ v L, o = .returned v ∧ Q0 Z p0 p1 p2 p3 p4 h0 n0 v U'.heap L ∧ FrameEnd U o U' L 56 384) := by
  refine MetFree.of_bodySF (plainFor_of_name own_pn0) hisR ?_
  intro p e s m args below meth c s₁ Bd hml0 hP hK
  obtain ⟨rfl, hZ, hh⟩ := hP
  have hx := Bd.exec
  have hby := Bd.bytes
  have hml : c.maxLocals = 23 := hml0
  have hown : s.vm.findClass "com/example/hornloom/hornloom/engine/WaitListMarkPinLaw" = some m.cls := findClass_of_methodNamed Bd.named
  have hnm := (name_of_methodNamed Bd.named Bd.method).1
  have X0 : Stand p l e room_1 s m #[(.int p0), (.int p1), (.int p2), (.int p3), (.int p4)] below meth c s₁ [] 0 0 := Stand.of_body Bd
  have e0 : s₁.heap = h0 := by rw [← hh, Bd.state]; rfl
  have N0 := Fr.nil n0
  have k0 : own_To p e below s₁ (mkF m 0 #[.val (.int p0), .val (.int p1), .val (.int p2), .val (.int p3), .val (.int p4), .unset, .unset, .unset, .unset, .unset, .unset, .unset, .unset, .unset, .unset, .unset, .unset, .unset, .unset, .unset, .unset, .unset, .unset] []) s₁ (entryFrame m #[(.int p0), (.int p1), (.int p2), (.int p3), (.int p4)] maxLocals) := fun t k => castTop (own_ef0 m p0 p1 p2 p3 p4) k
  have ki : own_To p e below s₁ (mkF m 0 #[.val (.int p0), .val (.int p1), .val (.int p2), .val (.int p3), .val (.int p4), .unset, .unset, .unset, .unset, .unset, .unset, .unset, .unset, .unset, .unset, .unset, .unset, .unset, .unset, .unset, .unset, .unset, .unset] []) s₁ (mkF m 0 #[.val (.int p0), .val (.int p1), .val (.int p2), .val (.int p3), .val (.int p4), .unset, .unset, .unset, .unset, .unset, .unset, .unset, .unset, .unset, .unset, .unset, .unset, .unset, .unset, .unset, .unset, .unset, .unset] []) := fun t q => q
  have k1 : own_To p e below s₁ (mkF m 3 #[.val (.int p0), .val (.int p1), .val (.int p2), .val (.int p3), .val (.int p4), .unset, .unset, .unset, .unset, .unset, .unset, .unset, .unset, .unset, .unset, .unset, .unset, .unset, .unset, .unset, .unset, .unset, .unset] [(.int (p0 &&& (1 : Int32)))]) s₁ (mkF m 0 #[.val (.int p0), .val (.int p1), .val (.int p2), .val (.int p3), .val (.int p4), .unset, .unset, .unset, .unset, .unset, .unset, .unset, .unset, .unset, .unset, .unset, .unset, .unset, .unset, .unset, .unset, .unset, .unset] []) := fun t q => ki t (by
    refine XS.iloadN X0.here hx rfl (hb hby at_0) rfl ?_
    show Steps p.tables e below (s₁.setTop (mkF m 1 #[.val (.int p0), .val (.int p1), .val (.int p2), .val (.int p3), .val (.int p4), .unset, .unset, .unset, .unset, .unset, .unset, .unset, .unset, .unset, .unset, .unset, .unset, .unset, .unset, .unset, .unset, .unset, .unset] [(.int p0)])) _
    refine XS.iconst X0.here hx rfl (hb hby at_1) ?_
    show Steps p.tables e below (s₁.setTop (mkF m 2 #[.val (.int p0), .val (.int p1), .val (.int p2), .val (.int p3), .val (.int p4), .unset, .unset, .unset, .unset, .unset, .unset, .unset, .unset, .unset, .unset, .unset, .unset, .unset, .unset, .unset, .unset, .unset, .unset] [(.int (1 : Int32)), (.int p0)])) _
    refine XS.iand X0.here hx rfl (hb hby at_2) rfl ?_
    show Steps p.tables e below (s₁.setTop (mkF m 3 #[.val (.int p0), .val (.int p1), .val (.int p2), .val (.int p3), .val (.int p4), .unset, .unset, .unset, .unset, .unset, .unset, .unset, .unset, .unset, .unset, .unset, .unset, .unset, .unset, .unset, .unset, .unset, .unset] [(.int (p0 &&& (1 : Int32)))])) _
    exact q)
  obtain ⟨vb, hvb, k3⟩ : ∃ (vb : Int32), (vb = (if (p0 &&& (1 : Int32)) = (0 : Int32) then (0 : Int32) else (1 : Int32))) ∧ own_To p e below s₁ (mkF m 11 #[.val (.int p0), .val (.int p1), .val (.int p2), .val (.int p3), .val (.int p4), .unset, .unset, .unset, .unset, .unset, .unset, .unset, .unset, .unset, .unset, .unset, .unset, .unset, .unset, .unset, .unset, .unset, .unset] [(.int vb)]) s₁ (mkF m 0 #[.val (.int p0), .val (.int p1), .val (.int p2), .val (.int p3), .val (.int p4), .unset, .unset, .unset, .unset, .unset, .unset, .unset, .unset, .unset, .unset, .unset, .unset, .unset, .unset, .unset, .unset, .unset, .unset] []) := by
    by_cases hm2 : (p0 &&& (1 : Int32)) = (0 : Int32)
    ·
      refine ⟨(0 : Int32), by rw [if_pos hm2], fun t q => k1 t (?_)⟩
      refine XS.ifYes X0.here hx rfl (pc0 := 3) (pc' := 10) rfl (hb hby at_3) rfl ((if0 _ _).trans (teq hm2).1) (by decide) (by decide) ?_
      show Steps p.tables e below (s₁.setTop (mkF m 10 #[.val (.int p0), .val (.int p1), .val (.int p2), .val (.int p3), .val (.int p4), .unset, .unset, .unset, .unset, .unset, .unset, .unset, .unset, .unset, .unset, .unset, .unset, .unset, .unset, .unset, .unset, .unset, .unset] [])) _
      refine XS.iconst X0.here hx rfl (hb hby at_10) ?_
      show Steps p.tables e below (s₁.setTop (mkF m 11 #[.val (.int p0), .val (.int p1), .val (.int p2), .val (.int p3), .val (.int p4), .unset, .unset, .unset, .unset, .unset, .unset, .unset, .unset, .unset, .unset, .unset, .unset, .unset, .unset, .unset, .unset, .unset, .unset] [(.int (0 : Int32))])) _
      exact q
    ·
      refine ⟨(1 : Int32), by rw [if_neg hm2], fun t q => k1 t (?_)⟩
      refine XS.ifNo X0.here hx rfl (hb hby at_3) rfl ((if0 _ _).trans (feq hm2).1) ?_
      show Steps p.tables e below (s₁.setTop (mkF m 6 #[.val (.int p0), .val (.int p1), .val (.int p2), .val (.int p3), .val (.int p4), .unset, .unset, .unset, .unset, .unset, .unset, .unset, .unset, .unset, .unset, .unset, .unset, .unset, .unset, .unset, .unset, .unset, .unset] [])) _
      refine XS.iconst X0.here hx rfl (hb hby at_6) ?_
      show Steps p.tables e below (s₁.setTop (mkF m 7 #[.val (.int p0), .val (.int p1), .val (.int p2), .val (.int p3), .val (.int p4), .unset, .unset, .unset, .unset, .unset, .unset, .unset, .unset, .unset, .unset, .unset, .unset, .unset, .unset, .unset, .unset, .unset, .unset] [(.int (1 : Int32))])) _
      refine XS.goto X0.here hx rfl (pc0 := 7) (pc' := 11) rfl (hb hby at_7) (by decide) (by decide) ?_
      show Steps p.tables e below (s₁.setTop (mkF m 11 #[.val (.int p0), .val (.int p1), .val (.int p2), .val (.int p3), .val (.int p4), .unset, .unset, .unset, .unset, .unset, .unset, .unset, .unset, .unset, .unset, .unset, .unset, .unset, .unset, .unset, .unset, .unset, .unset] [(.int (1 : Int32))])) _
      exact q
  have h_vb : vb = 0 ∨ vb = 1 := own_bit p0 (1 : Int32) vb hvb
  have k4 : own_To p e below s₁ (mkF m 16 #[.val (.int p0), .val (.int p1), .val (.int p2), .val (.int p3), .val (.int p4), .val (.int vb), .unset, .unset, .unset, .unset, .unset, .unset, .unset, .unset, .unset, .unset, .unset, .unset, .unset, .unset, .unset, .unset, .unset] [(.int (p0 &&& (2 : Int32)))]) s₁ (mkF m 0 #[.val (.int p0), .val (.int p1), .val (.int p2), .val (.int p3), .val (.int p4), .unset, .unset, .unset, .unset, .unset, .unset, .unset, .unset, .unset, .unset, .unset, .unset, .unset, .unset, .unset, .unset, .unset, .unset] []) := fun t q => k3 t (by
    refine XS.istore X0.here hx rfl (hb hby at_11) rfl (l' := #[.val (.int p0), .val (.int p1), .val (.int p2), .val (.int p3), .val (.int p4), .val (.int vb), .unset, .unset, .unset, .unset, .unset, .unset, .unset, .unset, .unset, .unset, .unset, .unset, .unset, .unset, .unset, .unset, .unset]) rfl ?_
    show Steps p.tables e below (s₁.setTop (mkF m 13 #[.val (.int p0), .val (.int p1), .val (.int p2), .val (.int p3), .val (.int p4), .val (.int vb), .unset, .unset, .unset, .unset, .unset, .unset, .unset, .unset, .unset, .unset, .unset, .unset, .unset, .unset, .unset, .unset, .unset] [])) _
    refine XS.iloadN X0.here hx rfl (hb hby at_13) rfl ?_
    show Steps p.tables e below (s₁.setTop (mkF m 14 #[.val (.int p0), .val (.int p1), .val (.int p2), .val (.int p3), .val (.int p4), .val (.int vb), .unset, .unset, .unset, .unset, .unset, .unset, .unset, .unset, .unset, .unset, .unset, .unset, .unset, .unset, .unset, .unset, .unset] [(.int p0)])) _
    refine XS.iconst X0.here hx rfl (hb hby at_14) ?_
    show Steps p.tables e below (s₁.setTop (mkF m 15 #[.val (.int p0), .val (.int p1), .val (.int p2), .val (.int p3), .val (.int p4), .val (.int vb), .unset, .unset, .unset, .unset, .unset, .unset, .unset, .unset, .unset, .unset, .unset, .unset, .unset, .unset, .unset, .unset, .unset] [(.int (2 : Int32)), (.int p0)])) _
    refine XS.iand X0.here hx rfl (hb hby at_15) rfl ?_
    show Steps p.tables e below (s₁.setTop (mkF m 16 #[.val (.int p0), .val (.int p1), .val (.int p2), .val (.int p3), .val (.int p4), .val (.int vb), .unset, .unset, .unset, .unset, .unset, .unset, .unset, .unset, .unset, .unset, .unset, .unset, .unset, .unset, .unset, .unset, .unset] [(.int (p0 &&& (2 : Int32)))])) _
    exact q)
  obtain ⟨vd, hvd, k6⟩ : ∃ (vd : Int32), (vd = (if (p0 &&& (2 : Int32)) = (0 : Int32) then (0 : Int32) else (1 : Int32))) ∧ own_To p e below s₁ (mkF m 24 #[.val (.int p0), .val (.int p1), .val (.int p2), .val (.int p3), .val (.int p4), .val (.int vb), .unset, .unset, .unset, .unset, .unset, .unset, .unset, .unset, .unset, .unset, .unset, .unset, .unset, .unset, .unset, .unset, .unset] [(.int vd)]) s₁ (mkF m 0 #[.val (.int p0), .val (.int p1), .val (.int p2), .val (.int p3), .val (.int p4), .unset, .unset, .unset, .unset, .unset, .unset, .unset, .unset, .unset, .unset, .unset, .unset, .unset, .unset, .unset, .unset, .unset, .unset] []) := by
    by_cases hm5 : (p0 &&& (2 : Int32)) = (0 : Int32)
    ·
      refine ⟨(0 : Int32), by rw [if_pos hm5], fun t q => k4 t (?_)⟩
      refine XS.ifYes X0.here hx rfl (pc0 := 16) (pc' := 23) rfl (hb hby at_16) rfl ((if0 _ _).trans (teq hm5).1) (by decide) (by decide) ?_
      show Steps p.tables e below (s₁.setTop (mkF m 23 #[.val (.int p0), .val (.int p1), .val (.int p2), .val (.int p3), .val (.int p4), .val (.int vb), .unset, .unset, .unset, .unset, .unset, .unset, .unset, .unset, .unset, .unset, .unset, .unset, .unset, .unset, .unset, .unset, .unset] [])) _
      refine XS.iconst X0.here hx rfl (hb hby at_23) ?_
      show Steps p.tables e below (s₁.setTop (mkF m 24 #[.val (.int p0), .val (.int p1), .val (.int p2), .val (.int p3), .val (.int p4), .val (.int vb), .unset, .unset, .unset, .unset, .unset, .unset, .unset, .unset, .unset, .unset, .unset, .unset, .unset, .unset, .unset, .unset, .unset] [(.int (0 : Int32))])) _
      exact q
    ·
      refine ⟨(1 : Int32), by rw [if_neg hm5], fun t q => k4 t (?_)⟩
      refine XS.ifNo X0.here hx rfl (hb hby at_16) rfl ((if0 _ _).trans (feq hm5).1) ?_
      show Steps p.tables e below (s₁.setTop (mkF m 19 #[.val (.int p0), .val (.int p1), .val (.int p2), .val (.int p3), .val (.int p4), .val (.int vb), .unset, .unset, .unset, .unset, .unset, .unset, .unset, .unset, .unset, .unset, .unset, .unset, .unset, .unset, .unset, .unset, .unset] [])) _
      refine XS.iconst X0.here hx rfl (hb hby at_19) ?_
      show Steps p.tables e below (s₁.setTop (mkF m 20 #[.val (.int p0), .val (.int p1), .val (.int p2), .val (.int p3), .val (.int p4), .val (.int vb), .unset, .unset, .unset, .unset, .unset, .unset, .unset, .unset, .unset, .unset, .unset, .unset, .unset, .unset, .unset, .unset, .unset] [(.int (1 : Int32))])) _
      refine XS.goto X0.here hx rfl (pc0 := 20) (pc' := 24) rfl (hb hby at_20) (by decide) (by decide) ?_
      show Steps p.tables e below (s₁.setTop (mkF m 24 #[.val (.int p0), .val (.int p1), .val (.int p2), .val (.int p3), .val (.int p4), .val (.int vb), .unset, .unset, .unset, .unset, .unset, .unset, .unset, .unset, .unset, .unset, .unset, .unset, .unset, .unset, .unset, .unset, .unset] [(.int (1 : Int32))])) _
      exact q
  have h_vd : vd = 0 ∨ vd = 1 := own_bit p0 (2 : Int32) vd hvd
  have k7 : own_To p e below s₁ (mkF m 29 #[.val (.int p0), .val (.int p1), .val (.int p2), .val (.int p3), .val (.int p4), .val (.int vb), .val (.int vd), .unset, .unset, .unset, .unset, .unset, .unset, .unset, .unset, .unset, .unset, .unset, .unset, .unset, .unset, .unset, .unset] [(.int (p0 &&& (4 : Int32)))]) s₁ (mkF m 0 #[.val (.int p0), .val (.int p1), .val (.int p2), .val (.int p3), .val (.int p4), .unset, .unset, .unset, .unset, .unset, .unset, .unset, .unset, .unset, .unset, .unset, .unset, .unset, .unset, .unset, .unset, .unset, .unset] []) := fun t q => k6 t (by
    refine XS.istore X0.here hx rfl (hb hby at_24) rfl (l' := #[.val (.int p0), .val (.int p1), .val (.int p2), .val (.int p3), .val (.int p4), .val (.int vb), .val (.int vd), .unset, .unset, .unset, .unset, .unset, .unset, .unset, .unset, .unset, .unset, .unset, .unset, .unset, .unset, .unset, .unset]) rfl ?_
    show Steps p.tables e below (s₁.setTop (mkF m 26 #[.val (.int p0), .val (.int p1), .val (.int p2), .val (.int p3), .val (.int p4), .val (.int vb), .val (.int vd), .unset, .unset, .unset, .unset, .unset, .unset, .unset, .unset, .unset, .unset, .unset, .unset, .unset, .unset, .unset, .unset] [])) _
    refine XS.iloadN X0.here hx rfl (hb hby at_26) rfl ?_
    show Steps p.tables e below (s₁.setTop (mkF m 27 #[.val (.int p0), .val (.int p1), .val (.int p2), .val (.int p3), .val (.int p4), .val (.int vb), .val (.int vd), .unset, .unset, .unset, .unset, .unset, .unset, .unset, .unset, .unset, .unset, .unset, .unset, .unset, .unset, .unset, .unset] [(.int p0)])) _
    refine XS.iconst X0.here hx rfl (hb hby at_27) ?_
    show Steps p.tables e below (s₁.setTop (mkF m 28 #[.val (.int p0), .val (.int p1), .val (.int p2), .val (.int p3), .val (.int p4), .val (.int vb), .val (.int vd), .unset, .unset, .unset, .unset, .unset, .unset, .unset, .unset, .unset, .unset, .unset, .unset, .unset, .unset, .unset, .unset] [(.int (4 : Int32)), (.int p0)])) _
    refine XS.iand X0.here hx rfl (hb hby at_28) rfl ?_
    show Steps p.tables e below (s₁.setTop (mkF m 29 #[.val (.int p0), .val (.int p1), .val (.int p2), .val (.int p3), .val (.int p4), .val (.int vb), .val (.int vd), .unset, .unset, .unset, .unset, .unset, .unset, .unset, .unset, .unset, .unset, .unset, .unset, .unset, .unset, .unset, .unset] [(.int (p0 &&& (4 : Int32)))])) _
    exact q)
  obtain ⟨vm, hvm, k9⟩ : ∃ (vm : Int32), (vm = (if (p0 &&& (4 : Int32)) = (0 : Int32) then (0 : Int32) else (1 : Int32))) ∧ own_To p e below s₁ (mkF m 37 #[.val (.int p0), .val (.int p1), .val (.int p2), .val (.int p3), .val (.int p4), .val (.int vb), .val (.int vd), .unset, .unset, .unset, .unset, .unset, .unset, .unset, .unset, .unset, .unset, .unset, .unset, .unset, .unset, .unset, .unset] [(.int vm)]) s₁ (mkF m 0 #[.val (.int p0), .val (.int p1), .val (.int p2), .val (.int p3), .val (.int p4), .unset, .unset, .unset, .unset, .unset, .unset, .unset, .unset, .unset, .unset, .unset, .unset, .unset, .unset, .unset, .unset, .unset, .unset] []) := by
    by_cases hm8 : (p0 &&& (4 : Int32)) = (0 : Int32)
    ·
      refine ⟨(0 : Int32), by rw [if_pos hm8], fun t q => k7 t (?_)⟩
      refine XS.ifYes X0.here hx rfl (pc0 := 29) (pc' := 36) rfl (hb hby at_29) rfl ((if0 _ _).trans (teq hm8).1) (by decide) (by decide) ?_
      show Steps p.tables e below (s₁.setTop (mkF m 36 #[.val (.int p0), .val (.int p1), .val (.int p2), .val (.int p3), .val (.int p4), .val (.int vb), .val (.int vd), .unset, .unset, .unset, .unset, .unset, .unset, .unset, .unset, .unset, .unset, .unset, .unset, .unset, .unset, .unset, .unset] [])) _
      refine XS.iconst X0.here hx rfl (hb hby at_36) ?_
      show Steps p.tables e below (s₁.setTop (mkF m 37 #[.val (.int p0), .val (.int p1), .val (.int p2), .val (.int p3), .val (.int p4), .val (.int vb), .val (.int vd), .unset, .unset, .unset, .unset, .unset, .unset, .unset, .unset, .unset, .unset, .unset, .unset, .unset, .unset, .unset, .unset] [(.int (0 : Int32))])) _
      exact q
    ·
      refine ⟨(1 : Int32), by rw [if_neg hm8], fun t q => k7 t (?_)⟩
      refine XS.ifNo X0.here hx rfl (hb hby at_29) rfl ((if0 _ _).trans (feq hm8).1) ?_
      show Steps p.tables e below (s₁.setTop (mkF m 32 #[.val (.int p0), .val (.int p1), .val (.int p2), .val (.int p3), .val (.int p4), .val (.int vb), .val (.int vd), .unset, .unset, .unset, .unset, .unset, .unset, .unset, .unset, .unset, .unset, .unset, .unset, .unset, .unset, .unset, .unset] [])) _
      refine XS.iconst X0.here hx rfl (hb hby at_32) ?_
      show Steps p.tables e below (s₁.setTop (mkF m 33 #[.val (.int p0), .val (.int p1), .val (.int p2), .val (.int p3), .val (.int p4), .val (.int vb), .val (.int vd), .unset, .unset, .unset, .unset, .unset, .unset, .unset, .unset, .unset, .unset, .unset, .unset, .unset, .unset, .unset, .unset] [(.int (1 : Int32))])) _
      refine XS.goto X0.here hx rfl (pc0 := 33) (pc' := 37) rfl (hb hby at_33) (by decide) (by decide) ?_
      show Steps p.tables e below (s₁.setTop (mkF m 37 #[.val (.int p0), .val (.int p1), .val (.int p2), .val (.int p3), .val (.int p4), .val (.int vb), .val (.int vd), .unset, .unset, .unset, .unset, .unset, .unset, .unset, .unset, .unset, .unset, .unset, .unset, .unset, .unset, .unset, .unset] [(.int (1 : Int32))])) _
      exact q
  have h_vm : vm = 0 ∨ vm = 1 := own_bit p0 (4 : Int32) vm hvm
  have k10 : own_To p e below s₁ (mkF m 43 #[.val (.int p0), .val (.int p1), .val (.int p2), .val (.int p3), .val (.int p4), .val (.int vb), .val (.int vd), .val (.int vm), .unset, .unset, .unset, .unset, .unset, .unset, .unset, .unset, .unset, .unset, .unset, .unset, .unset, .unset, .unset] [(.int (p0 &&& (8 : Int32)))]) s₁ (mkF m 0 #[.val (.int p0), .val (.int p1), .val (.int p2), .val (.int p3), .val (.int p4), .unset, .unset, .unset, .unset, .unset, .unset, .unset, .unset, .unset, .unset, .unset, .unset, .unset, .unset, .unset, .unset, .unset, .unset] []) := fun t q => k9 t (by
    refine XS.istore X0.here hx rfl (hb hby at_37) rfl (l' := #[.val (.int p0), .val (.int p1), .val (.int p2), .val (.int p3), .val (.int p4), .val (.int vb), .val (.int vd), .val (.int vm), .unset, .unset, .unset, .unset, .unset, .unset, .unset, .unset, .unset, .unset, .unset, .unset, .unset, .unset, .unset]) rfl ?_
    show Steps p.tables e below (s₁.setTop (mkF m 39 #[.val (.int p0), .val (.int p1), .val (.int p2), .val (.int p3), .val (.int p4), .val (.int vb), .val (.int vd), .val (.int vm), .unset, .unset, .unset, .unset, .unset, .unset, .unset, .unset, .unset, .unset, .unset, .unset, .unset, .unset, .unset] [])) _
    refine XS.iloadN X0.here hx rfl (hb hby at_39) rfl ?_
    show Steps p.tables e below (s₁.setTop (mkF m 40 #[.val (.int p0), .val (.int p1), .val (.int p2), .val (.int p3), .val (.int p4), .val (.int vb), .val (.int vd), .val (.int vm), .unset, .unset, .unset, .unset, .unset, .unset, .unset, .unset, .unset, .unset, .unset, .unset, .unset, .unset, .unset] [(.int p0)])) _
    refine XS.bipush X0.here hx rfl (hb hby at_40) ?_
    show Steps p.tables e below (s₁.setTop (mkF m 42 #[.val (.int p0), .val (.int p1), .val (.int p2), .val (.int p3), .val (.int p4), .val (.int vb), .val (.int vd), .val (.int vm), .unset, .unset, .unset, .unset, .unset, .unset, .unset, .unset, .unset, .unset, .unset, .unset, .unset, .unset, .unset] [(.int (8 : Int32)), (.int p0)])) _
    refine XS.iand X0.here hx rfl (hb hby at_42) rfl ?_
    show Steps p.tables e below (s₁.setTop (mkF m 43 #[.val (.int p0), .val (.int p1), .val (.int p2), .val (.int p3), .val (.int p4), .val (.int vb), .val (.int vd), .val (.int vm), .unset, .unset, .unset, .unset, .unset, .unset, .unset, .unset, .unset, .unset, .unset, .unset, .unset, .unset, .unset] [(.int (p0 &&& (8 : Int32)))])) _
    exact q)
  obtain ⟨vr, hvr, k12⟩ : ∃ (vr : Int32), (vr = (if (p0 &&& (8 : Int32)) = (0 : Int32) then (0 : Int32) else (1 : Int32))) ∧ own_To p e below s₁ (mkF m 51 #[.val (.int p0), .val (.int p1), .val (.int p2), .val (.int p3), .val (.int p4), .val (.int vb), .val (.int vd), .val (.int vm), .unset, .unset, .unset, .unset, .unset, .unset, .unset, .unset, .unset, .unset, .unset, .unset, .unset, .unset, .unset] [(.int vr)]) s₁ (mkF m 0 #[.val (.int p0), .val (.int p1), .val (.int p2), .val (.int p3), .val (.int p4), .unset, .unset, .unset, .unset, .unset, .unset, .unset, .unset, .unset, .unset, .unset, .unset, .unset, .unset, .unset, .unset, .unset, .unset] []) := by
    by_cases hm11 : (p0 &&& (8 : Int32)) = (0 : Int32)
    ·
      refine ⟨(0 : Int32), by rw [if_pos hm11], fun t q => k10 t (?_)⟩
      refine XS.ifYes X0.here hx rfl (pc0 := 43) (pc' := 50) rfl (hb hby at_43) rfl ((if0 _ _).trans (teq hm11).1) (by decide) (by decide) ?_
      show Steps p.tables e below (s₁.setTop (mkF m 50 #[.val (.int p0), .val (.int p1), .val (.int p2), .val (.int p3), .val (.int p4), .val (.int vb), .val (.int vd), .val (.int vm), .unset, .unset, .unset, .unset, .unset, .unset, .unset, .unset, .unset, .unset, .unset, .unset, .unset, .unset, .unset] [])) _
      refine XS.iconst X0.here hx rfl (hb hby at_50) ?_
      show Steps p.tables e below (s₁.setTop (mkF m 51 #[.val (.int p0), .val (.int p1), .val (.int p2), .val (.int p3), .val (.int p4), .val (.int vb), .val (.int vd), .val (.int vm), .unset, .unset, .unset, .unset, .unset, .unset, .unset, .unset, .unset, .unset, .unset, .unset, .unset, .unset, .unset] [(.int (0 : Int32))])) _
      exact q
    ·
      refine ⟨(1 : Int32), by rw [if_neg hm11], fun t q => k10 t (?_)⟩
      refine XS.ifNo X0.here hx rfl (hb hby at_43) rfl ((if0 _ _).trans (feq hm11).1) ?_
      show Steps p.tables e below (s₁.setTop (mkF m 46 #[.val (.int p0), .val (.int p1), .val (.int p2), .val (.int p3), .val (.int p4), .val (.int vb), .val (.int vd), .val (.int vm), .unset, .unset, .unset, .unset, .unset, .unset, .unset, .unset, .unset, .unset, .unset, .unset, .unset, .unset, .unset] [])) _
      refine XS.iconst X0.here hx rfl (hb hby at_46) ?_
      show Steps p.tables e below (s₁.setTop (mkF m 47 #[.val (.int p0), .val (.int p1), .val (.int p2), .val (.int p3), .val (.int p4), .val (.int vb), .val (.int vd), .val (.int vm), .unset, .unset, .unset, .unset, .unset, .unset, .unset, .unset, .unset, .unset, .unset, .unset, .unset, .unset, .unset] [(.int (1 : Int32))])) _
      refine XS.goto X0.here hx rfl (pc0 := 47) (pc' := 51) rfl (hb hby at_47) (by decide) (by decide) ?_
      show Steps p.tables e below (s₁.setTop (mkF m 51 #[.val (.int p0), .val (.int p1), .val (.int p2), .val (.int p3), .val (.int p4), .val (.int vb), .val (.int vd), .val (.int vm), .unset, .unset, .unset, .unset, .unset, .unset, .unset, .unset, .unset, .unset, .unset, .unset, .unset, .unset, .unset] [(.int (1 : Int32))])) _
      exact q
  have h_vr : vr = 0 ∨ vr = 1 := own_bit p0 (8 : Int32) vr hvr
  have k13 : own_To p e below s₁ (mkF m 56 #[.val (.int p0), .val (.int p1), .val (.int p2), .val (.int p3), .val (.int p4), .val (.int vb), .val (.int vd), .val (.int vm), .val (.int vr), .unset, .unset, .unset, .unset, .unset, .unset, .unset, .unset, .unset, .unset, .unset, .unset, .unset, .unset] [(.int (p1 &&& (1 : Int32)))]) s₁ (mkF m 0 #[.val (.int p0), .val (.int p1), .val (.int p2), .val (.int p3), .val (.int p4), .unset, .unset, .unset, .unset, .unset, .unset, .unset, .unset, .unset, .unset, .unset, .unset, .unset, .unset, .unset, .unset, .unset, .unset] []) := fun t q => k12 t (by
    refine XS.istore X0.here hx rfl (hb hby at_51) rfl (l' := #[.val (.int p0), .val (.int p1), .val (.int p2), .val (.int p3), .val (.int p4), .val (.int vb), .val (.int vd), .val (.int vm), .val (.int vr), .unset, .unset, .unset, .unset, .unset, .unset, .unset, .unset, .unset, .unset, .unset, .unset, .unset, .unset]) rfl ?_
    show Steps p.tables e below (s₁.setTop (mkF m 53 #[.val (.int p0), .val (.int p1), .val (.int p2), .val (.int p3), .val (.int p4), .val (.int vb), .val (.int vd), .val (.int vm), .val (.int vr), .unset, .unset, .unset, .unset, .unset, .unset, .unset, .unset, .unset, .unset, .unset, .unset, .unset, .unset] [])) _
    refine XS.iloadN X0.here hx rfl (hb hby at_53) rfl ?_
    show Steps p.tables e below (s₁.setTop (mkF m 54 #[.val (.int p0), .val (.int p1), .val (.int p2), .val (.int p3), .val (.int p4), .val (.int vb), .val (.int vd), .val (.int vm), .val (.int vr), .unset, .unset, .unset, .unset, .unset, .unset, .unset, .unset, .unset, .unset, .unset, .unset, .unset, .unset] [(.int p1)])) _
    refine XS.iconst X0.here hx rfl (hb hby at_54) ?_
    show Steps p.tables e below (s₁.setTop (mkF m 55 #[.val (.int p0), .val (.int p1), .val (.int p2), .val (.int p3), .val (.int p4), .val (.int vb), .val (.int vd), .val (.int vm), .val (.int vr), .unset, .unset, .unset, .unset, .unset, .unset, .unset, .unset, .unset, .unset, .unset, .unset, .unset, .unset] [(.int (1 : Int32)), (.int p1)])) _
    refine XS.iand X0.here hx rfl (hb hby at_55) rfl ?_
    show Steps p.tables e below (s₁.setTop (mkF m 56 #[.val (.int p0), .val (.int p1), .val (.int p2), .val (.int p3), .val (.int p4), .val (.int vb), .val (.int vd), .val (.int vm), .val (.int vr), .unset, .unset, .unset, .unset, .unset, .unset, .unset, .unset, .unset, .unset, .unset, .unset, .unset, .unset] [(.int (p1 &&& (1 : Int32)))])) _
    exact q)
  obtain ⟨vc, hvc, k15⟩ : ∃ (vc : Int32), (vc = (if (p1 &&& (1 : Int32)) = (0 : Int32) then (0 : Int32) else (1 : Int32))) ∧ own_To p e below s₁ (mkF m 64 #[.val (.int p0), .val (.int p1), .val (.int p2), .val (.int p3), .val (.int p4), .val (.int vb), .val (.int vd), .val (.int vm), .val (.int vr), .unset, .unset, .unset, .unset, .unset, .unset, .unset, .unset, .unset, .unset, .unset, .unset, .unset, .unset] [(.int vc)]) s₁ (mkF m 0 #[.val (.int p0), .val (.int p1), .val (.int p2), .val (.int p3), .val (.int p4), .unset, .unset, .unset, .unset, .unset, .unset, .unset, .unset, .unset, .unset, .unset, .unset, .unset, .unset, .unset, .unset, .unset, .unset] []) := by
    by_cases hm14 : (p1 &&& (1 : Int32)) = (0 : Int32)
    ·
      refine ⟨(0 : Int32), by rw [if_pos hm14], fun t q => k13 t (?_)⟩
      refine XS.ifYes X0.here hx rfl (pc0 := 56) (pc' := 63) rfl (hb hby at_56) rfl ((if0 _ _).trans (teq hm14).1) (by decide) (by decide) ?_
      show Steps p.tables e below (s₁.setTop (mkF m 63 #[.val (.int p0), .val (.int p1), .val (.int p2), .val (.int p3), .val (.int p4), .val (.int vb), .val (.int vd), .val (.int vm), .val (.int vr), .unset, .unset, .unset, .unset, .unset, .unset, .unset, .unset, .unset, .unset, .unset, .unset, .unset, .unset] [])) _
      refine XS.iconst X0.here hx rfl (hb hby at_63) ?_
      show Steps p.tables e below (s₁.setTop (mkF m 64 #[.val (.int p0), .val (.int p1), .val (.int p2), .val (.int p3), .val (.int p4), .val (.int vb), .val (.int vd), .val (.int vm), .val (.int vr), .unset, .unset, .unset, .unset, .unset, .unset, .unset, .unset, .unset, .unset, .unset, .unset, .unset, .unset] [(.int (0 : Int32))])) _
      exact q
    ·
      refine ⟨(1 : Int32), by rw [if_neg hm14], fun t q => k13 t (?_)⟩
      refine XS.ifNo X0.here hx rfl (hb hby at_56) rfl ((if0 _ _).trans (feq hm14).1) ?_
      show Steps p.tables e below (s₁.setTop (mkF m 59 #[.val (.int p0), .val (.int p1), .val (.int p2), .val (.int p3), .val (.int p4), .val (.int vb), .val (.int vd), .val (.int vm), .val (.int vr), .unset, .unset, .unset, .unset, .unset, .unset, .unset, .unset, .unset, .unset, .unset, .unset, .unset, .unset] [])) _
      refine XS.iconst X0.here hx rfl (hb hby at_59) ?_
      show Steps p.tables e below (s₁.setTop (mkF m 60 #[.val (.int p0), .val (.int p1), .val (.int p2), .val (.int p3), .val (.int p4), .val (.int vb), .val (.int vd), .val (.int vm), .val (.int vr), .unset, .unset, .unset, .unset, .unset, .unset, .unset, .unset, .unset, .unset, .unset, .unset, .unset, .unset] [(.int (1 : Int32))])) _
      refine XS.goto X0.here hx rfl (pc0 := 60) (pc' := 64) rfl (hb hby at_60) (by decide) (by decide) ?_
      show Steps p.tables e below (s₁.setTop (mkF m 64 #[.val (.int p0), .val (.int p1), .val (.int p2), .val (.int p3), .val (.int p4), .val (.int vb), .val (.int vd), .val (.int vm), .val (.int vr), .unset, .unset, .unset, .unset, .unset, .unset, .unset, .unset, .unset, .unset, .unset, .unset, .unset, .unset] [(.int (1 : Int32))])) _
      exact q
  have h_vc : vc = 0 ∨ vc = 1 := own_bit p1 (1 : Int32) vc hvc
  have k16 : own_To p e below s₁ (mkF m 69 #[.val (.int p0), .val (.int p1), .val (.int p2), .val (.int p3), .val (.int p4), .val (.int vb), .val (.int vd), .val (.int vm), .val (.int vr), .val (.int vc), .unset, .unset, .unset, .unset, .unset, .unset, .unset, .unset, .unset, .unset, .unset, .unset, .unset] [(.int (p1 &&& (2 : Int32)))]) s₁ (mkF m 0 #[.val (.int p0), .val (.int p1), .val (.int p2), .val (.int p3), .val (.int p4), .unset, .unset, .unset, .unset, .unset, .unset, .unset, .unset, .unset, .unset, .unset, .unset, .unset, .unset, .unset, .unset, .unset, .unset] []) := fun t q => k15 t (by
    refine XS.istore X0.here hx rfl (hb hby at_64) rfl (l' := #[.val (.int p0), .val (.int p1), .val (.int p2), .val (.int p3), .val (.int p4), .val (.int vb), .val (.int vd), .val (.int vm), .val (.int vr), .val (.int vc), .unset, .unset, .unset, .unset, .unset, .unset, .unset, .unset, .unset, .unset, .unset, .unset, .unset]) rfl ?_
    show Steps p.tables e below (s₁.setTop (mkF m 66 #[.val (.int p0), .val (.int p1), .val (.int p2), .val (.int p3), .val (.int p4), .val (.int vb), .val (.int vd), .val (.int vm), .val (.int vr), .val (.int vc), .unset, .unset, .unset, .unset, .unset, .unset, .unset, .unset, .unset, .unset, .unset, .unset, .unset] [])) _
    refine XS.iloadN X0.here hx rfl (hb hby at_66) rfl ?_
    show Steps p.tables e below (s₁.setTop (mkF m 67 #[.val (.int p0), .val (.int p1), .val (.int p2), .val (.int p3), .val (.int p4), .val (.int vb), .val (.int vd), .val (.int vm), .val (.int vr), .val (.int vc), .unset, .unset, .unset, .unset, .unset, .unset, .unset, .unset, .unset, .unset, .unset, .unset, .unset] [(.int p1)])) _
    refine XS.iconst X0.here hx rfl (hb hby at_67) ?_
    show Steps p.tables e below (s₁.setTop (mkF m 68 #[.val (.int p0), .val (.int p1), .val (.int p2), .val (.int p3), .val (.int p4), .val (.int vb), .val (.int vd), .val (.int vm), .val (.int vr), .val (.int vc), .unset, .unset, .unset, .unset, .unset, .unset, .unset, .unset, .unset, .unset, .unset, .unset, .unset] [(.int (2 : Int32)), (.int p1)])) _
    refine XS.iand X0.here hx rfl (hb hby at_68) rfl ?_
    show Steps p.tables e below (s₁.setTop (mkF m 69 #[.val (.int p0), .val (.int p1), .val (.int p2), .val (.int p3), .val (.int p4), .val (.int vb), .val (.int vd), .val (.int vm), .val (.int vr), .val (.int vc), .unset, .unset, .unset, .unset, .unset, .unset, .unset, .unset, .unset, .unset, .unset, .unset, .unset] [(.int (p1 &&& (2 : Int32)))])) _
    exact q)
  obtain ⟨ve, hve, k18⟩ : ∃ (ve : Int32), (ve = (if (p1 &&& (2 : Int32)) = (0 : Int32) then (0 : Int32) else (1 : Int32))) ∧ own_To p e below s₁ (mkF m 77 #[.val (.int p0), .val (.int p1), .val (.int p2), .val (.int p3), .val (.int p4), .val (.int vb), .val (.int vd), .val (.int vm), .val (.int vr), .val (.int vc), .unset, .unset, .unset, .unset, .unset, .unset, .unset, .unset, .unset, .unset, .unset, .unset, .unset] [(.int ve)]) s₁ (mkF m 0 #[.val (.int p0), .val (.int p1), .val (.int p2), .val (.int p3), .val (.int p4), .unset, .unset, .unset, .unset, .unset, .unset, .unset, .unset, .unset, .unset, .unset, .unset, .unset, .unset, .unset, .unset, .unset, .unset] []) := by
    by_cases hm17 : (p1 &&& (2 : Int32)) = (0 : Int32)
    ·
      refine ⟨(0 : Int32), by rw [if_pos hm17], fun t q => k16 t (?_)⟩
      refine XS.ifYes X0.here hx rfl (pc0 := 69) (pc' := 76) rfl (hb hby at_69) rfl ((if0 _ _).trans (teq hm17).1) (by decide) (by decide) ?_
      show Steps p.tables e below (s₁.setTop (mkF m 76 #[.val (.int p0), .val (.int p1), .val (.int p2), .val (.int p3), .val (.int p4), .val (.int vb), .val (.int vd), .val (.int vm), .val (.int vr), .val (.int vc), .unset, .unset, .unset, .unset, .unset, .unset, .unset, .unset, .unset, .unset, .unset, .unset, .unset] [])) _
      refine XS.iconst X0.here hx rfl (hb hby at_76) ?_
      show Steps p.tables e below (s₁.setTop (mkF m 77 #[.val (.int p0), .val (.int p1), .val (.int p2), .val (.int p3), .val (.int p4), .val (.int vb), .val (.int vd), .val (.int vm), .val (.int vr), .val (.int vc), .unset, .unset, .unset, .unset, .unset, .unset, .unset, .unset, .unset, .unset, .unset, .unset, .unset] [(.int (0 : Int32))])) _
      exact q
    ·
      refine ⟨(1 : Int32), by rw [if_neg hm17], fun t q => k16 t (?_)⟩
      refine XS.ifNo X0.here hx rfl (hb hby at_69) rfl ((if0 _ _).trans (feq hm17).1) ?_
      show Steps p.tables e below (s₁.setTop (mkF m 72 #[.val (.int p0), .val (.int p1), .val (.int p2), .val (.int p3), .val (.int p4), .val (.int vb), .val (.int vd), .val (.int vm), .val (.int vr), .val (.int vc), .unset, .unset, .unset, .unset, .unset, .unset, .unset, .unset, .unset, .unset, .unset, .unset, .unset] [])) _
      refine XS.iconst X0.here hx rfl (hb hby at_72) ?_
      show Steps p.tables e below (s₁.setTop (mkF m 73 #[.val (.int p0), .val (.int p1), .val (.int p2), .val (.int p3), .val (.int p4), .val (.int vb), .val (.int vd), .val (.int vm), .val (.int vr), .val (.int vc), .unset, .unset, .unset, .unset, .unset, .unset, .unset, .unset, .unset, .unset, .unset, .unset, .unset] [(.int (1 : Int32))])) _
      refine XS.goto X0.here hx rfl (pc0 := 73) (pc' := 77) rfl (hb hby at_73) (by decide) (by decide) ?_
      show Steps p.tables e below (s₁.setTop (mkF m 77 #[.val (.int p0), .val (.int p1), .val (.int p2), .val (.int p3), .val (.int p4), .val (.int vb), .val (.int vd), .val (.int vm), .val (.int vr), .val (.int vc), .unset, .unset, .unset, .unset, .unset, .unset, .unset, .unset, .unset, .unset, .unset, .unset, .unset] [(.int (1 : Int32))])) _
      exact q
  have h_ve : ve = 0 ∨ ve = 1 := own_bit p1 (2 : Int32) ve hve
  have k19 : own_To p e below s₁ (mkF m 82 #[.val (.int p0), .val (.int p1), .val (.int p2), .val (.int p3), .val (.int p4), .val (.int vb), .val (.int vd), .val (.int vm), .val (.int vr), .val (.int vc), .val (.int ve), .unset, .unset, .unset, .unset, .unset, .unset, .unset, .unset, .unset, .unset, .unset, .unset] [(.int (p1 &&& (4 : Int32)))]) s₁ (mkF m 0 #[.val (.int p0), .val (.int p1), .val (.int p2), .val (.int p3), .val (.int p4), .unset, .unset, .unset, .unset, .unset, .unset, .unset, .unset, .unset, .unset, .unset, .unset, .unset, .unset, .unset, .unset, .unset, .unset] []) := fun t q => k18 t (by
    refine XS.istore X0.here hx rfl (hb hby at_77) rfl (l' := #[.val (.int p0), .val (.int p1), .val (.int p2), .val (.int p3), .val (.int p4), .val (.int vb), .val (.int vd), .val (.int vm), .val (.int vr), .val (.int vc), .val (.int ve), .unset, .unset, .unset, .unset, .unset, .unset, .unset, .unset, .unset, .unset, .unset, .unset]) rfl ?_
    show Steps p.tables e below (s₁.setTop (mkF m 79 #[.val (.int p0), .val (.int p1), .val (.int p2), .val (.int p3), .val (.int p4), .val (.int vb), .val (.int vd), .val (.int vm), .val (.int vr), .val (.int vc), .val (.int ve), .unset, .unset, .unset, .unset, .unset, .unset, .unset, .unset, .unset, .unset, .unset, .unset] [])) _
    refine XS.iloadN X0.here hx rfl (hb hby at_79) rfl ?_
    show Steps p.tables e below (s₁.setTop (mkF m 80 #[.val (.int p0), .val (.int p1), .val (.int p2), .val (.int p3), .val (.int p4), .val (.int vb), .val (.int vd), .val (.int vm), .val (.int vr), .val (.int vc), .val (.int ve), .unset, .unset, .unset, .unset, .unset, .unset, .unset, .unset, .unset, .unset, .unset, .unset] [(.int p1)])) _
    refine XS.iconst X0.here hx rfl (hb hby at_80) ?_
    show Steps p.tables e below (s₁.setTop (mkF m 81 #[.val (.int p0), .val (.int p1), .val (.int p2), .val (.int p3), .val (.int p4), .val (.int vb), .val (.int vd), .val (.int vm), .val (.int vr), .val (.int vc), .val (.int ve), .unset, .unset, .unset, .unset, .unset, .unset, .unset, .unset, .unset, .unset, .unset, .unset] [(.int (4 : Int32)), (.int p1)])) _
    refine XS.iand X0.here hx rfl (hb hby at_81) rfl ?_
    show Steps p.tables e below (s₁.setTop (mkF m 82 #[.val (.int p0), .val (.int p1), .val (.int p2), .val (.int p3), .val (.int p4), .val (.int vb), .val (.int vd), .val (.int vm), .val (.int vr), .val (.int vc), .val (.int ve), .unset, .unset, .unset, .unset, .unset, .unset, .unset, .unset, .unset, .unset, .unset, .unset] [(.int (p1 &&& (4 : Int32)))])) _
    exact q)
  obtain ⟨vn, hvn, k21⟩ : ∃ (vn : Int32), (vn = (if (p1 &&& (4 : Int32)) = (0 : Int32) then (0 : Int32) else (1 : Int32))) ∧ own_To p e below s₁ (mkF m 90 #[.val (.int p0), .val (.int p1), .val (.int p2), .val (.int p3), .val (.int p4), .val (.int vb), .val (.int vd), .val (.int vm), .val (.int vr), .val (.int vc), .val (.int ve), .unset, .unset, .unset, .unset, .unset, .unset, .unset, .unset, .unset, .unset, .unset, .unset] [(.int vn)]) s₁ (mkF m 0 #[.val (.int p0), .val (.int p1), .val (.int p2), .val (.int p3), .val (.int p4), .unset, .unset, .unset, .unset, .unset, .unset, .unset, .unset, .unset, .unset, .unset, .unset, .unset, .unset, .unset, .unset, .unset, .unset] []) := by
    by_cases hm20 : (p1 &&& (4 : Int32)) = (0 : Int32)
    ·
      refine ⟨(0 : Int32), by rw [if_pos hm20], fun t q => k19 t (?_)⟩
      refine XS.ifYes X0.here hx rfl (pc0 := 82) (pc' := 89) rfl (hb hby at_82) rfl ((if0 _ _).trans (teq hm20).1) (by decide) (by decide) ?_
      show Steps p.tables e below (s₁.setTop (mkF m 89 #[.val (.int p0), .val (.int p1), .val (.int p2), .val (.int p3), .val (.int p4), .val (.int vb), .val (.int vd), .val (.int vm), .val (.int vr), .val (.int vc), .val (.int ve), .unset, .unset, .unset, .unset, .unset, .unset, .unset, .unset, .unset, .unset, .unset, .unset] [])) _
      refine XS.iconst X0.here hx rfl (hb hby at_89) ?_
      show Steps p.tables e below (s₁.setTop (mkF m 90 #[.val (.int p0), .val (.int p1), .val (.int p2), .val (.int p3), .val (.int p4), .val (.int vb), .val (.int vd), .val (.int vm), .val (.int vr), .val (.int vc), .val (.int ve), .unset, .unset, .unset, .unset, .unset, .unset, .unset, .unset, .unset, .unset, .unset, .unset] [(.int (0 : Int32))])) _
      exact q
    ·
      refine ⟨(1 : Int32), by rw [if_neg hm20], fun t q => k19 t (?_)⟩
      refine XS.ifNo X0.here hx rfl (hb hby at_82) rfl ((if0 _ _).trans (feq hm20).1) ?_
      show Steps p.tables e below (s₁.setTop (mkF m 85 #[.val (.int p0), .val (.int p1), .val (.int p2), .val (.int p3), .val (.int p4), .val (.int vb), .val (.int vd), .val (.int vm), .val (.int vr), .val (.int vc), .val (.int ve), .unset, .unset, .unset, .unset, .unset, .unset, .unset, .unset, .unset, .unset, .unset, .unset] [])) _
      refine XS.iconst X0.here hx rfl (hb hby at_85) ?_
      show Steps p.tables e below (s₁.setTop (mkF m 86 #[.val (.int p0), .val (.int p1), .val (.int p2), .val (.int p3), .val (.int p4), .val (.int vb), .val (.int vd), .val (.int vm), .val (.int vr), .val (.int vc), .val (.int ve), .unset, .unset, .unset, .unset, .unset, .unset, .unset, .unset, .unset, .unset, .unset, .unset] [(.int (1 : Int32))])) _
      refine XS.goto X0.here hx rfl (pc0 := 86) (pc' := 90) rfl (hb hby at_86) (by decide) (by decide) ?_
      show Steps p.tables e below (s₁.setTop (mkF m 90 #[.val (.int p0), .val (.int p1), .val (.int p2), .val (.int p3), .val (.int p4), .val (.int vb), .val (.int vd), .val (.int vm), .val (.int vr), .val (.int vc), .val (.int ve), .unset, .unset, .unset, .unset, .unset, .unset, .unset, .unset, .unset, .unset, .unset, .unset] [(.int (1 : Int32))])) _
      exact q
  have h_vn : vn = 0 ∨ vn = 1 := own_bit p1 (4 : Int32) vn hvn
  have hk4 : ¬ (p2 &&& (3 : Int32)) < 0 ∧ (p2 &&& (3 : Int32)) < (4 : Int32) := by
    have q := c_mask p2 3 2 (by decide) (by decide)
    rw [Int32.lt_iff_toInt_lt, Int32.lt_iff_toInt_lt, show (0 : Int32).toInt = 0 from rfl, show (4 : Int32).toInt = 4 from rfl]; omega
  obtain ⟨T22, h22, kk22, X22, e22, E22, A22, EA22, st22⟩ := newPE X0 hx hZ (hw _ (List.mem_of_getElem? (i := 0) rfl)) e0 (g := (mkF m 98 #[.val (.int p0), .val (.int p1), .val (.int p2), .val (.int p3), .val (.int p4), .val (.int vb), .val (.int vd), .val (.int vm), .val (.int vr), .val (.int vc), .val (.int ve), .val (.int vn), .val (.int (p2 &&& (3 : Int32))), .unset, .unset, .unset, .unset, .unset, .unset, .unset, .unset, .unset, .unset] [(.int (0 : Int32))])) rfl (hb hby at_98) rfl (by decide) (cap := 0) (by decide) (by decide) (by decide) (by decide) (ad := "[I") rfl
  obtain ⟨b22, g22⟩ : ∃ z, z = h0.size := ⟨_, rfl⟩
  rw [← g22] at A22 EA22 st22
  have ge_b22 : n0 ≤ b22 := Nat.le_trans Z0 (Nat.le_of_eq g22.symm)
  have V22 : Arv Z h22 b22 kk22 .int (0 : Int32) [] (.int (0 : Int32)) := (Arv.new A22 (by decide)).pad (pad_rep [] (.int (0 : Int32)) 0)
  obtain ⟨T23, h23, X23, e23, E23, A23, D23, -, st23⟩ := newO X22 hx hZ hown (hw _ (List.mem_of_getElem? (i := 1) rfl)) (hw _ (List.mem_of_getElem? (i := 2) rfl)) (hw _ (List.mem_of_getElem? (i := 3) rfl)) e22 (g := (mkF m 102 #[.val (.int p0), .val (.int p1), .val (.int p2), .val (.int p3), .val (.int p4), .val (.int vb), .val (.int vd), .val (.int vm), .val (.int vr), .val (.int vc), .val (.int ve), .val (.int vn), .val (.int (p2 &&& (3 : Int32))), .val (.ref b22), .unset, .unset, .unset, .unset, .unset, .unset, .unset, .unset, .unset] [])) rfl (hb hby at_102) (by decide) (by decide)
  obtain ⟨b23, g23⟩ : ∃ z, z = h22.size := ⟨_, rfl⟩
  rw [← g23] at A23 D23 st23
  have Zs24 : n0 ≤ h22.size := (Nat.le_trans Z0 E22.1)
  have ge_b23 : n0 ≤ b23 := Nat.le_trans Zs24 (Nat.le_of_eq g23.symm)
  have ne_b22_b23 : b22 ≠ b23 := Nat.ne_of_lt (Nat.lt_of_lt_of_le V22.lt (Nat.le_of_eq g23.symm))
  have F23_11 : Fld Z h23 b23 "com/example/hornloom/hornloom/engine/WaitList" "readyDisjunctions" "[I" .null := D23 (Or.inl (hw _ (List.mem_of_getElem? (i := 11) rfl))) (ty := (.array .int)) (by decide)
  have F23_13 : Fld Z h23 b23 "com/example/hornloom/hornloom/engine/WaitList" "watchVariables" "[I" .null := D23 (Or.inl (hw _ (List.mem_of_getElem? (i := 13) rfl))) (ty := (.array .int)) (by decide)
  have F23_15 : Fld Z h23 b23 "com/example/hornloom/hornloom/engine/WaitList" "watchEntries" "[I" .null := D23 (Or.inl (hw _ (List.mem_of_getElem? (i := 15) rfl))) (ty := (.array .int)) (by decide)
  have F23_17 : Fld Z h23 b23 "com/example/hornloom/hornloom/engine/WaitList" "earlierWatches" "[I" .null := D23 (Or.inl (hw _ (List.mem_of_getElem? (i := 17) rfl))) (ty := (.array .int)) (by decide)
  have F23_19 : Fld Z h23 b23 "com/example/hornloom/hornloom/engine/WaitList" "builtins" "[I" .null := D23 (Or.inl (hw _ (List.mem_of_getElem? (i := 19) rfl))) (ty := (.array .int)) (by decide)
  have F23_21 : Fld Z h23 b23 "com/example/hornloom/hornloom/engine/WaitList" "disjunctions" "[I" .null := D23 (Or.inl (hw _ (List.mem_of_getElem? (i := 21) rfl))) (ty := (.array .int)) (by decide)
  have F23_25 : Fld Z h23 b23 "com/example/hornloom/hornloom/engine/WaitList" "awaited" "[[I" .null := D23 (Or.inl (hw _ (List.mem_of_getElem? (i := 25) rfl))) (ty := (.array (.array .int))) (by decide)
  have F23_28 : Fld Z h23 b23 "com/example/hornloom/hornloom/engine/WaitList" "matched" "[Z" .null := D23 (Or.inl (hw _ (List.mem_of_getElem? (i := 28) rfl))) (ty := (.array .boolean)) (by decide)
  have F23_30 : Fld Z h23 b23 "com/example/hornloom/hornloom/engine/WaitList" "matchedEntries" "[I" .null := D23 (Or.inl (hw _ (List.mem_of_getElem? (i := 30) rfl))) (ty := (.array .int)) (by decide)
  have F23_32 : Fld Z h23 b23 "com/example/hornloom/hornloom/engine/WaitList" "latestWatches" "[I" .null := D23 (Or.inr (hw _ (List.mem_of_getElem? (i := 32) rfl))) (ty := (.array .int)) (by decide)
  have F23_38 : Fld Z h23 b23 "com/example/hornloom/hornloom/engine/WaitList" "builtinMarks" "[I" .null := D23 (Or.inl (hw _ (List.mem_of_getElem? (i := 38) rfl))) (ty := (.array .int)) (by decide)
  have F23_40 : Fld Z h23 b23 "com/example/hornloom/hornloom/engine/WaitList" "disjunctionMarks" "[I" .null := D23 (Or.inl (hw _ (List.mem_of_getElem? (i := 40) rfl))) (ty := (.array .int)) (by decide)
  have F23_42 : Fld Z h23 b23 "com/example/hornloom/hornloom/engine/WaitList" "builtinsLookedMarks" "[I" .null := D23 (Or.inl (hw _ (List.mem_of_getElem? (i := 42) rfl))) (ty := (.array .int)) (by decide)
  have F23_44 : Fld Z h23 b23 "com/example/hornloom/hornloom/engine/WaitList" "disjunctionsLookedMarks" "[I" .null := D23 (Or.inl (hw _ (List.mem_of_getElem? (i := 44) rfl))) (ty := (.array .int)) (by decide)
  have F23_46 : Fld Z h23 b23 "com/example/hornloom/hornloom/engine/WaitList" "settledMarks" "[I" .null := D23 (Or.inl (hw _ (List.mem_of_getElem? (i := 46) rfl))) (ty := (.array .int)) (by decide)
  have F23_48 : Fld Z h23 b23 "com/example/hornloom/hornloom/engine/WaitList" "readyMarks" "[I" .null := D23 (Or.inl (hw _ (List.mem_of_getElem? (i := 48) rfl))) (ty := (.array .int)) (by decide)
  have F23_50 : Fld Z h23 b23 "com/example/hornloom/hornloom/engine/WaitList" "readyTakenMarks" "[I" .null := D23 (Or.inl (hw _ (List.mem_of_getElem? (i := 50) rfl))) (ty := (.array .int)) (by decide)
  have F23_52 : Fld Z h23 b23 "com/example/hornloom/hornloom/engine/WaitList" "matchedMarks" "[I" .null := D23 (Or.inl (hw _ (List.mem_of_getElem? (i := 52) rfl))) (ty := (.array .int)) (by decide)
  have F23_54 : Fld Z h23 b23 "com/example/hornloom/hornloom/engine/WaitList" "watchMarks" "[I" .null := D23 (Or.inl (hw _ (List.mem_of_getElem? (i := 54) rfl))) (ty := (.array .int)) (by decide)
  have F23_56 : Fld Z h23 b23 "com/example/hornloom/hornloom/engine/WaitList" "trailLookedMarks" "[I" .null := D23 (Or.inl (hw _ (List.mem_of_getElem? (i := 56) rfl))) (ty := (.array .int)) (by decide)
  have F23_63 : Fld Z h23 b23 "com/example/hornloom/hornloom/engine/WaitList" "trailLooked" "I" (.int (0 : Int32)) := D23 (Or.inl (hw _ (List.mem_of_getElem? (i := 63) rfl))) (ty := .int) (by decide)
  have F23_70 : Fld Z h23 b23 "com/example/hornloom/hornloom/engine/WaitList" "builtinCount" "I" (.int (0 : Int32)) := D23 (Or.inl (hw _ (List.mem_of_getElem? (i := 70) rfl))) (ty := .int) (by decide)
  have F23_72 : Fld Z h23 b23 "com/example/hornloom/hornloom/engine/WaitList" "disjunctionCount" "I" (.int (0 : Int32)) := D23 (Or.inl (hw _ (List.mem_of_getElem? (i := 72) rfl))) (ty := .int) (by decide)
  have F23_74 : Fld Z h23 b23 "com/example/hornloom/hornloom/engine/WaitList" "builtinsLooked" "I" (.int (0 : Int32)) := D23 (Or.inl (hw _ (List.mem_of_getElem? (i := 74) rfl))) (ty := .int) (by decide)
  have F23_76 : Fld Z h23 b23 "com/example/hornloom/hornloom/engine/WaitList" "disjunctionsLooked" "I" (.int (0 : Int32)) := D23 (Or.inl (hw _ (List.mem_of_getElem? (i := 76) rfl))) (ty := .int) (by decide)
  have F23_78 : Fld Z h23 b23 "com/example/hornloom/hornloom/engine/WaitList" "settledDisjunctions" "I" (.int (0 : Int32)) := D23 (Or.inl (hw _ (List.mem_of_getElem? (i := 78) rfl))) (ty := .int) (by decide)
  have F23_80 : Fld Z h23 b23 "com/example/hornloom/hornloom/engine/WaitList" "readyCount" "I" (.int (0 : Int32)) := D23 (Or.inl (hw _ (List.mem_of_getElem? (i := 80) rfl))) (ty := .int) (by decide)
  have F23_82 : Fld Z h23 b23 "com/example/hornloom/hornloom/engine/WaitList" "readyTaken" "I" (.int (0 : Int32)) := D23 (Or.inl (hw _ (List.mem_of_getElem? (i := 82) rfl))) (ty := .int) (by decide)
  have F23_84 : Fld Z h23 b23 "com/example/hornloom/hornloom/engine/WaitList" "matchedCount" "I" (.int (0 : Int32)) := D23 (Or.inl (hw _ (List.mem_of_getElem? (i := 84) rfl))) (ty := .int) (by decide)
  have F23_86 : Fld Z h23 b23 "com/example/hornloom/hornloom/engine/WaitList" "watchCount" "I" (.int (0 : Int32)) := D23 (Or.inl (hw _ (List.mem_of_getElem? (i := 86) rfl))) (ty := .int) (by decide)
  have k25 : own_To p e below T23 (mkF m 108 #[.val (.int p0), .val (.int p1), .val (.int p2), .val (.int p3), .val (.int p4), .val (.int vb), .val (.int vd), .val (.int vm), .val (.int vr), .val (.int vc), .val (.int ve), .val (.int vn), .val (.int (p2 &&& (3 : Int32))), .val (.ref b22), .unset, .unset, .unset, .unset, .unset, .unset, .unset, .unset, .unset] [(.int (2 : Int32)), (.int (4 : Int32)), (.ref b23), (.ref b23)]) s₁ (mkF m 0 #[.val (.int p0), .val (.int p1), .val (.int p2), .val (.int p3), .val (.int p4), .unset, .unset, .unset, .unset, .unset, .unset, .unset, .unset, .unset, .unset, .unset, .unset, .unset, .unset, .unset, .unset, .unset, .unset] []) := fun t q => k21 t (by
    refine XS.istore X0.here hx rfl (hb hby at_90) rfl (l' := #[.val (.int p0), .val (.int p1), .val (.int p2), .val (.int p3), .val (.int p4), .val (.int vb), .val (.int vd), .val (.int vm), .val (.int vr), .val (.int vc), .val (.int ve), .val (.int vn), .unset, .unset, .unset, .unset, .unset, .unset, .unset, .unset, .unset, .unset, .unset]) rfl ?_
    show Steps p.tables e below (s₁.setTop (mkF m 92 #[.val (.int p0), .val (.int p1), .val (.int p2), .val (.int p3), .val (.int p4), .val (.int vb), .val (.int vd), .val (.int vm), .val (.int vr), .val (.int vc), .val (.int ve), .val (.int vn), .unset, .unset, .unset, .unset, .unset, .unset, .unset, .unset, .unset, .unset, .unset] [])) _
    refine XS.iloadN X0.here hx rfl (hb hby at_92) rfl ?_
    show Steps p.tables e below (s₁.setTop (mkF m 93 #[.val (.int p0), .val (.int p1), .val (.int p2), .val (.int p3), .val (.int p4), .val (.int vb), .val (.int vd), .val (.int vm), .val (.int vr), .val (.int vc), .val (.int ve), .val (.int vn), .unset, .unset, .unset, .unset, .unset, .unset, .unset, .unset, .unset, .unset, .unset] [(.int p2)])) _
    refine XS.iconst X0.here hx rfl (hb hby at_93) ?_
    show Steps p.tables e below (s₁.setTop (mkF m 94 #[.val (.int p0), .val (.int p1), .val (.int p2), .val (.int p3), .val (.int p4), .val (.int vb), .val (.int vd), .val (.int vm), .val (.int vr), .val (.int vc), .val (.int ve), .val (.int vn), .unset, .unset, .unset, .unset, .unset, .unset, .unset, .unset, .unset, .unset, .unset] [(.int (3 : Int32)), (.int p2)])) _
    refine XS.iand X0.here hx rfl (hb hby at_94) rfl ?_
    show Steps p.tables e below (s₁.setTop (mkF m 95 #[.val (.int p0), .val (.int p1), .val (.int p2), .val (.int p3), .val (.int p4), .val (.int vb), .val (.int vd), .val (.int vm), .val (.int vr), .val (.int vc), .val (.int ve), .val (.int vn), .unset, .unset, .unset, .unset, .unset, .unset, .unset, .unset, .unset, .unset, .unset] [(.int (p2 &&& (3 : Int32)))])) _
    refine XS.istore X0.here hx rfl (hb hby at_95) rfl (l' := #[.val (.int p0), .val (.int p1), .val (.int p2), .val (.int p3), .val (.int p4), .val (.int vb), .val (.int vd), .val (.int vm), .val (.int vr), .val (.int vc), .val (.int ve), .val (.int vn), .val (.int (p2 &&& (3 : Int32))), .unset, .unset, .unset, .unset, .unset, .unset, .unset, .unset, .unset, .unset]) rfl ?_
    show Steps p.tables e below (s₁.setTop (mkF m 97 #[.val (.int p0), .val (.int p1), .val (.int p2), .val (.int p3), .val (.int p4), .val (.int vb), .val (.int vd), .val (.int vm), .val (.int vr), .val (.int vc), .val (.int ve), .val (.int vn), .val (.int (p2 &&& (3 : Int32))), .unset, .unset, .unset, .unset, .unset, .unset, .unset, .unset, .unset, .unset] [])) _
    refine XS.iconst X0.here hx rfl (hb hby at_97) ?_
    show Steps p.tables e below (s₁.setTop (mkF m 98 #[.val (.int p0), .val (.int p1), .val (.int p2), .val (.int p3), .val (.int p4), .val (.int vb), .val (.int vd), .val (.int vm), .val (.int vr), .val (.int vc), .val (.int ve), .val (.int vn), .val (.int (p2 &&& (3 : Int32))), .unset, .unset, .unset, .unset, .unset, .unset, .unset, .unset, .unset, .unset] [(.int (0 : Int32))])) _
    refine st22 _ ?_
    show Steps p.tables e below (T22.setTop (mkF m 100 #[.val (.int p0), .val (.int p1), .val (.int p2), .val (.int p3), .val (.int p4), .val (.int vb), .val (.int vd), .val (.int vm), .val (.int vr), .val (.int vc), .val (.int ve), .val (.int vn), .val (.int (p2 &&& (3 : Int32))), .unset, .unset, .unset, .unset, .unset, .unset, .unset, .unset, .unset, .unset] [(.ref b22)])) _
    refine XS.astore X22.here hx rfl (hb hby at_100) rfl rfl (l' := #[.val (.int p0), .val (.int p1), .val (.int p2), .val (.int p3), .val (.int p4), .val (.int vb), .val (.int vd), .val (.int vm), .val (.int vr), .val (.int vc), .val (.int ve), .val (.int vn), .val (.int (p2 &&& (3 : Int32))), .val (.ref b22), .unset, .unset, .unset, .unset, .unset, .unset, .unset, .unset, .unset]) rfl ?_
    show Steps p.tables e below (T22.setTop (mkF m 102 #[.val (.int p0), .val (.int p1), .val (.int p2), .val (.int p3), .val (.int p4), .val (.int vb), .val (.int vd), .val (.int vm), .val (.int vr), .val (.int vc), .val (.int ve), .val (.int vn), .val (.int (p2 &&& (3 : Int32))), .val (.ref b22), .unset, .unset, .unset, .unset, .unset, .unset, .unset, .unset, .unset] [])) _
    refine st23 _ ?_
    show Steps p.tables e below (T23.setTop (mkF m 105 #[.val (.int p0), .val (.int p1), .val (.int p2), .val (.int p3), .val (.int p4), .val (.int vb), .val (.int vd), .val (.int vm), .val (.int vr), .val (.int vc), .val (.int ve), .val (.int vn), .val (.int (p2 &&& (3 : Int32))), .val (.ref b22), .unset, .unset, .unset, .unset, .unset, .unset, .unset, .unset, .unset] [(.ref b23)])) _
    refine XS.dup X23.here hx rfl (hb hby at_105) rfl rfl ?_
    show Steps p.tables e below (T23.setTop (mkF m 106 #[.val (.int p0), .val (.int p1), .val (.int p2), .val (.int p3), .val (.int p4), .val (.int vb), .val (.int vd), .val (.int vm), .val (.int vr), .val (.int vc), .val (.int ve), .val (.int vn), .val (.int (p2 &&& (3 : Int32))), .val (.ref b22), .unset, .unset, .unset, .unset, .unset, .unset, .unset, .unset, .unset] [(.ref b23), (.ref b23)])) _
    refine XS.iconst X23.here hx rfl (hb hby at_106) ?_
    show Steps p.tables e below (T23.setTop (mkF m 107 #[.val (.int p0), .val (.int p1), .val (.int p2), .val (.int p3), .val (.int p4), .val (.int vb), .val (.int vd), .val (.int vm), .val (.int vr), .val (.int vc), .val (.int ve), .val (.int vn), .val (.int (p2 &&& (3 : Int32))), .val (.ref b22), .unset, .unset, .unset, .unset, .unset, .unset, .unset, .unset, .unset] [(.int (4 : Int32)), (.ref b23), (.ref b23)])) _
    refine XS.iconst X23.here hx rfl (hb hby at_107) ?_
    show Steps p.tables e below (T23.setTop (mkF m 108 #[.val (.int p0), .val (.int p1), .val (.int p2), .val (.int p3), .val (.int p4), .val (.int vb), .val (.int vd), .val (.int vm), .val (.int vr), .val (.int vc), .val (.int ve), .val (.int vn), .val (.int (p2 &&& (3 : Int32))), .val (.ref b22), .unset, .unset, .unset, .unset, .unset, .unset, .unset, .unset, .unset] [(.int (2 : Int32)), (.int (4 : Int32)), (.ref b23), (.ref b23)])) _
    exact q)
  have Zs27 : n0 ≤ h23.size := (Nat.le_trans Zs24 E23.1)
  obtain ⟨_, _, ⟨T26, L26, kk26, n26⟩, -, X26, ⟨Lc26, hQ26, l26, y26, z26⟩, st26⟩ := X23.specialBack hx (y := (⟨"com/example/hornloom/hornloom/engine/WaitList", "<init>", "(II)V"⟩ : MethodName)) rfl hown (mvT hZ (hw _ (List.mem_of_getElem? (i := 4) rfl))) (mvT hZ (hw _ (List.mem_of_getElem? (i := 5) rfl))) (mvT hZ (hw _ (List.mem_of_getElem? (i := 6) rfl))) (by decide) (backOf (W := 1) (rmct l Z a0 hw [] b23 h23 n0 Zs27 F23_11 F23_13 F23_15 F23_17 F23_19 F23_21 F23_25 F23_28 F23_30 F23_32 F23_38 F23_40 F23_42 F23_44 F23_46 F23_48 F23_50 F23_52 F23_54 F23_56 F23_63 F23_70 F23_72 F23_74 F23_76 F23_78 F23_80 F23_82 F23_84 F23_86 A23 ge_b23) hZ (hw _ (List.mem_of_getElem? (i := 6) rfl)) (hw _ (List.mem_of_getElem? (i := 3) rfl)) (by decide) (by decide)) (g := (mkF m 108 #[.val (.int p0), .val (.int p1), .val (.int p2), .val (.int p3), .val (.int p4), .val (.int vb), .val (.int vd), .val (.int vm), .val (.int vr), .val (.int vc), .val (.int ve), .val (.int vn), .val (.int (p2 &&& (3 : Int32))), .val (.ref b22), .unset, .unset, .unset, .unset, .unset, .unset, .unset, .unset, .unset] [(.int (2 : Int32)), (.int (4 : Int32)), (.ref b23), (.ref b23)])) rfl (by rw [hml]; rfl) (Steps.refl _) (a := b23) (argsL := [(.int (4 : Int32)), (.int (2 : Int32))]) (rest := [(.ref b23)]) (lenOf own_pd5 rfl) rfl (by show 2 * 0 + _ ≤ _; exact Nat.le_of_eq rfl) (hb hby at_108) (fun _ _ => ⟨rfl, e23, (by decide : 2 + 20 ≤ _), (by decide : 30 + 126 ≤ _)⟩)
  dsimp only [Pt.U, Pt.locs, Pt.cells, Pt.slots] at X26 l26 y26 z26 st26 hQ26
  subst l26 y26 z26
  obtain ⟨A, rfl, N26q, K26, HW26, HD⟩ := hQ26
  have N26 := Fr.app N0 N26q
  have HWi26 : own_W Z T26.heap b23 A (own_I 0 0 0 0 0) (fun _ _ => 0) := by rw [← own_Iw]; exact HW26
  have k28 : own_To p e below T26 (mkF m 115 #[.val (.int p0), .val (.int p1), .val (.int p2), .val (.int p3), .val (.int p4), .val (.int vb), .val (.int vd), .val (.int vm), .val (.int vr), .val (.int vc), .val (.int ve), .val (.int vn), .val (.int (p2 &&& (3 : Int32))), .val (.ref b22), .val (.ref b23), .unset, .unset, .unset, .unset, .unset, .unset, .unset, .unset] [(.int vb)]) s₁ (mkF m 0 #[.val (.int p0), .val (.int p1), .val (.int p2), .val (.int p3), .val (.int p4), .unset, .unset, .unset, .unset, .unset, .unset, .unset, .unset, .unset, .unset, .unset, .unset, .unset, .unset, .unset, .unset, .unset, .unset] []) := fun t q => k25 t (by
    refine st26.trans ?_
    show Steps p.tables e below (T26.setTop (mkF m 111 #[.val (.int p0), .val (.int p1), .val (.int p2), .val (.int p3), .val (.int p4), .val (.int vb), .val (.int vd), .val (.int vm), .val (.int vr), .val (.int vc), .val (.int ve), .val (.int vn), .val (.int (p2 &&& (3 : Int32))), .val (.ref b22), .unset, .unset, .unset, .unset, .unset, .unset, .unset, .unset, .unset] [(.ref b23)])) _
    refine XS.astore X26.here hx rfl (hb hby at_111) rfl rfl (l' := #[.val (.int p0), .val (.int p1), .val (.int p2), .val (.int p3), .val (.int p4), .val (.int vb), .val (.int vd), .val (.int vm), .val (.int vr), .val (.int vc), .val (.int ve), .val (.int vn), .val (.int (p2 &&& (3 : Int32))), .val (.ref b22), .val (.ref b23), .unset, .unset, .unset, .unset, .unset, .unset, .unset, .unset]) rfl ?_
    show Steps p.tables e below (T26.setTop (mkF m 113 #[.val (.int p0), .val (.int p1), .val (.int p2), .val (.int p3), .val (.int p4), .val (.int vb), .val (.int vd), .val (.int vm), .val (.int vr), .val (.int vc), .val (.int ve), .val (.int vn), .val (.int (p2 &&& (3 : Int32))), .val (.ref b22), .val (.ref b23), .unset, .unset, .unset, .unset, .unset, .unset, .unset, .unset] [])) _
    refine XS.iload X26.here hx rfl (hb hby at_113) rfl ?_
    show Steps p.tables e below (T26.setTop (mkF m 115 #[.val (.int p0), .val (.int p1), .val (.int p2), .val (.int p3), .val (.int p4), .val (.int vb), .val (.int vd), .val (.int vm), .val (.int vr), .val (.int vc), .val (.int ve), .val (.int vn), .val (.int (p2 &&& (3 : Int32))), .val (.ref b22), .val (.ref b23), .unset, .unset, .unset, .unset, .unset, .unset, .unset, .unset] [(.int vb)])) _
    exact q)
  obtain ⟨T29, L29, h29, G29, X29, e29, N29, K29, HW29, HP29, k29⟩ : ∃ (T' : State) (L' : List Loc) (h' : Heap) (G' : Nat → Nat → Int32), Stand p l e room_1 s m #[(.int p0), (.int p1), (.int p2), (.int p3), (.int p4)] below meth c T' L' 22 156 ∧ T'.heap = h' ∧ Fr n0 L' ∧ Keep T26.heap h' [b23, (A 0), (A 1), (A 2), (A 3), (A 4), (A 5), (A 6), (A 7), (A 8), (A 9), (A 10), (A 11), (A 12), (A 13), (A 14), (A 15)] ∧ own_W Z h' b23 A (own_I vb 0 0 0 0) G' ∧ G' 14 2 = 0 ∧ own_To p e below T' (mkF m 124 #[.val (.int p0), .val (.int p1), .val (.int p2), .val (.int p3), .val (.int p4), .val (.int vb), .val (.int vd), .val (.int vm), .val (.int vr), .val (.int vc), .val (.int ve), .val (.int vn), .val (.int (p2 &&& (3 : Int32))), .val (.ref b22), .val (.ref b23), .unset, .unset, .unset, .unset, .unset, .unset, .unset, .unset] []) s₁ (mkF m 0 #[.val (.int p0), .val (.int p1), .val (.int p2), .val (.int p3), .val (.int p4), .unset, .unset, .unset, .unset, .unset, .unset, .unset, .unset, .unset, .unset, .unset, .unset, .unset, .unset, .unset, .unset, .unset, .unset] []) := by
    by_cases hf : vb = (0 : Int32)
    ·
      have k30 : own_To p e below T26 (mkF m 124 #[.val (.int p0), .val (.int p1), .val (.int p2), .val (.int p3), .val (.int p4), .val (.int vb), .val (.int vd), .val (.int vm), .val (.int vr), .val (.int vc), .val (.int ve), .val (.int vn), .val (.int (p2 &&& (3 : Int32))), .val (.ref b22), .val (.ref b23), .unset, .unset, .unset, .unset, .unset, .unset, .unset, .unset] []) s₁ (mkF m 0 #[.val (.int p0), .val (.int p1), .val (.int p2), .val (.int p3), .val (.int p4), .unset, .unset, .unset, .unset, .unset, .unset, .unset, .unset, .unset, .unset, .unset, .unset, .unset, .unset, .unset, .unset, .unset, .unset] []) := fun t q => k28 t (by
        refine XS.ifYes X26.here hx rfl (pc0 := 115) (pc' := 124) rfl (hb hby at_115) rfl ((if0 _ _).trans (teq hf).1) (by decide) (by decide) ?_
        show Steps p.tables e below (T26.setTop (mkF m 124 #[.val (.int p0), .val (.int p1), .val (.int p2), .val (.int p3), .val (.int p4), .val (.int vb), .val (.int vd), .val (.int vm), .val (.int vr), .val (.int vc), .val (.int ve), .val (.int vn), .val (.int (p2 &&& (3 : Int32))), .val (.ref b22), .val (.ref b23), .unset, .unset, .unset, .unset, .unset, .unset, .unset, .unset] [])) _
        exact q)
      have HWx : own_W Z T26.heap b23 A (own_I vb 0 0 0 0) (fun _ _ => 0) := by rw [hf]; exact HWi26
      exact ⟨_, _, _, _, X26, rfl, N26, Keep.refl _ _, HWx, rfl, k30⟩
    ·
      have hf1 : vb = 1 := h_vb.resolve_left hf
      have Zs32 : n0 ≤ T26.heap.size := (Nat.le_trans Zs27 K26.1)
      obtain ⟨cq31, kq31, q31a, q31b, q31c⟩ := isOf hZ rfl HWi26.1
      obtain ⟨_, _, ⟨T31, L31, kk31, n31⟩, -, X31, ⟨Lc31, hQ31, l31, y31, z31⟩, st31⟩ := X26.virtualBack hx (y := (⟨"com/example/hornloom/hornloom/engine/WaitList", "addBuiltin", "(I)V"⟩ : MethodName)) (z := (⟨"com/example/hornloom/hornloom/engine/WaitList", "addBuiltin", "(I)V"⟩ : MethodName)) hown (mvT hZ (hw _ (List.mem_of_getElem? (i := 92) rfl))) (mvT hZ (hw _ (List.mem_of_getElem? (i := 93) rfl))) (notFace_of_selects (args := #[]) (mvT hZ (hw _ (List.mem_of_getElem? (i := 95) rfl)))) (mvT hZ (hw _ (List.mem_of_getElem? (i := 95) rfl))) (mvT hZ (hw _ (List.mem_of_getElem? (i := 94) rfl))) (by decide) (backOf (W := 0) (rmab l Z a0 hw [] b23 (0 : Int32) A (own_I 0 0 0 0 0) (fun _ _ => 0) T26.heap n0 Zs32 HWi26 HD (show ¬ (0 : Int32) < 0 ∧ (0 : Int32) < 4 from ⟨by decide, by decide⟩)) hZ (hw _ (List.mem_of_getElem? (i := 96) rfl)) (hw _ (List.mem_of_getElem? (i := 3) rfl)) (by decide) (by decide)) q31a q31c (g := (mkF m 121 #[.val (.int p0), .val (.int p1), .val (.int p2), .val (.int p3), .val (.int p4), .val (.int vb), .val (.int vd), .val (.int vm), .val (.int vr), .val (.int vc), .val (.int ve), .val (.int vn), .val (.int (p2 &&& (3 : Int32))), .val (.ref b22), .val (.ref b23), .unset, .unset, .unset, .unset, .unset, .unset, .unset, .unset] [(.int (0 : Int32)), (.ref b23)])) rfl (by rw [hml]; rfl) (Steps.refl _) (argsL := [(.int (0 : Int32))]) (rest := []) (lenOf own_pd4 rfl) rfl (by show 2 * 0 + _ ≤ _; exact Nat.le_of_eq rfl) (hb hby at_121) (fun _ _ => ⟨rfl, rfl, (by decide : 22 + 0 ≤ _), (by decide : 156 + 0 ≤ _)⟩)
      dsimp only [Pt.U, Pt.locs, Pt.cells, Pt.slots] at X31 l31 y31 z31 st31 hQ31
      subst l31 y31 z31
      obtain ⟨rfl, N31q, K31, HW31⟩ := hQ31
      have N31 := Fr.app N26 N31q
      have k33 : own_To p e below T31 (mkF m 124 #[.val (.int p0), .val (.int p1), .val (.int p2), .val (.int p3), .val (.int p4), .val (.int vb), .val (.int vd), .val (.int vm), .val (.int vr), .val (.int vc), .val (.int ve), .val (.int vn), .val (.int (p2 &&& (3 : Int32))), .val (.ref b22), .val (.ref b23), .unset, .unset, .unset, .unset, .unset, .unset, .unset, .unset] []) s₁ (mkF m 0 #[.val (.int p0), .val (.int p1), .val (.int p2), .val (.int p3), .val (.int p4), .unset, .unset, .unset, .unset, .unset, .unset, .unset, .unset, .unset, .unset, .unset, .unset, .unset, .unset, .unset, .unset, .unset, .unset] []) := fun t q => k28 t (by
        refine XS.ifNo X26.here hx rfl (hb hby at_115) rfl ((if0 _ _).trans (feq hf).1) ?_
        show Steps p.tables e below (T26.setTop (mkF m 118 #[.val (.int p0), .val (.int p1), .val (.int p2), .val (.int p3), .val (.int p4), .val (.int vb), .val (.int vd), .val (.int vm), .val (.int vr), .val (.int vc), .val (.int ve), .val (.int vn), .val (.int (p2 &&& (3 : Int32))), .val (.ref b22), .val (.ref b23), .unset, .unset, .unset, .unset, .unset, .unset, .unset, .unset] [])) _
        refine XS.aload X26.here hx rfl (hb hby at_118) rfl rfl ?_
        show Steps p.tables e below (T26.setTop (mkF m 120 #[.val (.int p0), .val (.int p1), .val (.int p2), .val (.int p3), .val (.int p4), .val (.int vb), .val (.int vd), .val (.int vm), .val (.int vr), .val (.int vc), .val (.int ve), .val (.int vn), .val (.int (p2 &&& (3 : Int32))), .val (.ref b22), .val (.ref b23), .unset, .unset, .unset, .unset, .unset, .unset, .unset, .unset] [(.ref b23)])) _
        refine XS.iconst X26.here hx rfl (hb hby at_120) ?_
        show Steps p.tables e below (T26.setTop (mkF m 121 #[.val (.int p0), .val (.int p1), .val (.int p2), .val (.int p3), .val (.int p4), .val (.int vb), .val (.int vd), .val (.int vm), .val (.int vr), .val (.int vc), .val (.int ve), .val (.int vn), .val (.int (p2 &&& (3 : Int32))), .val (.ref b22), .val (.ref b23), .unset, .unset, .unset, .unset, .unset, .unset, .unset, .unset] [(.int (0 : Int32)), (.ref b23)])) _
        refine st31.trans ?_
        show Steps p.tables e below (T31.setTop (mkF m 124 #[.val (.int p0), .val (.int p1), .val (.int p2), .val (.int p3), .val (.int p4), .val (.int vb), .val (.int vd), .val (.int vm), .val (.int vr), .val (.int vc), .val (.int ve), .val (.int vn), .val (.int (p2 &&& (3 : Int32))), .val (.ref b22), .val (.ref b23), .unset, .unset, .unset, .unset, .unset, .unset, .unset, .unset] [])) _
        exact q)
      have HWx : own_W Z T31.heap b23 A (own_I vb 0 0 0 0) (own_g (fun _ _ => 0) 1 (((own_I 0 0 0 0 0) 0)).toNatClampNeg (0 : Int32)) := by rw [hf1, ← own_I0 0 0 0 0 0 1]; exact HW31
      exact ⟨_, _, _, _, X31, rfl, N31, K31, HWx, rfl, k33⟩
  have k34 : own_To p e below T29 (mkF m 126 #[.val (.int p0), .val (.int p1), .val (.int p2), .val (.int p3), .val (.int p4), .val (.int vb), .val (.int vd), .val (.int vm), .val (.int vr), .val (.int vc), .val (.int ve), .val (.int vn), .val (.int (p2 &&& (3 : Int32))), .val (.ref b22), .val (.ref b23), .unset, .unset, .unset, .unset, .unset, .unset, .unset, .unset] [(.int vd)]) s₁ (mkF m 0 #[.val (.int p0), .val (.int p1), .val (.int p2), .val (.int p3), .val (.int p4), .unset, .unset, .unset, .unset, .unset, .unset, .unset, .unset, .unset, .unset, .unset, .unset, .unset, .unset, .unset, .unset, .unset, .unset] []) := fun t q => k29 t (by
    refine XS.iload X29.here hx rfl (hb hby at_124) rfl ?_
    show Steps p.tables e below (T29.setTop (mkF m 126 #[.val (.int p0), .val (.int p1), .val (.int p2), .val (.int p3), .val (.int p4), .val (.int vb), .val (.int vd), .val (.int vm), .val (.int vr), .val (.int vc), .val (.int ve), .val (.int vn), .val (.int (p2 &&& (3 : Int32))), .val (.ref b22), .val (.ref b23), .unset, .unset, .unset, .unset, .unset, .unset, .unset, .unset] [(.int vd)])) _
    exact q)
  obtain ⟨T35, L35, h35, G35, X35, e35, N35, K35, HW35, HP35, k35⟩ : ∃ (T' : State) (L' : List Loc) (h' : Heap) (G' : Nat → Nat → Int32), Stand p l e room_1 s m #[(.int p0), (.int p1), (.int p2), (.int p3), (.int p4)] below meth c T' L' 22 156 ∧ T'.heap = h' ∧ Fr n0 L' ∧ Keep h29 h' [b23, (A 0), (A 1), (A 2), (A 3), (A 4), (A 5), (A 6), (A 7), (A 8), (A 9), (A 10), (A 11), (A 12), (A 13), (A 14), (A 15)] ∧ own_W Z h' b23 A (own_I vb vd 0 0 0) G' ∧ own_P1 vd G' ∧ own_To p e below T' (mkF m 137 #[.val (.int p0), .val (.int p1), .val (.int p2), .val (.int p3), .val (.int p4), .val (.int vb), .val (.int vd), .val (.int vm), .val (.int vr), .val (.int vc), .val (.int ve), .val (.int vn), .val (.int (p2 &&& (3 : Int32))), .val (.ref b22), .val (.ref b23), .unset, .unset, .unset, .unset, .unset, .unset, .unset, .unset] []) s₁ (mkF m 0 #[.val (.int p0), .val (.int p1), .val (.int p2), .val (.int p3), .val (.int p4), .unset, .unset, .unset, .unset, .unset, .unset, .unset, .unset, .unset, .unset, .unset, .unset, .unset, .unset, .unset, .unset, .unset, .unset] []) := by
    by_cases hf : vd = (0 : Int32)
    ·
      have k36 : own_To p e below T29 (mkF m 137 #[.val (.int p0), .val (.int p1), .val (.int p2), .val (.int p3), .val (.int p4), .val (.int vb), .val (.int vd), .val (.int vm), .val (.int vr), .val (.int vc), .val (.int ve), .val (.int vn), .val (.int (p2 &&& (3 : Int32))), .val (.ref b22), .val (.ref b23), .unset, .unset, .unset, .unset, .unset, .unset, .unset, .unset] []) s₁ (mkF m 0 #[.val (.int p0), .val (.int p1), .val (.int p2), .val (.int p3), .val (.int p4), .unset, .unset, .unset, .unset, .unset, .unset, .unset, .unset, .unset, .unset, .unset, .unset, .unset, .unset, .unset, .unset, .unset, .unset] []) := fun t q => k34 t (by
        refine XS.ifYes X29.here hx rfl (pc0 := 126) (pc' := 137) rfl (hb hby at_126) rfl ((if0 _ _).trans (teq hf).1) (by decide) (by decide) ?_
        show Steps p.tables e below (T29.setTop (mkF m 137 #[.val (.int p0), .val (.int p1), .val (.int p2), .val (.int p3), .val (.int p4), .val (.int vb), .val (.int vd), .val (.int vm), .val (.int vr), .val (.int vc), .val (.int ve), .val (.int vn), .val (.int (p2 &&& (3 : Int32))), .val (.ref b22), .val (.ref b23), .unset, .unset, .unset, .unset, .unset, .unset, .unset, .unset] [])) _
        exact q)
      have HWx : own_W Z h29 b23 A (own_I vb vd 0 0 0) G29 := by rw [hf]; exact HW29
      exact ⟨_, _, _, _, X29, e29, N29, Keep.refl _ _, HWx, ⟨fun q => absurd (hf.symm.trans q) (by decide), HP29⟩, k36⟩
    ·
      have hf1 : vd = 1 := h_vd.resolve_left hf
      have Zs38 : n0 ≤ h29.size := (Nat.le_trans (Nat.le_trans Zs27 K26.1) K29.1)
      have F39 := (((EA22.ext E23).keep K26).keep K29)
      obtain ⟨cq37, kq37, q37a, q37b, q37c⟩ := isOf hZ e29 HW29.1
      obtain ⟨_, _, ⟨T37, L37, kk37, n37⟩, -, X37, ⟨Lc37, hQ37, l37, y37, z37⟩, st37⟩ := X29.virtualBack hx (y := (⟨"com/example/hornloom/hornloom/engine/WaitList", "addDisjunction", "(I[I)V"⟩ : MethodName)) (z := (⟨"com/example/hornloom/hornloom/engine/WaitList", "addDisjunction", "(I[I)V"⟩ : MethodName)) hown (mvT hZ (hw _ (List.mem_of_getElem? (i := 97) rfl))) (mvT hZ (hw _ (List.mem_of_getElem? (i := 98) rfl))) (notFace_of_selects (args := #[]) (mvT hZ (hw _ (List.mem_of_getElem? (i := 100) rfl)))) (mvT hZ (hw _ (List.mem_of_getElem? (i := 100) rfl))) (mvT hZ (hw _ (List.mem_of_getElem? (i := 99) rfl))) (by decide) (backOf (W := 0) (rmad l Z a0 hw [] b23 (2 : Int32) b22 A (own_I vb 0 0 0 0) G29 h29 n0 Zs38 HW29 HD (show ¬ (0 : Int32) < 0 ∧ (0 : Int32) < 4 from ⟨by decide, by decide⟩) ⟨by decide, by decide⟩ F39) hZ (hw _ (List.mem_of_getElem? (i := 101) rfl)) (hw _ (List.mem_of_getElem? (i := 3) rfl)) (by decide) (by decide)) q37a q37c (g := (mkF m 134 #[.val (.int p0), .val (.int p1), .val (.int p2), .val (.int p3), .val (.int p4), .val (.int vb), .val (.int vd), .val (.int vm), .val (.int vr), .val (.int vc), .val (.int ve), .val (.int vn), .val (.int (p2 &&& (3 : Int32))), .val (.ref b22), .val (.ref b23), .unset, .unset, .unset, .unset, .unset, .unset, .unset, .unset] [(.ref b22), (.int (2 : Int32)), (.ref b23)])) rfl (by rw [hml]; rfl) (Steps.refl _) (argsL := [(.int (2 : Int32)), (.ref b22)]) (rest := []) (lenOf own_pd6 rfl) rfl (by show 2 * 0 + _ ≤ _; exact Nat.le_of_eq rfl) (hb hby at_134) (fun _ _ => ⟨rfl, e29, (by decide : 22 + 0 ≤ _), (by decide : 156 + 0 ≤ _)⟩)
      dsimp only [Pt.U, Pt.locs, Pt.cells, Pt.slots] at X37 l37 y37 z37 st37 hQ37
      subst l37 y37 z37
      obtain ⟨rfl, N37q, K37, HW37⟩ := hQ37
      have N37 := Fr.app N29 N37q
      have k40 : own_To p e below T37 (mkF m 137 #[.val (.int p0), .val (.int p1), .val (.int p2), .val (.int p3), .val (.int p4), .val (.int vb), .val (.int vd), .val (.int vm), .val (.int vr), .val (.int vc), .val (.int ve), .val (.int vn), .val (.int (p2 &&& (3 : Int32))), .val (.ref b22), .val (.ref b23), .unset, .unset, .unset, .unset, .unset, .unset, .unset, .unset] []) s₁ (mkF m 0 #[.val (.int p0), .val (.int p1), .val (.int p2), .val (.int p3), .val (.int p4), .unset, .unset, .unset, .unset, .unset, .unset, .unset, .unset, .unset, .unset, .unset, .unset, .unset, .unset, .unset, .unset, .unset, .unset] []) := fun t q => k34 t (by
        refine XS.ifNo X29.here hx rfl (hb hby at_126) rfl ((if0 _ _).trans (feq hf).1) ?_
        show Steps p.tables e below (T29.setTop (mkF m 129 #[.val (.int p0), .val (.int p1), .val (.int p2), .val (.int p3), .val (.int p4), .val (.int vb), .val (.int vd), .val (.int vm), .val (.int vr), .val (.int vc), .val (.int ve), .val (.int vn), .val (.int (p2 &&& (3 : Int32))), .val (.ref b22), .val (.ref b23), .unset, .unset, .unset, .unset, .unset, .unset, .unset, .unset] [])) _
        refine XS.aload X29.here hx rfl (hb hby at_129) rfl rfl ?_
        show Steps p.tables e below (T29.setTop (mkF m 131 #[.val (.int p0), .val (.int p1), .val (.int p2), .val (.int p3), .val (.int p4), .val (.int vb), .val (.int vd), .val (.int vm), .val (.int vr), .val (.int vc), .val (.int ve), .val (.int vn), .val (.int (p2 &&& (3 : Int32))), .val (.ref b22), .val (.ref b23), .unset, .unset, .unset, .unset, .unset, .unset, .unset, .unset] [(.ref b23)])) _
        refine XS.iconst X29.here hx rfl (hb hby at_131) ?_
        show Steps p.tables e below (T29.setTop (mkF m 132 #[.val (.int p0), .val (.int p1), .val (.int p2), .val (.int p3), .val (.int p4), .val (.int vb), .val (.int vd), .val (.int vm), .val (.int vr), .val (.int vc), .val (.int ve), .val (.int vn), .val (.int (p2 &&& (3 : Int32))), .val (.ref b22), .val (.ref b23), .unset, .unset, .unset, .unset, .unset, .unset, .unset, .unset] [(.int (2 : Int32)), (.ref b23)])) _
        refine XS.aload X29.here hx rfl (hb hby at_132) rfl rfl ?_
        show Steps p.tables e below (T29.setTop (mkF m 134 #[.val (.int p0), .val (.int p1), .val (.int p2), .val (.int p3), .val (.int p4), .val (.int vb), .val (.int vd), .val (.int vm), .val (.int vr), .val (.int vc), .val (.int ve), .val (.int vn), .val (.int (p2 &&& (3 : Int32))), .val (.ref b22), .val (.ref b23), .unset, .unset, .unset, .unset, .unset, .unset, .unset, .unset] [(.ref b22), (.int (2 : Int32)), (.ref b23)])) _
        refine st37.trans ?_
        show Steps p.tables e below (T37.setTop (mkF m 137 #[.val (.int p0), .val (.int p1), .val (.int p2), .val (.int p3), .val (.int p4), .val (.int vb), .val (.int vd), .val (.int vm), .val (.int vr), .val (.int vc), .val (.int ve), .val (.int vn), .val (.int (p2 &&& (3 : Int32))), .val (.ref b22), .val (.ref b23), .unset, .unset, .unset, .unset, .unset, .unset, .unset, .unset] [])) _
        exact q)
      have HWx : own_W Z T37.heap b23 A (own_I vb vd 0 0 0) (own_g G29 2 (((own_I vb 0 0 0 0) 1)).toNatClampNeg (2 : Int32)) := by rw [hf1, ← own_I1 vb 0 0 0 0 1]; exact HW37
      exact ⟨_, _, _, _, X37, rfl, N37, K37, HWx, ⟨fun _ => rfl, HP29⟩, k40⟩
  have k41 : own_To p e below T35 (mkF m 139 #[.val (.int p0), .val (.int p1), .val (.int p2), .val (.int p3), .val (.int p4), .val (.int vb), .val (.int vd), .val (.int vm), .val (.int vr), .val (.int vc), .val (.int ve), .val (.int vn), .val (.int (p2 &&& (3 : Int32))), .val (.ref b22), .val (.ref b23), .unset, .unset, .unset, .unset, .unset, .unset, .unset, .unset] [(.int vm)]) s₁ (mkF m 0 #[.val (.int p0), .val (.int p1), .val (.int p2), .val (.int p3), .val (.int p4), .unset, .unset, .unset, .unset, .unset, .unset, .unset, .unset, .unset, .unset, .unset, .unset, .unset, .unset, .unset, .unset, .unset, .unset] []) := fun t q => k35 t (by
    refine XS.iload X35.here hx rfl (hb hby at_137) rfl ?_
    show Steps p.tables e below (T35.setTop (mkF m 139 #[.val (.int p0), .val (.int p1), .val (.int p2), .val (.int p3), .val (.int p4), .val (.int vb), .val (.int vd), .val (.int vm), .val (.int vr), .val (.int vc), .val (.int ve), .val (.int vn), .val (.int (p2 &&& (3 : Int32))), .val (.ref b22), .val (.ref b23), .unset, .unset, .unset, .unset, .unset, .unset, .unset, .unset] [(.int vm)])) _
    exact q)
  obtain ⟨T42, L42, h42, G42, X42, e42, N42, K42, HW42, HP42, k42⟩ : ∃ (T' : State) (L' : List Loc) (h' : Heap) (G' : Nat → Nat → Int32), Stand p l e room_1 s m #[(.int p0), (.int p1), (.int p2), (.int p3), (.int p4)] below meth c T' L' 22 156 ∧ T'.heap = h' ∧ Fr n0 L' ∧ Keep h35 h' [b23, (A 0), (A 1), (A 2), (A 3), (A 4), (A 5), (A 6), (A 7), (A 8), (A 9), (A 10), (A 11), (A 12), (A 13), (A 14), (A 15)] ∧ own_W Z h' b23 A (own_I vb vd 0 vm 0) G' ∧ own_P1 vd G' ∧ own_To p e below T' (mkF m 148 #[.val (.int p0), .val (.int p1), .val (.int p2), .val (.int p3), .val (.int p4), .val (.int vb), .val (.int vd), .val (.int vm), .val (.int vr), .val (.int vc), .val (.int ve), .val (.int vn), .val (.int (p2 &&& (3 : Int32))), .val (.ref b22), .val (.ref b23), .unset, .unset, .unset, .unset, .unset, .unset, .unset, .unset] []) s₁ (mkF m 0 #[.val (.int p0), .val (.int p1), .val (.int p2), .val (.int p3), .val (.int p4), .unset, .unset, .unset, .unset, .unset, .unset, .unset, .unset, .unset, .unset, .unset, .unset, .unset, .unset, .unset, .unset, .unset, .unset] []) := by
    by_cases hf : vm = (0 : Int32)
    ·
      have k43 : own_To p e below T35 (mkF m 148 #[.val (.int p0), .val (.int p1), .val (.int p2), .val (.int p3), .val (.int p4), .val (.int vb), .val (.int vd), .val (.int vm), .val (.int vr), .val (.int vc), .val (.int ve), .val (.int vn), .val (.int (p2 &&& (3 : Int32))), .val (.ref b22), .val (.ref b23), .unset, .unset, .unset, .unset, .unset, .unset, .unset, .unset] []) s₁ (mkF m 0 #[.val (.int p0), .val (.int p1), .val (.int p2), .val (.int p3), .val (.int p4), .unset, .unset, .unset, .unset, .unset, .unset, .unset, .unset, .unset, .unset, .unset, .unset, .unset, .unset, .unset, .unset, .unset, .unset] []) := fun t q => k41 t (by
        refine XS.ifYes X35.here hx rfl (pc0 := 139) (pc' := 148) rfl (hb hby at_139) rfl ((if0 _ _).trans (teq hf).1) (by decide) (by decide) ?_
        show Steps p.tables e below (T35.setTop (mkF m 148 #[.val (.int p0), .val (.int p1), .val (.int p2), .val (.int p3), .val (.int p4), .val (.int vb), .val (.int vd), .val (.int vm), .val (.int vr), .val (.int vc), .val (.int ve), .val (.int vn), .val (.int (p2 &&& (3 : Int32))), .val (.ref b22), .val (.ref b23), .unset, .unset, .unset, .unset, .unset, .unset, .unset, .unset] [])) _
        exact q)
      have HWx : own_W Z h35 b23 A (own_I vb vd 0 vm 0) G35 := by rw [hf]; exact HW35
      exact ⟨_, _, _, _, X35, e35, N35, Keep.refl _ _, HWx, HP35, k43⟩
    ·
      have hf1 : vm = 1 := h_vm.resolve_left hf
      have Zs45 : n0 ≤ h35.size := (Nat.le_trans (Nat.le_trans (Nat.le_trans Zs27 K26.1) K29.1) K35.1)
      obtain ⟨cq44, kq44, q44a, q44b, q44c⟩ := isOf hZ e35 HW35.1
      obtain ⟨_, _, ⟨T44, L44, kk44, n44⟩, -, X44, ⟨Lc44, hQ44, l44, y44, z44⟩, st44⟩ := X35.virtualBack hx (y := (⟨"com/example/hornloom/hornloom/engine/WaitList", "markMatched", "(I)V"⟩ : MethodName)) (z := (⟨"com/example/hornloom/hornloom/engine/WaitList", "markMatched", "(I)V"⟩ : MethodName)) hown (mvT hZ (hw _ (List.mem_of_getElem? (i := 128) rfl))) (mvT hZ (hw _ (List.mem_of_getElem? (i := 129) rfl))) (notFace_of_selects (args := #[]) (mvT hZ (hw _ (List.mem_of_getElem? (i := 131) rfl)))) (mvT hZ (hw _ (List.mem_of_getElem? (i := 131) rfl))) (mvT hZ (hw _ (List.mem_of_getElem? (i := 130) rfl))) (by decide) (backOf (W := 0) (rmmm l Z a0 hw [] b23 (3 : Int32) A (own_I vb vd 0 0 0) G35 h35 n0 Zs45 HW35 HD (show ¬ (0 : Int32) < 0 ∧ (0 : Int32) < 4 from ⟨by decide, by decide⟩) ⟨by decide, by decide⟩) hZ (hw _ (List.mem_of_getElem? (i := 132) rfl)) (hw _ (List.mem_of_getElem? (i := 3) rfl)) (by decide) (by decide)) q44a q44c (g := (mkF m 145 #[.val (.int p0), .val (.int p1), .val (.int p2), .val (.int p3), .val (.int p4), .val (.int vb), .val (.int vd), .val (.int vm), .val (.int vr), .val (.int vc), .val (.int ve), .val (.int vn), .val (.int (p2 &&& (3 : Int32))), .val (.ref b22), .val (.ref b23), .unset, .unset, .unset, .unset, .unset, .unset, .unset, .unset] [(.int (3 : Int32)), (.ref b23)])) rfl (by rw [hml]; rfl) (Steps.refl _) (argsL := [(.int (3 : Int32))]) (rest := []) (lenOf own_pd4 rfl) rfl (by show 2 * 0 + _ ≤ _; exact Nat.le_of_eq rfl) (hb hby at_145) (fun _ _ => ⟨rfl, e35, (by decide : 22 + 0 ≤ _), (by decide : 156 + 0 ≤ _)⟩)
      dsimp only [Pt.U, Pt.locs, Pt.cells, Pt.slots] at X44 l44 y44 z44 st44 hQ44
      subst l44 y44 z44
      obtain ⟨rfl, N44q, K44, HW44⟩ := hQ44
      have N44 := Fr.app N35 N44q
      have k46 : own_To p e below T44 (mkF m 148 #[.val (.int p0), .val (.int p1), .val (.int p2), .val (.int p3), .val (.int p4), .val (.int vb), .val (.int vd), .val (.int vm), .val (.int vr), .val (.int vc), .val (.int ve), .val (.int vn), .val (.int (p2 &&& (3 : Int32))), .val (.ref b22), .val (.ref b23), .unset, .unset, .unset, .unset, .unset, .unset, .unset, .unset] []) s₁ (mkF m 0 #[.val (.int p0), .val (.int p1), .val (.int p2), .val (.int p3), .val (.int p4), .unset, .unset, .unset, .unset, .unset, .unset, .unset, .unset, .unset, .unset, .unset, .unset, .unset, .unset, .unset, .unset, .unset, .unset] []) := fun t q => k41 t (by
        refine XS.ifNo X35.here hx rfl (hb hby at_139) rfl ((if0 _ _).trans (feq hf).1) ?_
        show Steps p.tables e below (T35.setTop (mkF m 142 #[.val (.int p0), .val (.int p1), .val (.int p2), .val (.int p3), .val (.int p4), .val (.int vb), .val (.int vd), .val (.int vm), .val (.int vr), .val (.int vc), .val (.int ve), .val (.int vn), .val (.int (p2 &&& (3 : Int32))), .val (.ref b22), .val (.ref b23), .unset, .unset, .unset, .unset, .unset, .unset, .unset, .unset] [])) _
        refine XS.aload X35.here hx rfl (hb hby at_142) rfl rfl ?_
        show Steps p.tables e below (T35.setTop (mkF m 144 #[.val (.int p0), .val (.int p1), .val (.int p2), .val (.int p3), .val (.int p4), .val (.int vb), .val (.int vd), .val (.int vm), .val (.int vr), .val (.int vc), .val (.int ve), .val (.int vn), .val (.int (p2 &&& (3 : Int32))), .val (.ref b22), .val (.ref b23), .unset, .unset, .unset, .unset, .unset, .unset, .unset, .unset] [(.ref b23)])) _
        refine XS.iconst X35.here hx rfl (hb hby at_144) ?_
        show Steps p.tables e below (T35.setTop (mkF m 145 #[.val (.int p0), .val (.int p1), .val (.int p2), .val (.int p3), .val (.int p4), .val (.int vb), .val (.int vd), .val (.int vm), .val (.int vr), .val (.int vc), .val (.int ve), .val (.int vn), .val (.int (p2 &&& (3 : Int32))), .val (.ref b22), .val (.ref b23), .unset, .unset, .unset, .unset, .unset, .unset, .unset, .unset] [(.int (3 : Int32)), (.ref b23)])) _
        refine st44.trans ?_
        show Steps p.tables e below (T44.setTop (mkF m 148 #[.val (.int p0), .val (.int p1), .val (.int p2), .val (.int p3), .val (.int p4), .val (.int vb), .val (.int vd), .val (.int vm), .val (.int vr), .val (.int vc), .val (.int ve), .val (.int vn), .val (.int (p2 &&& (3 : Int32))), .val (.ref b22), .val (.ref b23), .unset, .unset, .unset, .unset, .unset, .unset, .unset, .unset] [])) _
        exact q)
      have HWx : own_W Z T44.heap b23 A (own_I vb vd 0 vm 0) (own_g (own_g G35 14 ((3 : Int32)).toNatClampNeg (nar .boolean (1 : Int32))) 3 (((own_I vb vd 0 0 0) 7)).toNatClampNeg (3 : Int32)) := by rw [hf1, ← own_I7 vb vd 0 0 0 1]; exact HW44
      exact ⟨_, _, _, _, X44, rfl, N44, K44, HWx, HP35, k46⟩
  have k47 : own_To p e below T42 (mkF m 150 #[.val (.int p0), .val (.int p1), .val (.int p2), .val (.int p3), .val (.int p4), .val (.int vb), .val (.int vd), .val (.int vm), .val (.int vr), .val (.int vc), .val (.int ve), .val (.int vn), .val (.int (p2 &&& (3 : Int32))), .val (.ref b22), .val (.ref b23), .unset, .unset, .unset, .unset, .unset, .unset, .unset, .unset] [(.int vr)]) s₁ (mkF m 0 #[.val (.int p0), .val (.int p1), .val (.int p2), .val (.int p3), .val (.int p4), .unset, .unset, .unset, .unset, .unset, .unset, .unset, .unset, .unset, .unset, .unset, .unset, .unset, .unset, .unset, .unset, .unset, .unset] []) := fun t q => k42 t (by
    refine XS.iload X42.here hx rfl (hb hby at_148) rfl ?_
    show Steps p.tables e below (T42.setTop (mkF m 150 #[.val (.int p0), .val (.int p1), .val (.int p2), .val (.int p3), .val (.int p4), .val (.int vb), .val (.int vd), .val (.int vm), .val (.int vr), .val (.int vc), .val (.int ve), .val (.int vn), .val (.int (p2 &&& (3 : Int32))), .val (.ref b22), .val (.ref b23), .unset, .unset, .unset, .unset, .unset, .unset, .unset, .unset] [(.int vr)])) _
    exact q)
  obtain ⟨T48, L48, h48, G48, X48, e48, N48, K48, HW48, HP48, k48⟩ : ∃ (T' : State) (L' : List Loc) (h' : Heap) (G' : Nat → Nat → Int32), Stand p l e room_1 s m #[(.int p0), (.int p1), (.int p2), (.int p3), (.int p4)] below meth c T' L' 22 156 ∧ T'.heap = h' ∧ Fr n0 L' ∧ Keep h42 h' [b23, (A 0), (A 1), (A 2), (A 3), (A 4), (A 5), (A 6), (A 7), (A 8), (A 9), (A 10), (A 11), (A 12), (A 13), (A 14), (A 15)] ∧ own_W Z h' b23 A (own_I vb vd vr vm 0) G' ∧ own_P1 vd G' ∧ own_To p e below T' (mkF m 159 #[.val (.int p0), .val (.int p1), .val (.int p2), .val (.int p3), .val (.int p4), .val (.int vb), .val (.int vd), .val (.int vm), .val (.int vr), .val (.int vc), .val (.int ve), .val (.int vn), .val (.int (p2 &&& (3 : Int32))), .val (.ref b22), .val (.ref b23), .unset, .unset, .unset, .unset, .unset, .unset, .unset, .unset] []) s₁ (mkF m 0 #[.val (.int p0), .val (.int p1), .val (.int p2), .val (.int p3), .val (.int p4), .unset, .unset, .unset, .unset, .unset, .unset, .unset, .unset, .unset, .unset, .unset, .unset, .unset, .unset, .unset, .unset, .unset, .unset] []) := by
    by_cases hf : vr = (0 : Int32)
    ·
      have k49 : own_To p e below T42 (mkF m 159 #[.val (.int p0), .val (.int p1), .val (.int p2), .val (.int p3), .val (.int p4), .val (.int vb), .val (.int vd), .val (.int vm), .val (.int vr), .val (.int vc), .val (.int ve), .val (.int vn), .val (.int (p2 &&& (3 : Int32))), .val (.ref b22), .val (.ref b23), .unset, .unset, .unset, .unset, .unset, .unset, .unset, .unset] []) s₁ (mkF m 0 #[.val (.int p0), .val (.int p1), .val (.int p2), .val (.int p3), .val (.int p4), .unset, .unset, .unset, .unset, .unset, .unset, .unset, .unset, .unset, .unset, .unset, .unset, .unset, .unset, .unset, .unset, .unset, .unset] []) := fun t q => k47 t (by
        refine XS.ifYes X42.here hx rfl (pc0 := 150) (pc' := 159) rfl (hb hby at_150) rfl ((if0 _ _).trans (teq hf).1) (by decide) (by decide) ?_
        show Steps p.tables e below (T42.setTop (mkF m 159 #[.val (.int p0), .val (.int p1), .val (.int p2), .val (.int p3), .val (.int p4), .val (.int vb), .val (.int vd), .val (.int vm), .val (.int vr), .val (.int vc), .val (.int ve), .val (.int vn), .val (.int (p2 &&& (3 : Int32))), .val (.ref b22), .val (.ref b23), .unset, .unset, .unset, .unset, .unset, .unset, .unset, .unset] [])) _
        exact q)
      have HWx : own_W Z h42 b23 A (own_I vb vd vr vm 0) G42 := by rw [hf]; exact HW42
      exact ⟨_, _, _, _, X42, e42, N42, Keep.refl _ _, HWx, HP42, k49⟩
    ·
      have hf1 : vr = 1 := h_vr.resolve_left hf
      have Zs51 : n0 ≤ h42.size := (Nat.le_trans (Nat.le_trans (Nat.le_trans (Nat.le_trans Zs27 K26.1) K29.1) K35.1) K42.1)
      obtain ⟨cq50, kq50, q50a, q50b, q50c⟩ := isOf hZ e42 HW42.1
      obtain ⟨_, _, ⟨T50, L50, kk50, n50⟩, -, X50, ⟨Lc50, hQ50, l50, y50, z50⟩, st50⟩ := X42.virtualBack hx (y := (⟨"com/example/hornloom/hornloom/engine/WaitList", "ready", "(I)V"⟩ : MethodName)) (z := (⟨"com/example/hornloom/hornloom/engine/WaitList", "ready", "(I)V"⟩ : MethodName)) hown (mvT hZ (hw _ (List.mem_of_getElem? (i := 133) rfl))) (mvT hZ (hw _ (List.mem_of_getElem? (i := 134) rfl))) (notFace_of_selects (args := #[]) (mvT hZ (hw _ (List.mem_of_getElem? (i := 136) rfl)))) (mvT hZ (hw _ (List.mem_of_getElem? (i := 136) rfl))) (mvT hZ (hw _ (List.mem_of_getElem? (i := 135) rfl))) (by decide) (backOf (W := 0) (rmrd l Z a0 hw [] b23 (1 : Int32) A (own_I vb vd 0 vm 0) G42 h42 n0 Zs51 HW42 HD (show ¬ (0 : Int32) < 0 ∧ (0 : Int32) < 16 from ⟨by decide, by decide⟩) (show ¬ (0 : Int32) = 16 by decide)) hZ (hw _ (List.mem_of_getElem? (i := 137) rfl)) (hw _ (List.mem_of_getElem? (i := 3) rfl)) (by decide) (by decide)) q50a q50c (g := (mkF m 156 #[.val (.int p0), .val (.int p1), .val (.int p2), .val (.int p3), .val (.int p4), .val (.int vb), .val (.int vd), .val (.int vm), .val (.int vr), .val (.int vc), .val (.int ve), .val (.int vn), .val (.int (p2 &&& (3 : Int32))), .val (.ref b22), .val (.ref b23), .unset, .unset, .unset, .unset, .unset, .unset, .unset, .unset] [(.int (1 : Int32)), (.ref b23)])) rfl (by rw [hml]; rfl) (Steps.refl _) (argsL := [(.int (1 : Int32))]) (rest := []) (lenOf own_pd4 rfl) rfl (by show 2 * 0 + _ ≤ _; exact Nat.le_of_eq rfl) (hb hby at_156) (fun _ _ => ⟨rfl, e42, (by decide : 22 + 0 ≤ _), (by decide : 156 + 0 ≤ _)⟩)
      dsimp only [Pt.U, Pt.locs, Pt.cells, Pt.slots] at X50 l50 y50 z50 st50 hQ50
      subst l50 y50 z50
      obtain ⟨rfl, N50q, K50, HW50⟩ := hQ50
      have N50 := Fr.app N42 N50q
      have k52 : own_To p e below T50 (mkF m 159 #[.val (.int p0), .val (.int p1), .val (.int p2), .val (.int p3), .val (.int p4), .val (.int vb), .val (.int vd), .val (.int vm), .val (.int vr), .val (.int vc), .val (.int ve), .val (.int vn), .val (.int (p2 &&& (3 : Int32))), .val (.ref b22), .val (.ref b23), .unset, .unset, .unset, .unset, .unset, .unset, .unset, .unset] []) s₁ (mkF m 0 #[.val (.int p0), .val (.int p1), .val (.int p2), .val (.int p3), .val (.int p4), .unset, .unset, .unset, .unset, .unset, .unset, .unset, .unset, .unset, .unset, .unset, .unset, .unset, .unset, .unset, .unset, .unset, .unset] []) := fun t q => k47 t (by
        refine XS.ifNo X42.here hx rfl (hb hby at_150) rfl ((if0 _ _).trans (feq hf).1) ?_
        show Steps p.tables e below (T42.setTop (mkF m 153 #[.val (.int p0), .val (.int p1), .val (.int p2), .val (.int p3), .val (.int p4), .val (.int vb), .val (.int vd), .val (.int vm), .val (.int vr), .val (.int vc), .val (.int ve), .val (.int vn), .val (.int (p2 &&& (3 : Int32))), .val (.ref b22), .val (.ref b23), .unset, .unset, .unset, .unset, .unset, .unset, .unset, .unset] [])) _
        refine XS.aload X42.here hx rfl (hb hby at_153) rfl rfl ?_
        show Steps p.tables e below (T42.setTop (mkF m 155 #[.val (.int p0), .val (.int p1), .val (.int p2), .val (.int p3), .val (.int p4), .val (.int vb), .val (.int vd), .val (.int vm), .val (.int vr), .val (.int vc), .val (.int ve), .val (.int vn), .val (.int (p2 &&& (3 : Int32))), .val (.ref b22), .val (.ref b23), .unset, .unset, .unset, .unset, .unset, .unset, .unset, .unset] [(.ref b23)])) _
        refine XS.iconst X42.here hx rfl (hb hby at_155) ?_
        show Steps p.tables e below (T42.setTop (mkF m 156 #[.val (.int p0), .val (.int p1), .val (.int p2), .val (.int p3), .val (.int p4), .val (.int vb), .val (.int vd), .val (.int vm), .val (.int vr), .val (.int vc), .val (.int ve), .val (.int vn), .val (.int (p2 &&& (3 : Int32))), .val (.ref b22), .val (.ref b23), .unset, .unset, .unset, .unset, .unset, .unset, .unset, .unset] [(.int (1 : Int32)), (.ref b23)])) _
        refine st50.trans ?_
        show Steps p.tables e below (T50.setTop (mkF m 159 #[.val (.int p0), .val (.int p1), .val (.int p2), .val (.int p3), .val (.int p4), .val (.int vb), .val (.int vd), .val (.int vm), .val (.int vr), .val (.int vc), .val (.int ve), .val (.int vn), .val (.int (p2 &&& (3 : Int32))), .val (.ref b22), .val (.ref b23), .unset, .unset, .unset, .unset, .unset, .unset, .unset, .unset] [])) _
        exact q)
      have HWx : own_W Z T50.heap b23 A (own_I vb vd vr vm 0) (own_g G42 0 (((own_I vb vd 0 vm 0) 5)).toNatClampNeg (1 : Int32)) := by rw [hf1, ← own_I5 vb vd 0 vm 0 1]; exact HW50
      exact ⟨_, _, _, _, X50, rfl, N50, K50, HWx, HP42, k52⟩
  have Zs54 : n0 ≤ h48.size := (Nat.le_trans (Nat.le_trans (Nat.le_trans (Nat.le_trans (Nat.le_trans Zs27 K26.1) K29.1) K35.1) K42.1) K48.1)
  obtain ⟨cq53, kq53, q53a, q53b, q53c⟩ := isOf hZ e48 HW48.1
  obtain ⟨_, _, ⟨T53, L53, kk53, n53⟩, -, X53, ⟨Lc53, hQ53, l53, y53, z53⟩, st53⟩ := X48.virtualBack hx (y := (⟨"com/example/hornloom/hornloom/engine/WaitList", "trailLooked", "(I)V"⟩ : MethodName)) (z := (⟨"com/example/hornloom/hornloom/engine/WaitList", "trailLooked", "(I)V"⟩ : MethodName)) hown (mvT hZ (hw _ (List.mem_of_getElem? (i := 57) rfl))) (mvT hZ (hw _ (List.mem_of_getElem? (i := 58) rfl))) (notFace_of_selects (args := #[]) (mvT hZ (hw _ (List.mem_of_getElem? (i := 60) rfl)))) (mvT hZ (hw _ (List.mem_of_getElem? (i := 60) rfl))) (mvT hZ (hw _ (List.mem_of_getElem? (i := 59) rfl))) (by decide) (backOf (W := 0) (rmtl l Z a0 hw [] b23 p3 A (own_I vb vd vr vm 0) G48 h48 n0 Zs54 HW48 HD) hZ (hw _ (List.mem_of_getElem? (i := 61) rfl)) (hw _ (List.mem_of_getElem? (i := 3) rfl)) (by decide) (by decide)) q53a q53c (g := (mkF m 162 #[.val (.int p0), .val (.int p1), .val (.int p2), .val (.int p3), .val (.int p4), .val (.int vb), .val (.int vd), .val (.int vm), .val (.int vr), .val (.int vc), .val (.int ve), .val (.int vn), .val (.int (p2 &&& (3 : Int32))), .val (.ref b22), .val (.ref b23), .unset, .unset, .unset, .unset, .unset, .unset, .unset, .unset] [(.int p3), (.ref b23)])) rfl (by rw [hml]; rfl) (Steps.refl _) (argsL := [(.int p3)]) (rest := []) (lenOf own_pd4 rfl) rfl (by show 2 * 0 + _ ≤ _; exact Nat.le_of_eq rfl) (hb hby at_162) (fun _ _ => ⟨rfl, e48, (by decide : 22 + 0 ≤ _), (by decide : 156 + 0 ≤ _)⟩)
  dsimp only [Pt.U, Pt.locs, Pt.cells, Pt.slots] at X53 l53 y53 z53 st53 hQ53
  subst l53 y53 z53
  obtain ⟨rfl, N53q, K53, HW53⟩ := hQ53
  have N53 := Fr.app N48 N53q
  have HWt : own_W Z T53.heap b23 A (own_I vb vd vr vm p3) G48 := by rw [← own_I9 vb vd vr vm 0 p3]; exact HW53
  have Zs56 : n0 ≤ T53.heap.size := (Nat.le_trans Zs54 K53.1)
  obtain ⟨cq55, kq55, q55a, q55b, q55c⟩ := isOf hZ rfl HWt.1
  obtain ⟨_, _, ⟨T55, L55, kk55, n55⟩, -, X55, ⟨Lc55, hQ55, l55, y55, z55⟩, st55⟩ := X53.virtualBack hx (y := (⟨"com/example/hornloom/hornloom/engine/WaitList", "mark", "(I)V"⟩ : MethodName)) (z := (⟨"com/example/hornloom/hornloom/engine/WaitList", "mark", "(I)V"⟩ : MethodName)) hown (mvT hZ (hw _ (List.mem_of_getElem? (i := 64) rfl))) (mvT hZ (hw _ (List.mem_of_getElem? (i := 65) rfl))) (notFace_of_selects (args := #[]) (mvT hZ (hw _ (List.mem_of_getElem? (i := 67) rfl)))) (mvT hZ (hw _ (List.mem_of_getElem? (i := 67) rfl))) (mvT hZ (hw _ (List.mem_of_getElem? (i := 66) rfl))) (by decide) (backOf (W := 0) (rmmk l Z a0 hw [] b23 (p2 &&& (3 : Int32)) A (own_I vb vd vr vm p3) G48 T53.heap n0 Zs56 HWt HD hk4) hZ (hw _ (List.mem_of_getElem? (i := 68) rfl)) (hw _ (List.mem_of_getElem? (i := 3) rfl)) (by decide) (by decide)) q55a q55c (g := (mkF m 169 #[.val (.int p0), .val (.int p1), .val (.int p2), .val (.int p3), .val (.int p4), .val (.int vb), .val (.int vd), .val (.int vm), .val (.int vr), .val (.int vc), .val (.int ve), .val (.int vn), .val (.int (p2 &&& (3 : Int32))), .val (.ref b22), .val (.ref b23), .unset, .unset, .unset, .unset, .unset, .unset, .unset, .unset] [(.int (p2 &&& (3 : Int32))), (.ref b23)])) rfl (by rw [hml]; rfl) (Steps.refl _) (argsL := [(.int (p2 &&& (3 : Int32)))]) (rest := []) (lenOf own_pd4 rfl) rfl (by show 2 * 0 + _ ≤ _; exact Nat.le_of_eq rfl) (hb hby at_169) (fun _ _ => ⟨rfl, rfl, (by decide : 22 + 0 ≤ _), (by decide : 156 + 0 ≤ _)⟩)
  dsimp only [Pt.U, Pt.locs, Pt.cells, Pt.slots] at X55 l55 y55 z55 st55 hQ55
  subst l55 y55 z55
  obtain ⟨rfl, N55q, K55, HW55⟩ := hQ55
  have N55 := Fr.app N53 N55q
  obtain ⟨G57, hG57⟩ : ∃ G', G' = (own_g (own_g (own_g (own_g (own_g (own_g (own_g (own_g (own_g (own_g G48 4 ((p2 &&& (3 : Int32))).toNatClampNeg ((own_I vb vd vr vm p3) 0)) 5 ((p2 &&& (3 : Int32))).toNatClampNeg ((own_I vb vd vr vm p3) 1)) 6 ((p2 &&& (3 : Int32))).toNatClampNeg ((own_I vb vd vr vm p3) 2)) 7 ((p2 &&& (3 : Int32))).toNatClampNeg ((own_I vb vd vr vm p3) 3)) 8 ((p2 &&& (3 : Int32))).toNatClampNeg ((own_I vb vd vr vm p3) 4)) 9 ((p2 &&& (3 : Int32))).toNatClampNeg ((own_I vb vd vr vm p3) 5)) 10 ((p2 &&& (3 : Int32))).toNatClampNeg ((own_I vb vd vr vm p3) 6)) 11 ((p2 &&& (3 : Int32))).toNatClampNeg ((own_I vb vd vr vm p3) 7)) 12 ((p2 &&& (3 : Int32))).toNatClampNeg ((own_I vb vd vr vm p3) 8)) 13 ((p2 &&& (3 : Int32))).toNatClampNeg ((own_I vb vd vr vm p3) 9)) := ⟨_, rfl⟩
  have HP57 : own_P2 vb vd vr vm p3 ((p2 &&& (3 : Int32))).toNatClampNeg G57 := by
    rw [hG57]
    exact ⟨HP48, fun i hi => match i, hi with | 0, _ => by simp [own_g] | 1, _ => by simp [own_g] | 2, _ => by simp [own_g] | 3, _ => by simp [own_g] | 4, _ => by simp [own_g] | 5, _ => by simp [own_g] | 6, _ => by simp [own_g] | 7, _ => by simp [own_g] | 8, _ => by simp [own_g] | 9, _ => by simp [own_g] | n + 10, hi => absurd hi (by omega)⟩
  rw [← hG57] at HW55
  have Zs59 : n0 ≤ T55.heap.size := (Nat.le_trans Zs56 K55.1)
  obtain ⟨cq58, kq58, q58a, q58b, q58c⟩ := isOf hZ rfl HW55.1
  obtain ⟨_, _, ⟨T58, L58, kk58, n58⟩, -, X58, ⟨Lc58, hQ58, l58, y58, z58⟩, st58⟩ := X55.virtualBack hx (y := (⟨"com/example/hornloom/hornloom/engine/WaitList", "readyMark", "(I)I"⟩ : MethodName)) (z := (⟨"com/example/hornloom/hornloom/engine/WaitList", "readyMark", "(I)I"⟩ : MethodName)) hown (mvT hZ (hw _ (List.mem_of_getElem? (i := 87) rfl))) (mvT hZ (hw _ (List.mem_of_getElem? (i := 88) rfl))) (notFace_of_selects (args := #[]) (mvT hZ (hw _ (List.mem_of_getElem? (i := 90) rfl)))) (mvT hZ (hw _ (List.mem_of_getElem? (i := 90) rfl))) (mvT hZ (hw _ (List.mem_of_getElem? (i := 89) rfl))) (by decide) (backOf (W := 0) (rmrmk l Z a0 hw [] b23 (p2 &&& (3 : Int32)) A (own_I vb vd vr vm p3) G57 T55.heap n0 Zs59 HW55 HD hk4) hZ (hw _ (List.mem_of_getElem? (i := 91) rfl)) (hw _ (List.mem_of_getElem? (i := 3) rfl)) (by decide) (by decide)) q58a q58c (g := (mkF m 176 #[.val (.int p0), .val (.int p1), .val (.int p2), .val (.int p3), .val (.int p4), .val (.int vb), .val (.int vd), .val (.int vm), .val (.int vr), .val (.int vc), .val (.int ve), .val (.int vn), .val (.int (p2 &&& (3 : Int32))), .val (.ref b22), .val (.ref b23), .unset, .unset, .unset, .unset, .unset, .unset, .unset, .unset] [(.int (p2 &&& (3 : Int32))), (.ref b23)])) rfl (by rw [hml]; rfl) (Steps.refl _) (argsL := [(.int (p2 &&& (3 : Int32)))]) (rest := []) (lenOf own_pd3 rfl) rfl (by show 2 * 0 + _ ≤ _; exact Nat.le_of_eq rfl) (hb hby at_176) (fun _ _ => ⟨rfl, rfl, (by decide : 22 + 0 ≤ _), (by decide : 156 + 0 ≤ _)⟩)
  dsimp only [Pt.U, Pt.locs, Pt.cells, Pt.slots] at X58 l58 y58 z58 st58 hQ58
  subst l58 y58 z58
  obtain ⟨rfl, N58q, e58⟩ := hQ58
  have N58 := Fr.app N55 N58q
  have k60 : own_To p e below T58 (mkF m 181 #[.val (.int p0), .val (.int p1), .val (.int p2), .val (.int p3), .val (.int p4), .val (.int vb), .val (.int vd), .val (.int vm), .val (.int vr), .val (.int vc), .val (.int ve), .val (.int vn), .val (.int (p2 &&& (3 : Int32))), .val (.ref b22), .val (.ref b23), .unset, .unset, .unset, .unset, .unset, .unset, .unset, .unset] [(.int vr), (.int (G57 9 ((p2 &&& (3 : Int32))).toNatClampNeg))]) s₁ (mkF m 0 #[.val (.int p0), .val (.int p1), .val (.int p2), .val (.int p3), .val (.int p4), .unset, .unset, .unset, .unset, .unset, .unset, .unset, .unset, .unset, .unset, .unset, .unset, .unset, .unset, .unset, .unset, .unset, .unset] []) := fun t q => k48 t (by
    refine XS.aload X48.here hx rfl (hb hby at_159) rfl rfl ?_
    show Steps p.tables e below (T48.setTop (mkF m 161 #[.val (.int p0), .val (.int p1), .val (.int p2), .val (.int p3), .val (.int p4), .val (.int vb), .val (.int vd), .val (.int vm), .val (.int vr), .val (.int vc), .val (.int ve), .val (.int vn), .val (.int (p2 &&& (3 : Int32))), .val (.ref b22), .val (.ref b23), .unset, .unset, .unset, .unset, .unset, .unset, .unset, .unset] [(.ref b23)])) _
    refine XS.iloadN X48.here hx rfl (hb hby at_161) rfl ?_
    show Steps p.tables e below (T48.setTop (mkF m 162 #[.val (.int p0), .val (.int p1), .val (.int p2), .val (.int p3), .val (.int p4), .val (.int vb), .val (.int vd), .val (.int vm), .val (.int vr), .val (.int vc), .val (.int ve), .val (.int vn), .val (.int (p2 &&& (3 : Int32))), .val (.ref b22), .val (.ref b23), .unset, .unset, .unset, .unset, .unset, .unset, .unset, .unset] [(.int p3), (.ref b23)])) _
    refine st53.trans ?_
    show Steps p.tables e below (T53.setTop (mkF m 165 #[.val (.int p0), .val (.int p1), .val (.int p2), .val (.int p3), .val (.int p4), .val (.int vb), .val (.int vd), .val (.int vm), .val (.int vr), .val (.int vc), .val (.int ve), .val (.int vn), .val (.int (p2 &&& (3 : Int32))), .val (.ref b22), .val (.ref b23), .unset, .unset, .unset, .unset, .unset, .unset, .unset, .unset] [])) _
    refine XS.aload X53.here hx rfl (hb hby at_165) rfl rfl ?_
    show Steps p.tables e below (T53.setTop (mkF m 167 #[.val (.int p0), .val (.int p1), .val (.int p2), .val (.int p3), .val (.int p4), .val (.int vb), .val (.int vd), .val (.int vm), .val (.int vr), .val (.int vc), .val (.int ve), .val (.int vn), .val (.int (p2 &&& (3 : Int32))), .val (.ref b22), .val (.ref b23), .unset, .unset, .unset, .unset, .unset, .unset, .unset, .unset] [(.ref b23)])) _
    refine XS.iload X53.here hx rfl (hb hby at_167) rfl ?_
    show Steps p.tables e below (T53.setTop (mkF m 169 #[.val (.int p0), .val (.int p1), .val (.int p2), .val (.int p3), .val (.int p4), .val (.int vb), .val (.int vd), .val (.int vm), .val (.int vr), .val (.int vc), .val (.int ve), .val (.int vn), .val (.int (p2 &&& (3 : Int32))), .val (.ref b22), .val (.ref b23), .unset, .unset, .unset, .unset, .unset, .unset, .unset, .unset] [(.int (p2 &&& (3 : Int32))), (.ref b23)])) _
    refine st55.trans ?_
    show Steps p.tables e below (T55.setTop (mkF m 172 #[.val (.int p0), .val (.int p1), .val (.int p2), .val (.int p3), .val (.int p4), .val (.int vb), .val (.int vd), .val (.int vm), .val (.int vr), .val (.int vc), .val (.int ve), .val (.int vn), .val (.int (p2 &&& (3 : Int32))), .val (.ref b22), .val (.ref b23), .unset, .unset, .unset, .unset, .unset, .unset, .unset, .unset] [])) _
    refine XS.aload X55.here hx rfl (hb hby at_172) rfl rfl ?_
    show Steps p.tables e below (T55.setTop (mkF m 174 #[.val (.int p0), .val (.int p1), .val (.int p2), .val (.int p3), .val (.int p4), .val (.int vb), .val (.int vd), .val (.int vm), .val (.int vr), .val (.int vc), .val (.int ve), .val (.int vn), .val (.int (p2 &&& (3 : Int32))), .val (.ref b22), .val (.ref b23), .unset, .unset, .unset, .unset, .unset, .unset, .unset, .unset] [(.ref b23)])) _
    refine XS.iload X55.here hx rfl (hb hby at_174) rfl ?_
    show Steps p.tables e below (T55.setTop (mkF m 176 #[.val (.int p0), .val (.int p1), .val (.int p2), .val (.int p3), .val (.int p4), .val (.int vb), .val (.int vd), .val (.int vm), .val (.int vr), .val (.int vc), .val (.int ve), .val (.int vn), .val (.int (p2 &&& (3 : Int32))), .val (.ref b22), .val (.ref b23), .unset, .unset, .unset, .unset, .unset, .unset, .unset, .unset] [(.int (p2 &&& (3 : Int32))), (.ref b23)])) _
    refine st58.trans ?_
    show Steps p.tables e below (T58.setTop (mkF m 179 #[.val (.int p0), .val (.int p1), .val (.int p2), .val (.int p3), .val (.int p4), .val (.int vb), .val (.int vd), .val (.int vm), .val (.int vr), .val (.int vc), .val (.int ve), .val (.int vn), .val (.int (p2 &&& (3 : Int32))), .val (.ref b22), .val (.ref b23), .unset, .unset, .unset, .unset, .unset, .unset, .unset, .unset] [(.int (G57 9 ((p2 &&& (3 : Int32))).toNatClampNeg))])) _
    refine XS.iload X58.here hx rfl (hb hby at_179) rfl ?_
    show Steps p.tables e below (T58.setTop (mkF m 181 #[.val (.int p0), .val (.int p1), .val (.int p2), .val (.int p3), .val (.int p4), .val (.int vb), .val (.int vd), .val (.int vm), .val (.int vr), .val (.int vc), .val (.int ve), .val (.int vn), .val (.int (p2 &&& (3 : Int32))), .val (.ref b22), .val (.ref b23), .unset, .unset, .unset, .unset, .unset, .unset, .unset, .unset] [(.int vr), (.int (G57 9 ((p2 &&& (3 : Int32))).toNatClampNeg))])) _
    exact q)
  obtain ⟨ur, hur, k62⟩ : ∃ (ur : Int32), (ur = (if vr = (0 : Int32) then (0 : Int32) else (1 : Int32))) ∧ own_To p e below T58 (mkF m 189 #[.val (.int p0), .val (.int p1), .val (.int p2), .val (.int p3), .val (.int p4), .val (.int vb), .val (.int vd), .val (.int vm), .val (.int vr), .val (.int vc), .val (.int ve), .val (.int vn), .val (.int (p2 &&& (3 : Int32))), .val (.ref b22), .val (.ref b23), .unset, .unset, .unset, .unset, .unset, .unset, .unset, .unset] [(.int ur), (.int (G57 9 ((p2 &&& (3 : Int32))).toNatClampNeg))]) s₁ (mkF m 0 #[.val (.int p0), .val (.int p1), .val (.int p2), .val (.int p3), .val (.int p4), .unset, .unset, .unset, .unset, .unset, .unset, .unset, .unset, .unset, .unset, .unset, .unset, .unset, .unset, .unset, .unset, .unset, .unset] []) := by
    by_cases hm61 : vr = (0 : Int32)
    ·
      refine ⟨(0 : Int32), by rw [if_pos hm61], fun t q => k60 t (?_)⟩
      refine XS.ifYes X58.here hx rfl (pc0 := 181) (pc' := 188) rfl (hb hby at_181) rfl ((if0 _ _).trans (teq hm61).1) (by decide) (by decide) ?_
      show Steps p.tables e below (T58.setTop (mkF m 188 #[.val (.int p0), .val (.int p1), .val (.int p2), .val (.int p3), .val (.int p4), .val (.int vb), .val (.int vd), .val (.int vm), .val (.int vr), .val (.int vc), .val (.int ve), .val (.int vn), .val (.int (p2 &&& (3 : Int32))), .val (.ref b22), .val (.ref b23), .unset, .unset, .unset, .unset, .unset, .unset, .unset, .unset] [(.int (G57 9 ((p2 &&& (3 : Int32))).toNatClampNeg))])) _
      refine XS.iconst X58.here hx rfl (hb hby at_188) ?_
      show Steps p.tables e below (T58.setTop (mkF m 189 #[.val (.int p0), .val (.int p1), .val (.int p2), .val (.int p3), .val (.int p4), .val (.int vb), .val (.int vd), .val (.int vm), .val (.int vr), .val (.int vc), .val (.int ve), .val (.int vn), .val (.int (p2 &&& (3 : Int32))), .val (.ref b22), .val (.ref b23), .unset, .unset, .unset, .unset, .unset, .unset, .unset, .unset] [(.int (0 : Int32)), (.int (G57 9 ((p2 &&& (3 : Int32))).toNatClampNeg))])) _
      exact q
    ·
      refine ⟨(1 : Int32), by rw [if_neg hm61], fun t q => k60 t (?_)⟩
      refine XS.ifNo X58.here hx rfl (hb hby at_181) rfl ((if0 _ _).trans (feq hm61).1) ?_
      show Steps p.tables e below (T58.setTop (mkF m 184 #[.val (.int p0), .val (.int p1), .val (.int p2), .val (.int p3), .val (.int p4), .val (.int vb), .val (.int vd), .val (.int vm), .val (.int vr), .val (.int vc), .val (.int ve), .val (.int vn), .val (.int (p2 &&& (3 : Int32))), .val (.ref b22), .val (.ref b23), .unset, .unset, .unset, .unset, .unset, .unset, .unset, .unset] [(.int (G57 9 ((p2 &&& (3 : Int32))).toNatClampNeg))])) _
      refine XS.iconst X58.here hx rfl (hb hby at_184) ?_
      show Steps p.tables e below (T58.setTop (mkF m 185 #[.val (.int p0), .val (.int p1), .val (.int p2), .val (.int p3), .val (.int p4), .val (.int vb), .val (.int vd), .val (.int vm), .val (.int vr), .val (.int vc), .val (.int ve), .val (.int vn), .val (.int (p2 &&& (3 : Int32))), .val (.ref b22), .val (.ref b23), .unset, .unset, .unset, .unset, .unset, .unset, .unset, .unset] [(.int (1 : Int32)), (.int (G57 9 ((p2 &&& (3 : Int32))).toNatClampNeg))])) _
      refine XS.goto X58.here hx rfl (pc0 := 185) (pc' := 189) rfl (hb hby at_185) (by decide) (by decide) ?_
      show Steps p.tables e below (T58.setTop (mkF m 189 #[.val (.int p0), .val (.int p1), .val (.int p2), .val (.int p3), .val (.int p4), .val (.int vb), .val (.int vd), .val (.int vm), .val (.int vr), .val (.int vc), .val (.int ve), .val (.int vn), .val (.int (p2 &&& (3 : Int32))), .val (.ref b22), .val (.ref b23), .unset, .unset, .unset, .unset, .unset, .unset, .unset, .unset] [(.int (1 : Int32)), (.int (G57 9 ((p2 &&& (3 : Int32))).toNatClampNeg))])) _
      exact q
  have hur2 : ur = vr := by rw [hur]; rcases h_vr with q | q <;> rw [q] <;> rfl
  have k63 : own_To p e below T58 (mkF m 201 #[.val (.int p0), .val (.int p1), .val (.int p2), .val (.int p3), .val (.int p4), .val (.int vb), .val (.int vd), .val (.int vm), .val (.int vr), .val (.int vc), .val (.int ve), .val (.int vn), .val (.int (p2 &&& (3 : Int32))), .val (.ref b22), .val (.ref b23), .val (.int (1 : Int32)), .unset, .unset, .unset, .unset, .unset, .unset, .unset] [(.int vc)]) s₁ (mkF m 0 #[.val (.int p0), .val (.int p1), .val (.int p2), .val (.int p3), .val (.int p4), .unset, .unset, .unset, .unset, .unset, .unset, .unset, .unset, .unset, .unset, .unset, .unset, .unset, .unset, .unset, .unset, .unset, .unset] []) := fun t q => k62 t (by
    refine XS.icmpNo X58.here hx rfl (hb hby at_189) rfl (teq ((HP57.2 5 (by decide)).trans hur2.symm)).2 ?_
    show Steps p.tables e below (T58.setTop (mkF m 192 #[.val (.int p0), .val (.int p1), .val (.int p2), .val (.int p3), .val (.int p4), .val (.int vb), .val (.int vd), .val (.int vm), .val (.int vr), .val (.int vc), .val (.int ve), .val (.int vn), .val (.int (p2 &&& (3 : Int32))), .val (.ref b22), .val (.ref b23), .unset, .unset, .unset, .unset, .unset, .unset, .unset, .unset] [])) _
    refine XS.iconst X58.here hx rfl (hb hby at_192) ?_
    show Steps p.tables e below (T58.setTop (mkF m 193 #[.val (.int p0), .val (.int p1), .val (.int p2), .val (.int p3), .val (.int p4), .val (.int vb), .val (.int vd), .val (.int vm), .val (.int vr), .val (.int vc), .val (.int ve), .val (.int vn), .val (.int (p2 &&& (3 : Int32))), .val (.ref b22), .val (.ref b23), .unset, .unset, .unset, .unset, .unset, .unset, .unset, .unset] [(.int (1 : Int32))])) _
    refine XS.goto X58.here hx rfl (pc0 := 193) (pc' := 197) rfl (hb hby at_193) (by decide) (by decide) ?_
    show Steps p.tables e below (T58.setTop (mkF m 197 #[.val (.int p0), .val (.int p1), .val (.int p2), .val (.int p3), .val (.int p4), .val (.int vb), .val (.int vd), .val (.int vm), .val (.int vr), .val (.int vc), .val (.int ve), .val (.int vn), .val (.int (p2 &&& (3 : Int32))), .val (.ref b22), .val (.ref b23), .unset, .unset, .unset, .unset, .unset, .unset, .unset, .unset] [(.int (1 : Int32))])) _
    refine XS.istore X58.here hx rfl (hb hby at_197) rfl (l' := #[.val (.int p0), .val (.int p1), .val (.int p2), .val (.int p3), .val (.int p4), .val (.int vb), .val (.int vd), .val (.int vm), .val (.int vr), .val (.int vc), .val (.int ve), .val (.int vn), .val (.int (p2 &&& (3 : Int32))), .val (.ref b22), .val (.ref b23), .val (.int (1 : Int32)), .unset, .unset, .unset, .unset, .unset, .unset, .unset]) rfl ?_
    show Steps p.tables e below (T58.setTop (mkF m 199 #[.val (.int p0), .val (.int p1), .val (.int p2), .val (.int p3), .val (.int p4), .val (.int vb), .val (.int vd), .val (.int vm), .val (.int vr), .val (.int vc), .val (.int ve), .val (.int vn), .val (.int (p2 &&& (3 : Int32))), .val (.ref b22), .val (.ref b23), .val (.int (1 : Int32)), .unset, .unset, .unset, .unset, .unset, .unset, .unset] [])) _
    refine XS.iload X58.here hx rfl (hb hby at_199) rfl ?_
    show Steps p.tables e below (T58.setTop (mkF m 201 #[.val (.int p0), .val (.int p1), .val (.int p2), .val (.int p3), .val (.int p4), .val (.int vb), .val (.int vd), .val (.int vm), .val (.int vr), .val (.int vc), .val (.int ve), .val (.int vn), .val (.int (p2 &&& (3 : Int32))), .val (.ref b22), .val (.ref b23), .val (.int (1 : Int32)), .unset, .unset, .unset, .unset, .unset, .unset, .unset] [(.int vc)])) _
    exact q)
  obtain ⟨T64, L64, h64, G64, X64, e64, N64, K64, HW64, HP64, k64⟩ : ∃ (T' : State) (L' : List Loc) (h' : Heap) (G' : Nat → Nat → Int32), Stand p l e room_1 s m #[(.int p0), (.int p1), (.int p2), (.int p3), (.int p4)] below meth c T' L' 22 156 ∧ T'.heap = h' ∧ Fr n0 L' ∧ Keep T55.heap h' [b23, (A 0), (A 1), (A 2), (A 3), (A 4), (A 5), (A 6), (A 7), (A 8), (A 9), (A 10), (A 11), (A 12), (A 13), (A 14), (A 15)] ∧ own_W Z h' b23 A (own_I (vb + vc) vd vr vm p3) G' ∧ own_P2 vb vd vr vm p3 ((p2 &&& (3 : Int32))).toNatClampNeg G' ∧ own_To p e below T' (mkF m 210 #[.val (.int p0), .val (.int p1), .val (.int p2), .val (.int p3), .val (.int p4), .val (.int vb), .val (.int vd), .val (.int vm), .val (.int vr), .val (.int vc), .val (.int ve), .val (.int vn), .val (.int (p2 &&& (3 : Int32))), .val (.ref b22), .val (.ref b23), .val (.int (1 : Int32)), .unset, .unset, .unset, .unset, .unset, .unset, .unset] []) s₁ (mkF m 0 #[.val (.int p0), .val (.int p1), .val (.int p2), .val (.int p3), .val (.int p4), .unset, .unset, .unset, .unset, .unset, .unset, .unset, .unset, .unset, .unset, .unset, .unset, .unset, .unset, .unset, .unset, .unset, .unset] []) := by
    by_cases hf : vc = (0 : Int32)
    ·
      have k65 : own_To p e below T58 (mkF m 210 #[.val (.int p0), .val (.int p1), .val (.int p2), .val (.int p3), .val (.int p4), .val (.int vb), .val (.int vd), .val (.int vm), .val (.int vr), .val (.int vc), .val (.int ve), .val (.int vn), .val (.int (p2 &&& (3 : Int32))), .val (.ref b22), .val (.ref b23), .val (.int (1 : Int32)), .unset, .unset, .unset, .unset, .unset, .unset, .unset] []) s₁ (mkF m 0 #[.val (.int p0), .val (.int p1), .val (.int p2), .val (.int p3), .val (.int p4), .unset, .unset, .unset, .unset, .unset, .unset, .unset, .unset, .unset, .unset, .unset, .unset, .unset, .unset, .unset, .unset, .unset, .unset] []) := fun t q => k63 t (by
        refine XS.ifYes X58.here hx rfl (pc0 := 201) (pc' := 210) rfl (hb hby at_201) rfl ((if0 _ _).trans (teq hf).1) (by decide) (by decide) ?_
        show Steps p.tables e below (T58.setTop (mkF m 210 #[.val (.int p0), .val (.int p1), .val (.int p2), .val (.int p3), .val (.int p4), .val (.int vb), .val (.int vd), .val (.int vm), .val (.int vr), .val (.int vc), .val (.int ve), .val (.int vn), .val (.int (p2 &&& (3 : Int32))), .val (.ref b22), .val (.ref b23), .val (.int (1 : Int32)), .unset, .unset, .unset, .unset, .unset, .unset, .unset] [])) _
        exact q)
      have HWx : own_W Z T55.heap b23 A (own_I (vb + vc) vd vr vm p3) G57 := by rw [hf]; rw [Int32.add_zero]; exact HW55
      exact ⟨_, _, _, _, X58, e58, N58, Keep.refl _ _, HWx, HP57, k65⟩
    ·
      have hf1 : vc = 1 := h_vc.resolve_left hf
      obtain ⟨cq66, kq66, q66a, q66b, q66c⟩ := isOf hZ e58 HW55.1
      obtain ⟨_, _, ⟨T66, L66, kk66, n66⟩, -, X66, ⟨Lc66, hQ66, l66, y66, z66⟩, st66⟩ := X58.virtualBack hx (y := (⟨"com/example/hornloom/hornloom/engine/WaitList", "addBuiltin", "(I)V"⟩ : MethodName)) (z := (⟨"com/example/hornloom/hornloom/engine/WaitList", "addBuiltin", "(I)V"⟩ : MethodName)) hown (mvT hZ (hw _ (List.mem_of_getElem? (i := 92) rfl))) (mvT hZ (hw _ (List.mem_of_getElem? (i := 93) rfl))) (notFace_of_selects (args := #[]) (mvT hZ (hw _ (List.mem_of_getElem? (i := 95) rfl)))) (mvT hZ (hw _ (List.mem_of_getElem? (i := 95) rfl))) (mvT hZ (hw _ (List.mem_of_getElem? (i := 94) rfl))) (by decide) (backOf (W := 0) (rmab l Z a0 hw [] b23 (1 : Int32) A (own_I vb vd vr vm p3) G57 T55.heap n0 Zs59 HW55 HD (own_01 h_vb)) hZ (hw _ (List.mem_of_getElem? (i := 96) rfl)) (hw _ (List.mem_of_getElem? (i := 3) rfl)) (by decide) (by decide)) q66a q66c (g := (mkF m 207 #[.val (.int p0), .val (.int p1), .val (.int p2), .val (.int p3), .val (.int p4), .val (.int vb), .val (.int vd), .val (.int vm), .val (.int vr), .val (.int vc), .val (.int ve), .val (.int vn), .val (.int (p2 &&& (3 : Int32))), .val (.ref b22), .val (.ref b23), .val (.int (1 : Int32)), .unset, .unset, .unset, .unset, .unset, .unset, .unset] [(.int (1 : Int32)), (.ref b23)])) rfl (by rw [hml]; rfl) (Steps.refl _) (argsL := [(.int (1 : Int32))]) (rest := []) (lenOf own_pd4 rfl) rfl (by show 2 * 0 + _ ≤ _; exact Nat.le_of_eq rfl) (hb hby at_207) (fun _ _ => ⟨rfl, e58, (by decide : 22 + 0 ≤ _), (by decide : 156 + 0 ≤ _)⟩)
      dsimp only [Pt.U, Pt.locs, Pt.cells, Pt.slots] at X66 l66 y66 z66 st66 hQ66
      subst l66 y66 z66
      obtain ⟨rfl, N66q, K66, HW66⟩ := hQ66
      have N66 := Fr.app N58 N66q
      have k67 : own_To p e below T66 (mkF m 210 #[.val (.int p0), .val (.int p1), .val (.int p2), .val (.int p3), .val (.int p4), .val (.int vb), .val (.int vd), .val (.int vm), .val (.int vr), .val (.int vc), .val (.int ve), .val (.int vn), .val (.int (p2 &&& (3 : Int32))), .val (.ref b22), .val (.ref b23), .val (.int (1 : Int32)), .unset, .unset, .unset, .unset, .unset, .unset, .unset] []) s₁ (mkF m 0 #[.val (.int p0), .val (.int p1), .val (.int p2), .val (.int p3), .val (.int p4), .unset, .unset, .unset, .unset, .unset, .unset, .unset, .unset, .unset, .unset, .unset, .unset, .unset, .unset, .unset, .unset, .unset, .unset] []) := fun t q => k63 t (by
        refine XS.ifNo X58.here hx rfl (hb hby at_201) rfl ((if0 _ _).trans (feq hf).1) ?_
        show Steps p.tables e below (T58.setTop (mkF m 204 #[.val (.int p0), .val (.int p1), .val (.int p2), .val (.int p3), .val (.int p4), .val (.int vb), .val (.int vd), .val (.int vm), .val (.int vr), .val (.int vc), .val (.int ve), .val (.int vn), .val (.int (p2 &&& (3 : Int32))), .val (.ref b22), .val (.ref b23), .val (.int (1 : Int32)), .unset, .unset, .unset, .unset, .unset, .unset, .unset] [])) _
        refine XS.aload X58.here hx rfl (hb hby at_204) rfl rfl ?_
        show Steps p.tables e below (T58.setTop (mkF m 206 #[.val (.int p0), .val (.int p1), .val (.int p2), .val (.int p3), .val (.int p4), .val (.int vb), .val (.int vd), .val (.int vm), .val (.int vr), .val (.int vc), .val (.int ve), .val (.int vn), .val (.int (p2 &&& (3 : Int32))), .val (.ref b22), .val (.ref b23), .val (.int (1 : Int32)), .unset, .unset, .unset, .unset, .unset, .unset, .unset] [(.ref b23)])) _
        refine XS.iconst X58.here hx rfl (hb hby at_206) ?_
        show Steps p.tables e below (T58.setTop (mkF m 207 #[.val (.int p0), .val (.int p1), .val (.int p2), .val (.int p3), .val (.int p4), .val (.int vb), .val (.int vd), .val (.int vm), .val (.int vr), .val (.int vc), .val (.int ve), .val (.int vn), .val (.int (p2 &&& (3 : Int32))), .val (.ref b22), .val (.ref b23), .val (.int (1 : Int32)), .unset, .unset, .unset, .unset, .unset, .unset, .unset] [(.int (1 : Int32)), (.ref b23)])) _
        refine st66.trans ?_
        show Steps p.tables e below (T66.setTop (mkF m 210 #[.val (.int p0), .val (.int p1), .val (.int p2), .val (.int p3), .val (.int p4), .val (.int vb), .val (.int vd), .val (.int vm), .val (.int vr), .val (.int vc), .val (.int ve), .val (.int vn), .val (.int (p2 &&& (3 : Int32))), .val (.ref b22), .val (.ref b23), .val (.int (1 : Int32)), .unset, .unset, .unset, .unset, .unset, .unset, .unset] [])) _
        exact q)
      have HWx : own_W Z T66.heap b23 A (own_I (vb + vc) vd vr vm p3) (own_g G57 1 (((own_I vb vd vr vm p3) 0)).toNatClampNeg (1 : Int32)) := by rw [hf1, ← own_I0 vb vd vr vm p3 (vb + 1)]; exact HW66
      exact ⟨_, _, _, _, X66, rfl, N66, K66, HWx, ⟨HP57.1, fun i hi => (if_neg (by omega)).trans (HP57.2 i hi)⟩, k67⟩
  have k68 : own_To p e below T64 (mkF m 212 #[.val (.int p0), .val (.int p1), .val (.int p2), .val (.int p3), .val (.int p4), .val (.int vb), .val (.int vd), .val (.int vm), .val (.int vr), .val (.int vc), .val (.int ve), .val (.int vn), .val (.int (p2 &&& (3 : Int32))), .val (.ref b22), .val (.ref b23), .val (.int (1 : Int32)), .unset, .unset, .unset, .unset, .unset, .unset, .unset] [(.int ve)]) s₁ (mkF m 0 #[.val (.int p0), .val (.int p1), .val (.int p2), .val (.int p3), .val (.int p4), .unset, .unset, .unset, .unset, .unset, .unset, .unset, .unset, .unset, .unset, .unset, .unset, .unset, .unset, .unset, .unset, .unset, .unset] []) := fun t q => k64 t (by
    refine XS.iload X64.here hx rfl (hb hby at_210) rfl ?_
    show Steps p.tables e below (T64.setTop (mkF m 212 #[.val (.int p0), .val (.int p1), .val (.int p2), .val (.int p3), .val (.int p4), .val (.int vb), .val (.int vd), .val (.int vm), .val (.int vr), .val (.int vc), .val (.int ve), .val (.int vn), .val (.int (p2 &&& (3 : Int32))), .val (.ref b22), .val (.ref b23), .val (.int (1 : Int32)), .unset, .unset, .unset, .unset, .unset, .unset, .unset] [(.int ve)])) _
    exact q)
  obtain ⟨T69, L69, h69, G69, X69, e69, N69, K69, HW69, HP69, k69⟩ : ∃ (T' : State) (L' : List Loc) (h' : Heap) (G' : Nat → Nat → Int32), Stand p l e room_1 s m #[(.int p0), (.int p1), (.int p2), (.int p3), (.int p4)] below meth c T' L' 22 156 ∧ T'.heap = h' ∧ Fr n0 L' ∧ Keep h64 h' [b23, (A 0), (A 1), (A 2), (A 3), (A 4), (A 5), (A 6), (A 7), (A 8), (A 9), (A 10), (A 11), (A 12), (A 13), (A 14), (A 15)] ∧ own_W Z h' b23 A (own_I (vb + vc) (vd + ve) vr vm p3) G' ∧ own_P2 vb vd vr vm p3 ((p2 &&& (3 : Int32))).toNatClampNeg G' ∧ own_To p e below T' (mkF m 223 #[.val (.int p0), .val (.int p1), .val (.int p2), .val (.int p3), .val (.int p4), .val (.int vb), .val (.int vd), .val (.int vm), .val (.int vr), .val (.int vc), .val (.int ve), .val (.int vn), .val (.int (p2 &&& (3 : Int32))), .val (.ref b22), .val (.ref b23), .val (.int (1 : Int32)), .unset, .unset, .unset, .unset, .unset, .unset, .unset] []) s₁ (mkF m 0 #[.val (.int p0), .val (.int p1), .val (.int p2), .val (.int p3), .val (.int p4), .unset, .unset, .unset, .unset, .unset, .unset, .unset, .unset, .unset, .unset, .unset, .unset, .unset, .unset, .unset, .unset, .unset, .unset] []) := by
    by_cases hf : ve = (0 : Int32)
    ·
      have k70 : own_To p e below T64 (mkF m 223 #[.val (.int p0), .val (.int p1), .val (.int p2), .val (.int p3), .val (.int p4), .val (.int vb), .val (.int vd), .val (.int vm), .val (.int vr), .val (.int vc), .val (.int ve), .val (.int vn), .val (.int (p2 &&& (3 : Int32))), .val (.ref b22), .val (.ref b23), .val (.int (1 : Int32)), .unset, .unset, .unset, .unset, .unset, .unset, .unset] []) s₁ (mkF m 0 #[.val (.int p0), .val (.int p1), .val (.int p2), .val (.int p3), .val (.int p4), .unset, .unset, .unset, .unset, .unset, .unset, .unset, .unset, .unset, .unset, .unset, .unset, .unset, .unset, .unset, .unset, .unset, .unset] []) := fun t q => k68 t (by
        refine XS.ifYes X64.here hx rfl (pc0 := 212) (pc' := 223) rfl (hb hby at_212) rfl ((if0 _ _).trans (teq hf).1) (by decide) (by decide) ?_
        show Steps p.tables e below (T64.setTop (mkF m 223 #[.val (.int p0), .val (.int p1), .val (.int p2), .val (.int p3), .val (.int p4), .val (.int vb), .val (.int vd), .val (.int vm), .val (.int vr), .val (.int vc), .val (.int ve), .val (.int vn), .val (.int (p2 &&& (3 : Int32))), .val (.ref b22), .val (.ref b23), .val (.int (1 : Int32)), .unset, .unset, .unset, .unset, .unset, .unset, .unset] [])) _
        exact q)
      have HWx : own_W Z h64 b23 A (own_I (vb + vc) (vd + ve) vr vm p3) G64 := by rw [hf]; rw [Int32.add_zero]; exact HW64
      exact ⟨_, _, _, _, X64, e64, N64, Keep.refl _ _, HWx, HP64, k70⟩
    ·
      have hf1 : ve = 1 := h_ve.resolve_left hf
      have Zs72 : n0 ≤ h64.size := (Nat.le_trans Zs59 K64.1)
      have F73 := (((EA22.ext E23).keep K26).keep K29)
      have F74 := (((F73.keep K35).keep K42).keep K48)
      have F75 := (((F74.keep K53).keep K55).keep K64)
      obtain ⟨cq71, kq71, q71a, q71b, q71c⟩ := isOf hZ e64 HW64.1
      obtain ⟨_, _, ⟨T71, L71, kk71, n71⟩, -, X71, ⟨Lc71, hQ71, l71, y71, z71⟩, st71⟩ := X64.virtualBack hx (y := (⟨"com/example/hornloom/hornloom/engine/WaitList", "addDisjunction", "(I[I)V"⟩ : MethodName)) (z := (⟨"com/example/hornloom/hornloom/engine/WaitList", "addDisjunction", "(I[I)V"⟩ : MethodName)) hown (mvT hZ (hw _ (List.mem_of_getElem? (i := 97) rfl))) (mvT hZ (hw _ (List.mem_of_getElem? (i := 98) rfl))) (notFace_of_selects (args := #[]) (mvT hZ (hw _ (List.mem_of_getElem? (i := 100) rfl)))) (mvT hZ (hw _ (List.mem_of_getElem? (i := 100) rfl))) (mvT hZ (hw _ (List.mem_of_getElem? (i := 99) rfl))) (by decide) (backOf (W := 0) (rmad l Z a0 hw [] b23 (1 : Int32) b22 A (own_I (vb + vc) vd vr vm p3) G64 h64 n0 Zs72 HW64 HD (own_01 h_vd) ⟨by decide, by decide⟩ F75) hZ (hw _ (List.mem_of_getElem? (i := 101) rfl)) (hw _ (List.mem_of_getElem? (i := 3) rfl)) (by decide) (by decide)) q71a q71c (g := (mkF m 220 #[.val (.int p0), .val (.int p1), .val (.int p2), .val (.int p3), .val (.int p4), .val (.int vb), .val (.int vd), .val (.int vm), .val (.int vr), .val (.int vc), .val (.int ve), .val (.int vn), .val (.int (p2 &&& (3 : Int32))), .val (.ref b22), .val (.ref b23), .val (.int (1 : Int32)), .unset, .unset, .unset, .unset, .unset, .unset, .unset] [(.ref b22), (.int (1 : Int32)), (.ref b23)])) rfl (by rw [hml]; rfl) (Steps.refl _) (argsL := [(.int (1 : Int32)), (.ref b22)]) (rest := []) (lenOf own_pd6 rfl) rfl (by show 2 * 0 + _ ≤ _; exact Nat.le_of_eq rfl) (hb hby at_220) (fun _ _ => ⟨rfl, e64, (by decide : 22 + 0 ≤ _), (by decide : 156 + 0 ≤ _)⟩)
      dsimp only [Pt.U, Pt.locs, Pt.cells, Pt.slots] at X71 l71 y71 z71 st71 hQ71
      subst l71 y71 z71
      obtain ⟨rfl, N71q, K71, HW71⟩ := hQ71
      have N71 := Fr.app N64 N71q
      have k76 : own_To p e below T71 (mkF m 223 #[.val (.int p0), .val (.int p1), .val (.int p2), .val (.int p3), .val (.int p4), .val (.int vb), .val (.int vd), .val (.int vm), .val (.int vr), .val (.int vc), .val (.int ve), .val (.int vn), .val (.int (p2 &&& (3 : Int32))), .val (.ref b22), .val (.ref b23), .val (.int (1 : Int32)), .unset, .unset, .unset, .unset, .unset, .unset, .unset] []) s₁ (mkF m 0 #[.val (.int p0), .val (.int p1), .val (.int p2), .val (.int p3), .val (.int p4), .unset, .unset, .unset, .unset, .unset, .unset, .unset, .unset, .unset, .unset, .unset, .unset, .unset, .unset, .unset, .unset, .unset, .unset] []) := fun t q => k68 t (by
        refine XS.ifNo X64.here hx rfl (hb hby at_212) rfl ((if0 _ _).trans (feq hf).1) ?_
        show Steps p.tables e below (T64.setTop (mkF m 215 #[.val (.int p0), .val (.int p1), .val (.int p2), .val (.int p3), .val (.int p4), .val (.int vb), .val (.int vd), .val (.int vm), .val (.int vr), .val (.int vc), .val (.int ve), .val (.int vn), .val (.int (p2 &&& (3 : Int32))), .val (.ref b22), .val (.ref b23), .val (.int (1 : Int32)), .unset, .unset, .unset, .unset, .unset, .unset, .unset] [])) _
        refine XS.aload X64.here hx rfl (hb hby at_215) rfl rfl ?_
        show Steps p.tables e below (T64.setTop (mkF m 217 #[.val (.int p0), .val (.int p1), .val (.int p2), .val (.int p3), .val (.int p4), .val (.int vb), .val (.int vd), .val (.int vm), .val (.int vr), .val (.int vc), .val (.int ve), .val (.int vn), .val (.int (p2 &&& (3 : Int32))), .val (.ref b22), .val (.ref b23), .val (.int (1 : Int32)), .unset, .unset, .unset, .unset, .unset, .unset, .unset] [(.ref b23)])) _
        refine XS.iconst X64.here hx rfl (hb hby at_217) ?_
        show Steps p.tables e below (T64.setTop (mkF m 218 #[.val (.int p0), .val (.int p1), .val (.int p2), .val (.int p3), .val (.int p4), .val (.int vb), .val (.int vd), .val (.int vm), .val (.int vr), .val (.int vc), .val (.int ve), .val (.int vn), .val (.int (p2 &&& (3 : Int32))), .val (.ref b22), .val (.ref b23), .val (.int (1 : Int32)), .unset, .unset, .unset, .unset, .unset, .unset, .unset] [(.int (1 : Int32)), (.ref b23)])) _
        refine XS.aload X64.here hx rfl (hb hby at_218) rfl rfl ?_
        show Steps p.tables e below (T64.setTop (mkF m 220 #[.val (.int p0), .val (.int p1), .val (.int p2), .val (.int p3), .val (.int p4), .val (.int vb), .val (.int vd), .val (.int vm), .val (.int vr), .val (.int vc), .val (.int ve), .val (.int vn), .val (.int (p2 &&& (3 : Int32))), .val (.ref b22), .val (.ref b23), .val (.int (1 : Int32)), .unset, .unset, .unset, .unset, .unset, .unset, .unset] [(.ref b22), (.int (1 : Int32)), (.ref b23)])) _
        refine st71.trans ?_
        show Steps p.tables e below (T71.setTop (mkF m 223 #[.val (.int p0), .val (.int p1), .val (.int p2), .val (.int p3), .val (.int p4), .val (.int vb), .val (.int vd), .val (.int vm), .val (.int vr), .val (.int vc), .val (.int ve), .val (.int vn), .val (.int (p2 &&& (3 : Int32))), .val (.ref b22), .val (.ref b23), .val (.int (1 : Int32)), .unset, .unset, .unset, .unset, .unset, .unset, .unset] [])) _
        exact q)
      have HWx : own_W Z T71.heap b23 A (own_I (vb + vc) (vd + ve) vr vm p3) (own_g G64 2 (((own_I (vb + vc) vd vr vm p3) 1)).toNatClampNeg (1 : Int32)) := by rw [hf1, ← own_I1 (vb + vc) vd vr vm p3 (vd + 1)]; exact HW71
      exact ⟨_, _, _, _, X71, rfl, N71, K71, HWx, ⟨⟨fun q => by show (if 0 = vd.toNatClampNeg then (1 : Int32) else G64 2 0) = 2; rw [if_neg (by rw [q]; decide)]; exact HP64.1.1 q, HP64.1.2⟩, fun i hi => (if_neg (by omega)).trans (HP64.2 i hi)⟩, k76⟩
  have k77 : own_To p e below T69 (mkF m 225 #[.val (.int p0), .val (.int p1), .val (.int p2), .val (.int p3), .val (.int p4), .val (.int vb), .val (.int vd), .val (.int vm), .val (.int vr), .val (.int vc), .val (.int ve), .val (.int vn), .val (.int (p2 &&& (3 : Int32))), .val (.ref b22), .val (.ref b23), .val (.int (1 : Int32)), .unset, .unset, .unset, .unset, .unset, .unset, .unset] [(.int vn)]) s₁ (mkF m 0 #[.val (.int p0), .val (.int p1), .val (.int p2), .val (.int p3), .val (.int p4), .unset, .unset, .unset, .unset, .unset, .unset, .unset, .unset, .unset, .unset, .unset, .unset, .unset, .unset, .unset, .unset, .unset, .unset] []) := fun t q => k69 t (by
    refine XS.iload X69.here hx rfl (hb hby at_223) rfl ?_
    show Steps p.tables e below (T69.setTop (mkF m 225 #[.val (.int p0), .val (.int p1), .val (.int p2), .val (.int p3), .val (.int p4), .val (.int vb), .val (.int vd), .val (.int vm), .val (.int vr), .val (.int vc), .val (.int ve), .val (.int vn), .val (.int (p2 &&& (3 : Int32))), .val (.ref b22), .val (.ref b23), .val (.int (1 : Int32)), .unset, .unset, .unset, .unset, .unset, .unset, .unset] [(.int vn)])) _
    exact q)
  obtain ⟨T78, L78, h78, G78, X78, e78, N78, K78, HW78, HP78, k78⟩ : ∃ (T' : State) (L' : List Loc) (h' : Heap) (G' : Nat → Nat → Int32), Stand p l e room_1 s m #[(.int p0), (.int p1), (.int p2), (.int p3), (.int p4)] below meth c T' L' 22 156 ∧ T'.heap = h' ∧ Fr n0 L' ∧ Keep h69 h' [b23, (A 0), (A 1), (A 2), (A 3), (A 4), (A 5), (A 6), (A 7), (A 8), (A 9), (A 10), (A 11), (A 12), (A 13), (A 14), (A 15)] ∧ own_W Z h' b23 A (own_I (vb + vc) (vd + ve) vr (vm + vn) p3) G' ∧ own_P3 vb vd vr vm p3 vn ((p2 &&& (3 : Int32))).toNatClampNeg G' ∧ own_To p e below T' (mkF m 234 #[.val (.int p0), .val (.int p1), .val (.int p2), .val (.int p3), .val (.int p4), .val (.int vb), .val (.int vd), .val (.int vm), .val (.int vr), .val (.int vc), .val (.int ve), .val (.int vn), .val (.int (p2 &&& (3 : Int32))), .val (.ref b22), .val (.ref b23), .val (.int (1 : Int32)), .unset, .unset, .unset, .unset, .unset, .unset, .unset] []) s₁ (mkF m 0 #[.val (.int p0), .val (.int p1), .val (.int p2), .val (.int p3), .val (.int p4), .unset, .unset, .unset, .unset, .unset, .unset, .unset, .unset, .unset, .unset, .unset, .unset, .unset, .unset, .unset, .unset, .unset, .unset] []) := by
    by_cases hf : vn = (0 : Int32)
    ·
      have k79 : own_To p e below T69 (mkF m 234 #[.val (.int p0), .val (.int p1), .val (.int p2), .val (.int p3), .val (.int p4), .val (.int vb), .val (.int vd), .val (.int vm), .val (.int vr), .val (.int vc), .val (.int ve), .val (.int vn), .val (.int (p2 &&& (3 : Int32))), .val (.ref b22), .val (.ref b23), .val (.int (1 : Int32)), .unset, .unset, .unset, .unset, .unset, .unset, .unset] []) s₁ (mkF m 0 #[.val (.int p0), .val (.int p1), .val (.int p2), .val (.int p3), .val (.int p4), .unset, .unset, .unset, .unset, .unset, .unset, .unset, .unset, .unset, .unset, .unset, .unset, .unset, .unset, .unset, .unset, .unset, .unset] []) := fun t q => k77 t (by
        refine XS.ifYes X69.here hx rfl (pc0 := 225) (pc' := 234) rfl (hb hby at_225) rfl ((if0 _ _).trans (teq hf).1) (by decide) (by decide) ?_
        show Steps p.tables e below (T69.setTop (mkF m 234 #[.val (.int p0), .val (.int p1), .val (.int p2), .val (.int p3), .val (.int p4), .val (.int vb), .val (.int vd), .val (.int vm), .val (.int vr), .val (.int vc), .val (.int ve), .val (.int vn), .val (.int (p2 &&& (3 : Int32))), .val (.ref b22), .val (.ref b23), .val (.int (1 : Int32)), .unset, .unset, .unset, .unset, .unset, .unset, .unset] [])) _
        exact q)
      have HWx : own_W Z h69 b23 A (own_I (vb + vc) (vd + ve) vr (vm + vn) p3) G69 := by rw [hf]; rw [Int32.add_zero]; exact HW69
      exact ⟨_, _, _, _, X69, e69, N69, Keep.refl _ _, HWx, ⟨HP69.1.1, fun _ => HP69.1.2, fun q => absurd (hf.symm.trans q) (by decide), HP69.2⟩, k79⟩
    ·
      have hf1 : vn = 1 := h_vn.resolve_left hf
      have Zs81 : n0 ≤ h69.size := (Nat.le_trans (Nat.le_trans Zs59 K64.1) K69.1)
      obtain ⟨cq80, kq80, q80a, q80b, q80c⟩ := isOf hZ e69 HW69.1
      obtain ⟨_, _, ⟨T80, L80, kk80, n80⟩, -, X80, ⟨Lc80, hQ80, l80, y80, z80⟩, st80⟩ := X69.virtualBack hx (y := (⟨"com/example/hornloom/hornloom/engine/WaitList", "markMatched", "(I)V"⟩ : MethodName)) (z := (⟨"com/example/hornloom/hornloom/engine/WaitList", "markMatched", "(I)V"⟩ : MethodName)) hown (mvT hZ (hw _ (List.mem_of_getElem? (i := 128) rfl))) (mvT hZ (hw _ (List.mem_of_getElem? (i := 129) rfl))) (notFace_of_selects (args := #[]) (mvT hZ (hw _ (List.mem_of_getElem? (i := 131) rfl)))) (mvT hZ (hw _ (List.mem_of_getElem? (i := 131) rfl))) (mvT hZ (hw _ (List.mem_of_getElem? (i := 130) rfl))) (by decide) (backOf (W := 0) (rmmm l Z a0 hw [] b23 (2 : Int32) A (own_I (vb + vc) (vd + ve) vr vm p3) G69 h69 n0 Zs81 HW69 HD (own_01 h_vm) ⟨by decide, by decide⟩) hZ (hw _ (List.mem_of_getElem? (i := 132) rfl)) (hw _ (List.mem_of_getElem? (i := 3) rfl)) (by decide) (by decide)) q80a q80c (g := (mkF m 231 #[.val (.int p0), .val (.int p1), .val (.int p2), .val (.int p3), .val (.int p4), .val (.int vb), .val (.int vd), .val (.int vm), .val (.int vr), .val (.int vc), .val (.int ve), .val (.int vn), .val (.int (p2 &&& (3 : Int32))), .val (.ref b22), .val (.ref b23), .val (.int (1 : Int32)), .unset, .unset, .unset, .unset, .unset, .unset, .unset] [(.int (2 : Int32)), (.ref b23)])) rfl (by rw [hml]; rfl) (Steps.refl _) (argsL := [(.int (2 : Int32))]) (rest := []) (lenOf own_pd4 rfl) rfl (by show 2 * 0 + _ ≤ _; exact Nat.le_of_eq rfl) (hb hby at_231) (fun _ _ => ⟨rfl, e69, (by decide : 22 + 0 ≤ _), (by decide : 156 + 0 ≤ _)⟩)
      dsimp only [Pt.U, Pt.locs, Pt.cells, Pt.slots] at X80 l80 y80 z80 st80 hQ80
      subst l80 y80 z80
      obtain ⟨rfl, N80q, K80, HW80⟩ := hQ80
      have N80 := Fr.app N69 N80q
      have k82 : own_To p e below T80 (mkF m 234 #[.val (.int p0), .val (.int p1), .val (.int p2), .val (.int p3), .val (.int p4), .val (.int vb), .val (.int vd), .val (.int vm), .val (.int vr), .val (.int vc), .val (.int ve), .val (.int vn), .val (.int (p2 &&& (3 : Int32))), .val (.ref b22), .val (.ref b23), .val (.int (1 : Int32)), .unset, .unset, .unset, .unset, .unset, .unset, .unset] []) s₁ (mkF m 0 #[.val (.int p0), .val (.int p1), .val (.int p2), .val (.int p3), .val (.int p4), .unset, .unset, .unset, .unset, .unset, .unset, .unset, .unset, .unset, .unset, .unset, .unset, .unset, .unset, .unset, .unset, .unset, .unset] []) := fun t q => k77 t (by
        refine XS.ifNo X69.here hx rfl (hb hby at_225) rfl ((if0 _ _).trans (feq hf).1) ?_
        show Steps p.tables e below (T69.setTop (mkF m 228 #[.val (.int p0), .val (.int p1), .val (.int p2), .val (.int p3), .val (.int p4), .val (.int vb), .val (.int vd), .val (.int vm), .val (.int vr), .val (.int vc), .val (.int ve), .val (.int vn), .val (.int (p2 &&& (3 : Int32))), .val (.ref b22), .val (.ref b23), .val (.int (1 : Int32)), .unset, .unset, .unset, .unset, .unset, .unset, .unset] [])) _
        refine XS.aload X69.here hx rfl (hb hby at_228) rfl rfl ?_
        show Steps p.tables e below (T69.setTop (mkF m 230 #[.val (.int p0), .val (.int p1), .val (.int p2), .val (.int p3), .val (.int p4), .val (.int vb), .val (.int vd), .val (.int vm), .val (.int vr), .val (.int vc), .val (.int ve), .val (.int vn), .val (.int (p2 &&& (3 : Int32))), .val (.ref b22), .val (.ref b23), .val (.int (1 : Int32)), .unset, .unset, .unset, .unset, .unset, .unset, .unset] [(.ref b23)])) _
        refine XS.iconst X69.here hx rfl (hb hby at_230) ?_
        show Steps p.tables e below (T69.setTop (mkF m 231 #[.val (.int p0), .val (.int p1), .val (.int p2), .val (.int p3), .val (.int p4), .val (.int vb), .val (.int vd), .val (.int vm), .val (.int vr), .val (.int vc), .val (.int ve), .val (.int vn), .val (.int (p2 &&& (3 : Int32))), .val (.ref b22), .val (.ref b23), .val (.int (1 : Int32)), .unset, .unset, .unset, .unset, .unset, .unset, .unset] [(.int (2 : Int32)), (.ref b23)])) _
        refine st80.trans ?_
        show Steps p.tables e below (T80.setTop (mkF m 234 #[.val (.int p0), .val (.int p1), .val (.int p2), .val (.int p3), .val (.int p4), .val (.int vb), .val (.int vd), .val (.int vm), .val (.int vr), .val (.int vc), .val (.int ve), .val (.int vn), .val (.int (p2 &&& (3 : Int32))), .val (.ref b22), .val (.ref b23), .val (.int (1 : Int32)), .unset, .unset, .unset, .unset, .unset, .unset, .unset] [])) _
        exact q)
      have HWx : own_W Z T80.heap b23 A (own_I (vb + vc) (vd + ve) vr (vm + vn) p3) (own_g (own_g G69 14 ((2 : Int32)).toNatClampNeg (nar .boolean (1 : Int32))) 3 (((own_I (vb + vc) (vd + ve) vr vm p3) 7)).toNatClampNeg (2 : Int32)) := by rw [hf1, ← own_I7 (vb + vc) (vd + ve) vr vm p3 (vm + 1)]; exact HW80
      exact ⟨_, _, _, _, X80, rfl, N80, K80, HWx, ⟨HP69.1.1, fun q => absurd q hf, fun _ => (if_pos rfl : (if vm.toNatClampNeg = vm.toNatClampNeg then (2 : Int32) else _) = 2), fun i hi => (if_neg (by omega)).trans ((if_neg (by omega)).trans (HP69.2 i hi))⟩, k82⟩
  have Zs84 : n0 ≤ h78.size := (Nat.le_trans (Nat.le_trans (Nat.le_trans Zs59 K64.1) K69.1) K78.1)
  obtain ⟨cq83, kq83, q83a, q83b, q83c⟩ := isOf hZ e78 HW78.1
  obtain ⟨_, _, ⟨T83, L83, kk83, n83⟩, -, X83, ⟨Lc83, hQ83, l83, y83, z83⟩, st83⟩ := X78.virtualBack hx (y := (⟨"com/example/hornloom/hornloom/engine/WaitList", "trailLooked", "(I)V"⟩ : MethodName)) (z := (⟨"com/example/hornloom/hornloom/engine/WaitList", "trailLooked", "(I)V"⟩ : MethodName)) hown (mvT hZ (hw _ (List.mem_of_getElem? (i := 57) rfl))) (mvT hZ (hw _ (List.mem_of_getElem? (i := 58) rfl))) (notFace_of_selects (args := #[]) (mvT hZ (hw _ (List.mem_of_getElem? (i := 60) rfl)))) (mvT hZ (hw _ (List.mem_of_getElem? (i := 60) rfl))) (mvT hZ (hw _ (List.mem_of_getElem? (i := 59) rfl))) (by decide) (backOf (W := 0) (rmtl l Z a0 hw [] b23 p4 A (own_I (vb + vc) (vd + ve) vr (vm + vn) p3) G78 h78 n0 Zs84 HW78 HD) hZ (hw _ (List.mem_of_getElem? (i := 61) rfl)) (hw _ (List.mem_of_getElem? (i := 3) rfl)) (by decide) (by decide)) q83a q83c (g := (mkF m 238 #[.val (.int p0), .val (.int p1), .val (.int p2), .val (.int p3), .val (.int p4), .val (.int vb), .val (.int vd), .val (.int vm), .val (.int vr), .val (.int vc), .val (.int ve), .val (.int vn), .val (.int (p2 &&& (3 : Int32))), .val (.ref b22), .val (.ref b23), .val (.int (1 : Int32)), .unset, .unset, .unset, .unset, .unset, .unset, .unset] [(.int p4), (.ref b23)])) rfl (by rw [hml]; rfl) (Steps.refl _) (argsL := [(.int p4)]) (rest := []) (lenOf own_pd4 rfl) rfl (by show 2 * 0 + _ ≤ _; exact Nat.le_of_eq rfl) (hb hby at_238) (fun _ _ => ⟨rfl, e78, (by decide : 22 + 0 ≤ _), (by decide : 156 + 0 ≤ _)⟩)
  dsimp only [Pt.U, Pt.locs, Pt.cells, Pt.slots] at X83 l83 y83 z83 st83 hQ83
  subst l83 y83 z83
  obtain ⟨rfl, N83q, K83, HW83⟩ := hQ83
  have N83 := Fr.app N78 N83q
  have HWu : own_W Z T83.heap b23 A (own_I (vb + vc) (vd + ve) vr (vm + vn) p4) G78 := by rw [← own_I9 (vb + vc) (vd + ve) vr (vm + vn) p3 p4]; exact HW83
  have k85 : own_To p e below T83 (mkF m 245 #[.val (.int p0), .val (.int p1), .val (.int p2), .val (.int p3), .val (.int p4), .val (.int vb), .val (.int vd), .val (.int vm), .val (.int vr), .val (.int vc), .val (.int ve), .val (.int vn), .val (.int (p2 &&& (3 : Int32))), .val (.ref b22), .val (.ref b23), .val (.int (1 : Int32)), .unset, .unset, .unset, .unset, .unset, .unset, .unset] [(.int (p2 &&& (3 : Int32))), (.ref b23)]) s₁ (mkF m 0 #[.val (.int p0), .val (.int p1), .val (.int p2), .val (.int p3), .val (.int p4), .unset, .unset, .unset, .unset, .unset, .unset, .unset, .unset, .unset, .unset, .unset, .unset, .unset, .unset, .unset, .unset, .unset, .unset] []) := fun t q => k78 t (by
    refine XS.aload X78.here hx rfl (hb hby at_234) rfl rfl ?_
    show Steps p.tables e below (T78.setTop (mkF m 236 #[.val (.int p0), .val (.int p1), .val (.int p2), .val (.int p3), .val (.int p4), .val (.int vb), .val (.int vd), .val (.int vm), .val (.int vr), .val (.int vc), .val (.int ve), .val (.int vn), .val (.int (p2 &&& (3 : Int32))), .val (.ref b22), .val (.ref b23), .val (.int (1 : Int32)), .unset, .unset, .unset, .unset, .unset, .unset, .unset] [(.ref b23)])) _
    refine XS.iload X78.here hx rfl (hb hby at_236) rfl ?_
    show Steps p.tables e below (T78.setTop (mkF m 238 #[.val (.int p0), .val (.int p1), .val (.int p2), .val (.int p3), .val (.int p4), .val (.int vb), .val (.int vd), .val (.int vm), .val (.int vr), .val (.int vc), .val (.int ve), .val (.int vn), .val (.int (p2 &&& (3 : Int32))), .val (.ref b22), .val (.ref b23), .val (.int (1 : Int32)), .unset, .unset, .unset, .unset, .unset, .unset, .unset] [(.int p4), (.ref b23)])) _
    refine st83.trans ?_
    show Steps p.tables e below (T83.setTop (mkF m 241 #[.val (.int p0), .val (.int p1), .val (.int p2), .val (.int p3), .val (.int p4), .val (.int vb), .val (.int vd), .val (.int vm), .val (.int vr), .val (.int vc), .val (.int ve), .val (.int vn), .val (.int (p2 &&& (3 : Int32))), .val (.ref b22), .val (.ref b23), .val (.int (1 : Int32)), .unset, .unset, .unset, .unset, .unset, .unset, .unset] [])) _
    refine XS.aload X83.here hx rfl (hb hby at_241) rfl rfl ?_
    show Steps p.tables e below (T83.setTop (mkF m 243 #[.val (.int p0), .val (.int p1), .val (.int p2), .val (.int p3), .val (.int p4), .val (.int vb), .val (.int vd), .val (.int vm), .val (.int vr), .val (.int vc), .val (.int ve), .val (.int vn), .val (.int (p2 &&& (3 : Int32))), .val (.ref b22), .val (.ref b23), .val (.int (1 : Int32)), .unset, .unset, .unset, .unset, .unset, .unset, .unset] [(.ref b23)])) _
    refine XS.iload X83.here hx rfl (hb hby at_243) rfl ?_
    show Steps p.tables e below (T83.setTop (mkF m 245 #[.val (.int p0), .val (.int p1), .val (.int p2), .val (.int p3), .val (.int p4), .val (.int vb), .val (.int vd), .val (.int vm), .val (.int vr), .val (.int vc), .val (.int ve), .val (.int vn), .val (.int (p2 &&& (3 : Int32))), .val (.ref b22), .val (.ref b23), .val (.int (1 : Int32)), .unset, .unset, .unset, .unset, .unset, .unset, .unset] [(.int (p2 &&& (3 : Int32))), (.ref b23)])) _
    exact q)
  obtain ⟨T86, L86, h86, G86, X86, e86, N86, K86, HW86, HP86, k86⟩ : ∃ (T' : State) (L' : List Loc) (h' : Heap) (G' : Nat → Nat → Int32), Stand p l e room_1 s m #[(.int p0), (.int p1), (.int p2), (.int p3), (.int p4)] below meth c T' L' 22 156 ∧ T'.heap = h' ∧ Fr n0 L' ∧ Keep T83.heap h' [b23, (A 0), (A 1), (A 2), (A 3), (A 4), (A 5), (A 6), (A 7), (A 8), (A 9), (A 10), (A 11), (A 12), (A 13), (A 14), (A 15)] ∧ own_W Z h' b23 A (own_I vb vd vr vm p3) G' ∧ own_P1 vd G' ∧ own_To p e below T' (mkF m 248 #[.val (.int p0), .val (.int p1), .val (.int p2), .val (.int p3), .val (.int p4), .val (.int vb), .val (.int vd), .val (.int vm), .val (.int vr), .val (.int vc), .val (.int ve), .val (.int vn), .val (.int (p2 &&& (3 : Int32))), .val (.ref b22), .val (.ref b23), .val (.int (1 : Int32)), .unset, .unset, .unset, .unset, .unset, .unset, .unset] []) s₁ (mkF m 0 #[.val (.int p0), .val (.int p1), .val (.int p2), .val (.int p3), .val (.int p4), .unset, .unset, .unset, .unset, .unset, .unset, .unset, .unset, .unset, .unset, .unset, .unset, .unset, .unset, .unset, .unset, .unset, .unset] []) := by
    have m0 := HP78.2.2.2 0 (by decide)
    have m1 := HP78.2.2.2 1 (by decide)
    have m2 := HP78.2.2.2 2 (by decide)
    have m3 := HP78.2.2.2 3 (by decide)
    have m4 := HP78.2.2.2 4 (by decide)
    have m5 := HP78.2.2.2 5 (by decide)
    have m6 := HP78.2.2.2 6 (by decide)
    have m7 := HP78.2.2.2 7 (by decide)
    have m8 := HP78.2.2.2 8 (by decide)
    have m9 := HP78.2.2.2 9 (by decide)
    have hwc : ¬ G78 12 ((p2 &&& (3 : Int32))).toNatClampNeg < (own_I (vb + vc) (vd + ve) vr (vm + vn) p4) 8 := by rw [show G78 12 ((p2 &&& (3 : Int32))).toNatClampNeg = 0 from m8]; show ¬ (0 : Int32) < 0; decide
    rcases h_vn with hn0 | hn1
    ·
      have hm : ¬ G78 11 ((p2 &&& (3 : Int32))).toNatClampNeg < (own_I (vb + vc) (vd + ve) vr (vm + vn) p4) 7 := by rw [show G78 11 ((p2 &&& (3 : Int32))).toNatClampNeg = vm from m7]; show ¬ vm < vm + vn; rw [hn0, Int32.add_zero, Int32.lt_iff_toInt_lt]; omega
      have Zs88 : n0 ≤ T83.heap.size := (Nat.le_trans Zs84 K83.1)
      obtain ⟨cq87, kq87, q87a, q87b, q87c⟩ := isOf hZ rfl HWu.1
      obtain ⟨_, _, ⟨T87, L87, kk87, n87⟩, -, X87, ⟨Lc87, hQ87, l87, y87, z87⟩, st87⟩ := X83.virtualBack hx (y := (⟨"com/example/hornloom/hornloom/engine/WaitList", "rewind", "(I)V"⟩ : MethodName)) (z := (⟨"com/example/hornloom/hornloom/engine/WaitList", "rewind", "(I)V"⟩ : MethodName)) hown (mvT hZ (hw _ (List.mem_of_getElem? (i := 103) rfl))) (mvT hZ (hw _ (List.mem_of_getElem? (i := 104) rfl))) (notFace_of_selects (args := #[]) (mvT hZ (hw _ (List.mem_of_getElem? (i := 106) rfl)))) (mvT hZ (hw _ (List.mem_of_getElem? (i := 106) rfl))) (mvT hZ (hw _ (List.mem_of_getElem? (i := 105) rfl))) (by decide) (backOf (W := 0) (rmrw0 l Z a0 hw [] b23 (p2 &&& (3 : Int32)) A (own_I (vb + vc) (vd + ve) vr (vm + vn) p4) G78 T83.heap n0 Zs88 HWu HD hk4 hm hwc) hZ (hw _ (List.mem_of_getElem? (i := 107) rfl)) (hw _ (List.mem_of_getElem? (i := 3) rfl)) (by decide) (by decide)) q87a q87c (g := (mkF m 245 #[.val (.int p0), .val (.int p1), .val (.int p2), .val (.int p3), .val (.int p4), .val (.int vb), .val (.int vd), .val (.int vm), .val (.int vr), .val (.int vc), .val (.int ve), .val (.int vn), .val (.int (p2 &&& (3 : Int32))), .val (.ref b22), .val (.ref b23), .val (.int (1 : Int32)), .unset, .unset, .unset, .unset, .unset, .unset, .unset] [(.int (p2 &&& (3 : Int32))), (.ref b23)])) rfl (by rw [hml]; rfl) (Steps.refl _) (argsL := [(.int (p2 &&& (3 : Int32)))]) (rest := []) (lenOf own_pd4 rfl) rfl (by show 2 * 0 + _ ≤ _; exact Nat.le_of_eq rfl) (hb hby at_245) (fun _ _ => ⟨rfl, rfl, (by decide : 22 + 0 ≤ _), (by decide : 156 + 0 ≤ _)⟩)
      dsimp only [Pt.U, Pt.locs, Pt.cells, Pt.slots] at X87 l87 y87 z87 st87 hQ87
      subst l87 y87 z87
      obtain ⟨rfl, N87q, K87, HW87⟩ := hQ87
      have N87 := Fr.app N83 N87q
      have k89 : own_To p e below T87 (mkF m 248 #[.val (.int p0), .val (.int p1), .val (.int p2), .val (.int p3), .val (.int p4), .val (.int vb), .val (.int vd), .val (.int vm), .val (.int vr), .val (.int vc), .val (.int ve), .val (.int vn), .val (.int (p2 &&& (3 : Int32))), .val (.ref b22), .val (.ref b23), .val (.int (1 : Int32)), .unset, .unset, .unset, .unset, .unset, .unset, .unset] []) s₁ (mkF m 0 #[.val (.int p0), .val (.int p1), .val (.int p2), .val (.int p3), .val (.int p4), .unset, .unset, .unset, .unset, .unset, .unset, .unset, .unset, .unset, .unset, .unset, .unset, .unset, .unset, .unset, .unset, .unset, .unset] []) := fun t q => k85 t (by
        refine st87.trans ?_
        show Steps p.tables e below (T87.setTop (mkF m 248 #[.val (.int p0), .val (.int p1), .val (.int p2), .val (.int p3), .val (.int p4), .val (.int vb), .val (.int vd), .val (.int vm), .val (.int vr), .val (.int vc), .val (.int ve), .val (.int vn), .val (.int (p2 &&& (3 : Int32))), .val (.ref b22), .val (.ref b23), .val (.int (1 : Int32)), .unset, .unset, .unset, .unset, .unset, .unset, .unset] [])) _
        exact q)
      have hI : (own_u (own_u (own_u (own_u (own_u (own_u (own_u (own_u (own_I (vb + vc) (vd + ve) vr (vm + vn) p4) 0 (G78 4 ((p2 &&& (3 : Int32))).toNatClampNeg)) 1 (G78 5 ((p2 &&& (3 : Int32))).toNatClampNeg)) 2 (G78 6 ((p2 &&& (3 : Int32))).toNatClampNeg)) 3 (G78 7 ((p2 &&& (3 : Int32))).toNatClampNeg)) 4 (G78 8 ((p2 &&& (3 : Int32))).toNatClampNeg)) 5 (G78 9 ((p2 &&& (3 : Int32))).toNatClampNeg)) 6 (G78 10 ((p2 &&& (3 : Int32))).toNatClampNeg)) 9 (G78 13 ((p2 &&& (3 : Int32))).toNatClampNeg)) = (own_I vb vd vr vm p3) := own_rw0 vb vc vd ve vr vm vn p3 p4 G78 ((p2 &&& (3 : Int32))).toNatClampNeg hn0 HP78.2.2.2
      have HWx : own_W Z T87.heap b23 A (own_I vb vd vr vm p3) G78 := by rw [← hI]; exact HW87
      exact ⟨_, _, _, _, X87, rfl, N87, K87, HWx, ⟨HP78.1, HP78.2.1 hn0⟩, k89⟩
    ·
      have h7 : (own_I (vb + vc) (vd + ve) vr (vm + vn) p4) 7 - (1 : Int32) = vm := by show vm + vn - 1 = vm; rw [hn1]; rcases h_vm with q | q <;> rw [q] <;> rfl
      have hm1 : G78 11 ((p2 &&& (3 : Int32))).toNatClampNeg < (own_I (vb + vc) (vd + ve) vr (vm + vn) p4) 7 := by rw [show G78 11 ((p2 &&& (3 : Int32))).toNatClampNeg = vm from m7]; show vm < vm + vn; rw [hn1]; rcases h_vm with q | q <;> rw [q] <;> decide
      have hm2 : ¬ G78 11 ((p2 &&& (3 : Int32))).toNatClampNeg < ((own_I (vb + vc) (vd + ve) vr (vm + vn) p4) 7 - (1 : Int32)) := by rw [h7, show G78 11 ((p2 &&& (3 : Int32))).toNatClampNeg = vm from m7, Int32.lt_iff_toInt_lt]; omega
      have he : ¬ ((own_I (vb + vc) (vd + ve) vr (vm + vn) p4) 7 - (1 : Int32)) < 0 ∧ ((own_I (vb + vc) (vd + ve) vr (vm + vn) p4) 7 - (1 : Int32)) < (4 : Int32) := by rw [h7]; exact own_01 h_vm
      have h3 : G78 3 (((own_I (vb + vc) (vd + ve) vr (vm + vn) p4) 7 - (1 : Int32))).toNatClampNeg = 2 := by rw [h7]; exact HP78.2.2.1 hn1
      have hxx : ¬ G78 3 (((own_I (vb + vc) (vd + ve) vr (vm + vn) p4) 7 - (1 : Int32))).toNatClampNeg < 0 ∧ G78 3 (((own_I (vb + vc) (vd + ve) vr (vm + vn) p4) 7 - (1 : Int32))).toNatClampNeg < (4 : Int32) := by rw [h3]; decide
      have Zs91 : n0 ≤ T83.heap.size := (Nat.le_trans Zs84 K83.1)
      obtain ⟨cq90, kq90, q90a, q90b, q90c⟩ := isOf hZ rfl HWu.1
      obtain ⟨_, _, ⟨T90, L90, kk90, n90⟩, -, X90, ⟨Lc90, hQ90, l90, y90, z90⟩, st90⟩ := X83.virtualBack hx (y := (⟨"com/example/hornloom/hornloom/engine/WaitList", "rewind", "(I)V"⟩ : MethodName)) (z := (⟨"com/example/hornloom/hornloom/engine/WaitList", "rewind", "(I)V"⟩ : MethodName)) hown (mvT hZ (hw _ (List.mem_of_getElem? (i := 103) rfl))) (mvT hZ (hw _ (List.mem_of_getElem? (i := 104) rfl))) (notFace_of_selects (args := #[]) (mvT hZ (hw _ (List.mem_of_getElem? (i := 106) rfl)))) (mvT hZ (hw _ (List.mem_of_getElem? (i := 106) rfl))) (mvT hZ (hw _ (List.mem_of_getElem? (i := 105) rfl))) (by decide) (backOf (W := 0) (rmrw1 l Z a0 hw [] b23 (p2 &&& (3 : Int32)) A (own_I (vb + vc) (vd + ve) vr (vm + vn) p4) G78 T83.heap n0 Zs91 HWu HD hk4 hm1 hm2 hwc he hxx) hZ (hw _ (List.mem_of_getElem? (i := 107) rfl)) (hw _ (List.mem_of_getElem? (i := 3) rfl)) (by decide) (by decide)) q90a q90c (g := (mkF m 245 #[.val (.int p0), .val (.int p1), .val (.int p2), .val (.int p3), .val (.int p4), .val (.int vb), .val (.int vd), .val (.int vm), .val (.int vr), .val (.int vc), .val (.int ve), .val (.int vn), .val (.int (p2 &&& (3 : Int32))), .val (.ref b22), .val (.ref b23), .val (.int (1 : Int32)), .unset, .unset, .unset, .unset, .unset, .unset, .unset] [(.int (p2 &&& (3 : Int32))), (.ref b23)])) rfl (by rw [hml]; rfl) (Steps.refl _) (argsL := [(.int (p2 &&& (3 : Int32)))]) (rest := []) (lenOf own_pd4 rfl) rfl (by show 2 * 0 + _ ≤ _; exact Nat.le_of_eq rfl) (hb hby at_245) (fun _ _ => ⟨rfl, rfl, (by decide : 22 + 0 ≤ _), (by decide : 156 + 0 ≤ _)⟩)
      dsimp only [Pt.U, Pt.locs, Pt.cells, Pt.slots] at X90 l90 y90 z90 st90 hQ90
      subst l90 y90 z90
      obtain ⟨rfl, N90q, K90, HW90⟩ := hQ90
      have N90 := Fr.app N83 N90q
      have k92 : own_To p e below T90 (mkF m 248 #[.val (.int p0), .val (.int p1), .val (.int p2), .val (.int p3), .val (.int p4), .val (.int vb), .val (.int vd), .val (.int vm), .val (.int vr), .val (.int vc), .val (.int ve), .val (.int vn), .val (.int (p2 &&& (3 : Int32))), .val (.ref b22), .val (.ref b23), .val (.int (1 : Int32)), .unset, .unset, .unset, .unset, .unset, .unset, .unset] []) s₁ (mkF m 0 #[.val (.int p0), .val (.int p1), .val (.int p2), .val (.int p3), .val (.int p4), .unset, .unset, .unset, .unset, .unset, .unset, .unset, .unset, .unset, .unset, .unset, .unset, .unset, .unset, .unset, .unset, .unset, .unset] []) := fun t q => k85 t (by
        refine st90.trans ?_
        show Steps p.tables e below (T90.setTop (mkF m 248 #[.val (.int p0), .val (.int p1), .val (.int p2), .val (.int p3), .val (.int p4), .val (.int vb), .val (.int vd), .val (.int vm), .val (.int vr), .val (.int vc), .val (.int ve), .val (.int vn), .val (.int (p2 &&& (3 : Int32))), .val (.ref b22), .val (.ref b23), .val (.int (1 : Int32)), .unset, .unset, .unset, .unset, .unset, .unset, .unset] [])) _
        exact q)
      have hI : (own_u (own_u (own_u (own_u (own_u (own_u (own_u (own_u (own_u (own_I (vb + vc) (vd + ve) vr (vm + vn) p4) 0 (G78 4 ((p2 &&& (3 : Int32))).toNatClampNeg)) 1 (G78 5 ((p2 &&& (3 : Int32))).toNatClampNeg)) 2 (G78 6 ((p2 &&& (3 : Int32))).toNatClampNeg)) 3 (G78 7 ((p2 &&& (3 : Int32))).toNatClampNeg)) 4 (G78 8 ((p2 &&& (3 : Int32))).toNatClampNeg)) 5 (G78 9 ((p2 &&& (3 : Int32))).toNatClampNeg)) 6 (G78 10 ((p2 &&& (3 : Int32))).toNatClampNeg)) 7 (((own_I (vb + vc) (vd + ve) vr (vm + vn) p4) 7) - (1 : Int32))) 9 ((own_g G78 14 ((G78 3 ((((own_I (vb + vc) (vd + ve) vr (vm + vn) p4) 7) - (1 : Int32))).toNatClampNeg)).toNatClampNeg (nar .boolean (0 : Int32))) 13 ((p2 &&& (3 : Int32))).toNatClampNeg)) = (own_I vb vd vr vm p3) := own_rw1 vb vc vd ve vr vm vn p3 p4 G78 ((p2 &&& (3 : Int32))).toNatClampNeg h7 HP78.2.2.2
      have HWx : own_W Z T90.heap b23 A (own_I vb vd vr vm p3) (own_g G78 14 ((G78 3 ((((own_I (vb + vc) (vd + ve) vr (vm + vn) p4) 7) - (1 : Int32))).toNatClampNeg)).toNatClampNeg (nar .boolean (0 : Int32))) := by rw [← hI]; exact HW90
      have hG2 : (own_g G78 14 ((G78 3 ((((own_I (vb + vc) (vd + ve) vr (vm + vn) p4) 7) - (1 : Int32))).toNatClampNeg)).toNatClampNeg (nar .boolean (0 : Int32))) 14 2 = 0 := by
        rw [h3]; rfl
      exact ⟨_, _, _, _, X90, rfl, N90, K90, HWx, ⟨HP78.1, hG2⟩, k92⟩
  have k93 : own_To p e below T86 (mkF m 250 #[.val (.int p0), .val (.int p1), .val (.int p2), .val (.int p3), .val (.int p4), .val (.int vb), .val (.int vd), .val (.int vm), .val (.int vr), .val (.int vc), .val (.int ve), .val (.int vn), .val (.int (p2 &&& (3 : Int32))), .val (.ref b22), .val (.ref b23), .val (.int (1 : Int32)), .unset, .unset, .unset, .unset, .unset, .unset, .unset] [(.int vb)]) s₁ (mkF m 0 #[.val (.int p0), .val (.int p1), .val (.int p2), .val (.int p3), .val (.int p4), .unset, .unset, .unset, .unset, .unset, .unset, .unset, .unset, .unset, .unset, .unset, .unset, .unset, .unset, .unset, .unset, .unset, .unset] []) := fun t q => k86 t (by
    refine XS.iload X86.here hx rfl (hb hby at_248) rfl ?_
    show Steps p.tables e below (T86.setTop (mkF m 250 #[.val (.int p0), .val (.int p1), .val (.int p2), .val (.int p3), .val (.int p4), .val (.int vb), .val (.int vd), .val (.int vm), .val (.int vr), .val (.int vc), .val (.int ve), .val (.int vn), .val (.int (p2 &&& (3 : Int32))), .val (.ref b22), .val (.ref b23), .val (.int (1 : Int32)), .unset, .unset, .unset, .unset, .unset, .unset, .unset] [(.int vb)])) _
    exact q)
  obtain ⟨ub, hub, k95⟩ : ∃ (ub : Int32), (ub = (if vb = (0 : Int32) then (0 : Int32) else (1 : Int32))) ∧ own_To p e below T86 (mkF m 258 #[.val (.int p0), .val (.int p1), .val (.int p2), .val (.int p3), .val (.int p4), .val (.int vb), .val (.int vd), .val (.int vm), .val (.int vr), .val (.int vc), .val (.int ve), .val (.int vn), .val (.int (p2 &&& (3 : Int32))), .val (.ref b22), .val (.ref b23), .val (.int (1 : Int32)), .unset, .unset, .unset, .unset, .unset, .unset, .unset] [(.int ub)]) s₁ (mkF m 0 #[.val (.int p0), .val (.int p1), .val (.int p2), .val (.int p3), .val (.int p4), .unset, .unset, .unset, .unset, .unset, .unset, .unset, .unset, .unset, .unset, .unset, .unset, .unset, .unset, .unset, .unset, .unset, .unset] []) := by
    by_cases hm94 : vb = (0 : Int32)
    ·
      refine ⟨(0 : Int32), by rw [if_pos hm94], fun t q => k93 t (?_)⟩
      refine XS.ifYes X86.here hx rfl (pc0 := 250) (pc' := 257) rfl (hb hby at_250) rfl ((if0 _ _).trans (teq hm94).1) (by decide) (by decide) ?_
      show Steps p.tables e below (T86.setTop (mkF m 257 #[.val (.int p0), .val (.int p1), .val (.int p2), .val (.int p3), .val (.int p4), .val (.int vb), .val (.int vd), .val (.int vm), .val (.int vr), .val (.int vc), .val (.int ve), .val (.int vn), .val (.int (p2 &&& (3 : Int32))), .val (.ref b22), .val (.ref b23), .val (.int (1 : Int32)), .unset, .unset, .unset, .unset, .unset, .unset, .unset] [])) _
      refine XS.iconst X86.here hx rfl (hb hby at_257) ?_
      show Steps p.tables e below (T86.setTop (mkF m 258 #[.val (.int p0), .val (.int p1), .val (.int p2), .val (.int p3), .val (.int p4), .val (.int vb), .val (.int vd), .val (.int vm), .val (.int vr), .val (.int vc), .val (.int ve), .val (.int vn), .val (.int (p2 &&& (3 : Int32))), .val (.ref b22), .val (.ref b23), .val (.int (1 : Int32)), .unset, .unset, .unset, .unset, .unset, .unset, .unset] [(.int (0 : Int32))])) _
      exact q
    ·
      refine ⟨(1 : Int32), by rw [if_neg hm94], fun t q => k93 t (?_)⟩
      refine XS.ifNo X86.here hx rfl (hb hby at_250) rfl ((if0 _ _).trans (feq hm94).1) ?_
      show Steps p.tables e below (T86.setTop (mkF m 253 #[.val (.int p0), .val (.int p1), .val (.int p2), .val (.int p3), .val (.int p4), .val (.int vb), .val (.int vd), .val (.int vm), .val (.int vr), .val (.int vc), .val (.int ve), .val (.int vn), .val (.int (p2 &&& (3 : Int32))), .val (.ref b22), .val (.ref b23), .val (.int (1 : Int32)), .unset, .unset, .unset, .unset, .unset, .unset, .unset] [])) _
      refine XS.iconst X86.here hx rfl (hb hby at_253) ?_
      show Steps p.tables e below (T86.setTop (mkF m 254 #[.val (.int p0), .val (.int p1), .val (.int p2), .val (.int p3), .val (.int p4), .val (.int vb), .val (.int vd), .val (.int vm), .val (.int vr), .val (.int vc), .val (.int ve), .val (.int vn), .val (.int (p2 &&& (3 : Int32))), .val (.ref b22), .val (.ref b23), .val (.int (1 : Int32)), .unset, .unset, .unset, .unset, .unset, .unset, .unset] [(.int (1 : Int32))])) _
      refine XS.goto X86.here hx rfl (pc0 := 254) (pc' := 258) rfl (hb hby at_254) (by decide) (by decide) ?_
      show Steps p.tables e below (T86.setTop (mkF m 258 #[.val (.int p0), .val (.int p1), .val (.int p2), .val (.int p3), .val (.int p4), .val (.int vb), .val (.int vd), .val (.int vm), .val (.int vr), .val (.int vc), .val (.int ve), .val (.int vn), .val (.int (p2 &&& (3 : Int32))), .val (.ref b22), .val (.ref b23), .val (.int (1 : Int32)), .unset, .unset, .unset, .unset, .unset, .unset, .unset] [(.int (1 : Int32))])) _
      exact q
  have ub_ : ub = vb := by rw [hub]; rcases h_vb with q | q <;> rw [q] <;> rfl
  have k96 : own_To p e below T86 (mkF m 262 #[.val (.int p0), .val (.int p1), .val (.int p2), .val (.int p3), .val (.int p4), .val (.int vb), .val (.int vd), .val (.int vm), .val (.int vr), .val (.int vc), .val (.int ve), .val (.int vn), .val (.int (p2 &&& (3 : Int32))), .val (.ref b22), .val (.ref b23), .val (.int (1 : Int32)), .val (.int ub), .unset, .unset, .unset, .unset, .unset, .unset] [(.int vd)]) s₁ (mkF m 0 #[.val (.int p0), .val (.int p1), .val (.int p2), .val (.int p3), .val (.int p4), .unset, .unset, .unset, .unset, .unset, .unset, .unset, .unset, .unset, .unset, .unset, .unset, .unset, .unset, .unset, .unset, .unset, .unset] []) := fun t q => k95 t (by
    refine XS.istore X86.here hx rfl (hb hby at_258) rfl (l' := #[.val (.int p0), .val (.int p1), .val (.int p2), .val (.int p3), .val (.int p4), .val (.int vb), .val (.int vd), .val (.int vm), .val (.int vr), .val (.int vc), .val (.int ve), .val (.int vn), .val (.int (p2 &&& (3 : Int32))), .val (.ref b22), .val (.ref b23), .val (.int (1 : Int32)), .val (.int ub), .unset, .unset, .unset, .unset, .unset, .unset]) rfl ?_
    show Steps p.tables e below (T86.setTop (mkF m 260 #[.val (.int p0), .val (.int p1), .val (.int p2), .val (.int p3), .val (.int p4), .val (.int vb), .val (.int vd), .val (.int vm), .val (.int vr), .val (.int vc), .val (.int ve), .val (.int vn), .val (.int (p2 &&& (3 : Int32))), .val (.ref b22), .val (.ref b23), .val (.int (1 : Int32)), .val (.int ub), .unset, .unset, .unset, .unset, .unset, .unset] [])) _
    refine XS.iload X86.here hx rfl (hb hby at_260) rfl ?_
    show Steps p.tables e below (T86.setTop (mkF m 262 #[.val (.int p0), .val (.int p1), .val (.int p2), .val (.int p3), .val (.int p4), .val (.int vb), .val (.int vd), .val (.int vm), .val (.int vr), .val (.int vc), .val (.int ve), .val (.int vn), .val (.int (p2 &&& (3 : Int32))), .val (.ref b22), .val (.ref b23), .val (.int (1 : Int32)), .val (.int ub), .unset, .unset, .unset, .unset, .unset, .unset] [(.int vd)])) _
    exact q)
  obtain ⟨ud, hud, k98⟩ : ∃ (ud : Int32), (ud = (if vd = (0 : Int32) then (0 : Int32) else (1 : Int32))) ∧ own_To p e below T86 (mkF m 270 #[.val (.int p0), .val (.int p1), .val (.int p2), .val (.int p3), .val (.int p4), .val (.int vb), .val (.int vd), .val (.int vm), .val (.int vr), .val (.int vc), .val (.int ve), .val (.int vn), .val (.int (p2 &&& (3 : Int32))), .val (.ref b22), .val (.ref b23), .val (.int (1 : Int32)), .val (.int ub), .unset, .unset, .unset, .unset, .unset, .unset] [(.int ud)]) s₁ (mkF m 0 #[.val (.int p0), .val (.int p1), .val (.int p2), .val (.int p3), .val (.int p4), .unset, .unset, .unset, .unset, .unset, .unset, .unset, .unset, .unset, .unset, .unset, .unset, .unset, .unset, .unset, .unset, .unset, .unset] []) := by
    by_cases hm97 : vd = (0 : Int32)
    ·
      refine ⟨(0 : Int32), by rw [if_pos hm97], fun t q => k96 t (?_)⟩
      refine XS.ifYes X86.here hx rfl (pc0 := 262) (pc' := 269) rfl (hb hby at_262) rfl ((if0 _ _).trans (teq hm97).1) (by decide) (by decide) ?_
      show Steps p.tables e below (T86.setTop (mkF m 269 #[.val (.int p0), .val (.int p1), .val (.int p2), .val (.int p3), .val (.int p4), .val (.int vb), .val (.int vd), .val (.int vm), .val (.int vr), .val (.int vc), .val (.int ve), .val (.int vn), .val (.int (p2 &&& (3 : Int32))), .val (.ref b22), .val (.ref b23), .val (.int (1 : Int32)), .val (.int ub), .unset, .unset, .unset, .unset, .unset, .unset] [])) _
      refine XS.iconst X86.here hx rfl (hb hby at_269) ?_
      show Steps p.tables e below (T86.setTop (mkF m 270 #[.val (.int p0), .val (.int p1), .val (.int p2), .val (.int p3), .val (.int p4), .val (.int vb), .val (.int vd), .val (.int vm), .val (.int vr), .val (.int vc), .val (.int ve), .val (.int vn), .val (.int (p2 &&& (3 : Int32))), .val (.ref b22), .val (.ref b23), .val (.int (1 : Int32)), .val (.int ub), .unset, .unset, .unset, .unset, .unset, .unset] [(.int (0 : Int32))])) _
      exact q
    ·
      refine ⟨(1 : Int32), by rw [if_neg hm97], fun t q => k96 t (?_)⟩
      refine XS.ifNo X86.here hx rfl (hb hby at_262) rfl ((if0 _ _).trans (feq hm97).1) ?_
      show Steps p.tables e below (T86.setTop (mkF m 265 #[.val (.int p0), .val (.int p1), .val (.int p2), .val (.int p3), .val (.int p4), .val (.int vb), .val (.int vd), .val (.int vm), .val (.int vr), .val (.int vc), .val (.int ve), .val (.int vn), .val (.int (p2 &&& (3 : Int32))), .val (.ref b22), .val (.ref b23), .val (.int (1 : Int32)), .val (.int ub), .unset, .unset, .unset, .unset, .unset, .unset] [])) _
      refine XS.iconst X86.here hx rfl (hb hby at_265) ?_
      show Steps p.tables e below (T86.setTop (mkF m 266 #[.val (.int p0), .val (.int p1), .val (.int p2), .val (.int p3), .val (.int p4), .val (.int vb), .val (.int vd), .val (.int vm), .val (.int vr), .val (.int vc), .val (.int ve), .val (.int vn), .val (.int (p2 &&& (3 : Int32))), .val (.ref b22), .val (.ref b23), .val (.int (1 : Int32)), .val (.int ub), .unset, .unset, .unset, .unset, .unset, .unset] [(.int (1 : Int32))])) _
      refine XS.goto X86.here hx rfl (pc0 := 266) (pc' := 270) rfl (hb hby at_266) (by decide) (by decide) ?_
      show Steps p.tables e below (T86.setTop (mkF m 270 #[.val (.int p0), .val (.int p1), .val (.int p2), .val (.int p3), .val (.int p4), .val (.int vb), .val (.int vd), .val (.int vm), .val (.int vr), .val (.int vc), .val (.int ve), .val (.int vn), .val (.int (p2 &&& (3 : Int32))), .val (.ref b22), .val (.ref b23), .val (.int (1 : Int32)), .val (.int ub), .unset, .unset, .unset, .unset, .unset, .unset] [(.int (1 : Int32))])) _
      exact q
  have ud_ : ud = vd := by rw [hud]; rcases h_vd with q | q <;> rw [q] <;> rfl
  have k99 : own_To p e below T86 (mkF m 274 #[.val (.int p0), .val (.int p1), .val (.int p2), .val (.int p3), .val (.int p4), .val (.int vb), .val (.int vd), .val (.int vm), .val (.int vr), .val (.int vc), .val (.int ve), .val (.int vn), .val (.int (p2 &&& (3 : Int32))), .val (.ref b22), .val (.ref b23), .val (.int (1 : Int32)), .val (.int ub), .val (.int ud), .unset, .unset, .unset, .unset, .unset] [(.int vm)]) s₁ (mkF m 0 #[.val (.int p0), .val (.int p1), .val (.int p2), .val (.int p3), .val (.int p4), .unset, .unset, .unset, .unset, .unset, .unset, .unset, .unset, .unset, .unset, .unset, .unset, .unset, .unset, .unset, .unset, .unset, .unset] []) := fun t q => k98 t (by
    refine XS.istore X86.here hx rfl (hb hby at_270) rfl (l' := #[.val (.int p0), .val (.int p1), .val (.int p2), .val (.int p3), .val (.int p4), .val (.int vb), .val (.int vd), .val (.int vm), .val (.int vr), .val (.int vc), .val (.int ve), .val (.int vn), .val (.int (p2 &&& (3 : Int32))), .val (.ref b22), .val (.ref b23), .val (.int (1 : Int32)), .val (.int ub), .val (.int ud), .unset, .unset, .unset, .unset, .unset]) rfl ?_
    show Steps p.tables e below (T86.setTop (mkF m 272 #[.val (.int p0), .val (.int p1), .val (.int p2), .val (.int p3), .val (.int p4), .val (.int vb), .val (.int vd), .val (.int vm), .val (.int vr), .val (.int vc), .val (.int ve), .val (.int vn), .val (.int (p2 &&& (3 : Int32))), .val (.ref b22), .val (.ref b23), .val (.int (1 : Int32)), .val (.int ub), .val (.int ud), .unset, .unset, .unset, .unset, .unset] [])) _
    refine XS.iload X86.here hx rfl (hb hby at_272) rfl ?_
    show Steps p.tables e below (T86.setTop (mkF m 274 #[.val (.int p0), .val (.int p1), .val (.int p2), .val (.int p3), .val (.int p4), .val (.int vb), .val (.int vd), .val (.int vm), .val (.int vr), .val (.int vc), .val (.int ve), .val (.int vn), .val (.int (p2 &&& (3 : Int32))), .val (.ref b22), .val (.ref b23), .val (.int (1 : Int32)), .val (.int ub), .val (.int ud), .unset, .unset, .unset, .unset, .unset] [(.int vm)])) _
    exact q)
  obtain ⟨um, hum, k101⟩ : ∃ (um : Int32), (um = (if vm = (0 : Int32) then (0 : Int32) else (1 : Int32))) ∧ own_To p e below T86 (mkF m 282 #[.val (.int p0), .val (.int p1), .val (.int p2), .val (.int p3), .val (.int p4), .val (.int vb), .val (.int vd), .val (.int vm), .val (.int vr), .val (.int vc), .val (.int ve), .val (.int vn), .val (.int (p2 &&& (3 : Int32))), .val (.ref b22), .val (.ref b23), .val (.int (1 : Int32)), .val (.int ub), .val (.int ud), .unset, .unset, .unset, .unset, .unset] [(.int um)]) s₁ (mkF m 0 #[.val (.int p0), .val (.int p1), .val (.int p2), .val (.int p3), .val (.int p4), .unset, .unset, .unset, .unset, .unset, .unset, .unset, .unset, .unset, .unset, .unset, .unset, .unset, .unset, .unset, .unset, .unset, .unset] []) := by
    by_cases hm100 : vm = (0 : Int32)
    ·
      refine ⟨(0 : Int32), by rw [if_pos hm100], fun t q => k99 t (?_)⟩
      refine XS.ifYes X86.here hx rfl (pc0 := 274) (pc' := 281) rfl (hb hby at_274) rfl ((if0 _ _).trans (teq hm100).1) (by decide) (by decide) ?_
      show Steps p.tables e below (T86.setTop (mkF m 281 #[.val (.int p0), .val (.int p1), .val (.int p2), .val (.int p3), .val (.int p4), .val (.int vb), .val (.int vd), .val (.int vm), .val (.int vr), .val (.int vc), .val (.int ve), .val (.int vn), .val (.int (p2 &&& (3 : Int32))), .val (.ref b22), .val (.ref b23), .val (.int (1 : Int32)), .val (.int ub), .val (.int ud), .unset, .unset, .unset, .unset, .unset] [])) _
      refine XS.iconst X86.here hx rfl (hb hby at_281) ?_
      show Steps p.tables e below (T86.setTop (mkF m 282 #[.val (.int p0), .val (.int p1), .val (.int p2), .val (.int p3), .val (.int p4), .val (.int vb), .val (.int vd), .val (.int vm), .val (.int vr), .val (.int vc), .val (.int ve), .val (.int vn), .val (.int (p2 &&& (3 : Int32))), .val (.ref b22), .val (.ref b23), .val (.int (1 : Int32)), .val (.int ub), .val (.int ud), .unset, .unset, .unset, .unset, .unset] [(.int (0 : Int32))])) _
      exact q
    ·
      refine ⟨(1 : Int32), by rw [if_neg hm100], fun t q => k99 t (?_)⟩
      refine XS.ifNo X86.here hx rfl (hb hby at_274) rfl ((if0 _ _).trans (feq hm100).1) ?_
      show Steps p.tables e below (T86.setTop (mkF m 277 #[.val (.int p0), .val (.int p1), .val (.int p2), .val (.int p3), .val (.int p4), .val (.int vb), .val (.int vd), .val (.int vm), .val (.int vr), .val (.int vc), .val (.int ve), .val (.int vn), .val (.int (p2 &&& (3 : Int32))), .val (.ref b22), .val (.ref b23), .val (.int (1 : Int32)), .val (.int ub), .val (.int ud), .unset, .unset, .unset, .unset, .unset] [])) _
      refine XS.iconst X86.here hx rfl (hb hby at_277) ?_
      show Steps p.tables e below (T86.setTop (mkF m 278 #[.val (.int p0), .val (.int p1), .val (.int p2), .val (.int p3), .val (.int p4), .val (.int vb), .val (.int vd), .val (.int vm), .val (.int vr), .val (.int vc), .val (.int ve), .val (.int vn), .val (.int (p2 &&& (3 : Int32))), .val (.ref b22), .val (.ref b23), .val (.int (1 : Int32)), .val (.int ub), .val (.int ud), .unset, .unset, .unset, .unset, .unset] [(.int (1 : Int32))])) _
      refine XS.goto X86.here hx rfl (pc0 := 278) (pc' := 282) rfl (hb hby at_278) (by decide) (by decide) ?_
      show Steps p.tables e below (T86.setTop (mkF m 282 #[.val (.int p0), .val (.int p1), .val (.int p2), .val (.int p3), .val (.int p4), .val (.int vb), .val (.int vd), .val (.int vm), .val (.int vr), .val (.int vc), .val (.int ve), .val (.int vn), .val (.int (p2 &&& (3 : Int32))), .val (.ref b22), .val (.ref b23), .val (.int (1 : Int32)), .val (.int ub), .val (.int ud), .unset, .unset, .unset, .unset, .unset] [(.int (1 : Int32))])) _
      exact q
  have um_ : um = vm := by rw [hum]; rcases h_vm with q | q <;> rw [q] <;> rfl
  have Zs103 : n0 ≤ h86.size := (Nat.le_trans (Nat.le_trans Zs84 K83.1) K86.1)
  obtain ⟨cq102, kq102, q102a, q102b, q102c⟩ := isOf hZ e86 HW86.1
  obtain ⟨_, _, ⟨T102, L102, kk102, n102⟩, -, X102, ⟨Lc102, hQ102, l102, y102, z102⟩, st102⟩ := X86.virtualBack hx (y := (⟨"com/example/hornloom/hornloom/engine/WaitList", "trailLooked", "()I"⟩ : MethodName)) (z := (⟨"com/example/hornloom/hornloom/engine/WaitList", "trailLooked", "()I"⟩ : MethodName)) hown (mvT hZ (hw _ (List.mem_of_getElem? (i := 108) rfl))) (mvT hZ (hw _ (List.mem_of_getElem? (i := 109) rfl))) (notFace_of_selects (args := #[]) (mvT hZ (hw _ (List.mem_of_getElem? (i := 111) rfl)))) (mvT hZ (hw _ (List.mem_of_getElem? (i := 111) rfl))) (mvT hZ (hw _ (List.mem_of_getElem? (i := 110) rfl))) (by decide) (backOf (W := 0) (rmgtl l Z a0 hw [] b23 A (own_I vb vd vr vm p3) G86 h86 n0 Zs103 HW86 HD) hZ (hw _ (List.mem_of_getElem? (i := 112) rfl)) (hw _ (List.mem_of_getElem? (i := 3) rfl)) (by decide) (by decide)) q102a q102c (g := (mkF m 286 #[.val (.int p0), .val (.int p1), .val (.int p2), .val (.int p3), .val (.int p4), .val (.int vb), .val (.int vd), .val (.int vm), .val (.int vr), .val (.int vc), .val (.int ve), .val (.int vn), .val (.int (p2 &&& (3 : Int32))), .val (.ref b22), .val (.ref b23), .val (.int (1 : Int32)), .val (.int ub), .val (.int ud), .val (.int um), .unset, .unset, .unset, .unset] [(.ref b23)])) rfl (by rw [hml]; rfl) (Steps.refl _) (argsL := []) (rest := []) (lenOf own_pd0 rfl) rfl (by show 2 * 0 + _ ≤ _; exact Nat.le_of_eq rfl) (hb hby at_286) (fun _ _ => ⟨rfl, e86, (by decide : 22 + 0 ≤ _), (by decide : 156 + 0 ≤ _)⟩)
  dsimp only [Pt.U, Pt.locs, Pt.cells, Pt.slots] at X102 l102 y102 z102 st102 hQ102
  subst l102 y102 z102
  obtain ⟨rfl, N102q, e102⟩ := hQ102
  have N102 := Fr.app N86 N102q
  obtain ⟨cq104, kq104, q104a, q104b, q104c⟩ := isOf hZ e102 HW86.1
  obtain ⟨_, _, ⟨T104, L104, kk104, n104⟩, -, X104, ⟨Lc104, hQ104, l104, y104, z104⟩, st104⟩ := X102.virtualBack hx (y := (⟨"com/example/hornloom/hornloom/engine/WaitList", "isEmpty", "()Z"⟩ : MethodName)) (z := (⟨"com/example/hornloom/hornloom/engine/WaitList", "isEmpty", "()Z"⟩ : MethodName)) hown (mvT hZ (hw _ (List.mem_of_getElem? (i := 113) rfl))) (mvT hZ (hw _ (List.mem_of_getElem? (i := 114) rfl))) (notFace_of_selects (args := #[]) (mvT hZ (hw _ (List.mem_of_getElem? (i := 116) rfl)))) (mvT hZ (hw _ (List.mem_of_getElem? (i := 116) rfl))) (mvT hZ (hw _ (List.mem_of_getElem? (i := 115) rfl))) (by decide) (backOf (W := 0) (rmem l Z a0 hw [] b23 A (own_I vb vd vr vm p3) G86 h86 n0 Zs103 HW86 HD) hZ (hw _ (List.mem_of_getElem? (i := 117) rfl)) (hw _ (List.mem_of_getElem? (i := 3) rfl)) (by decide) (by decide)) q104a q104c (g := (mkF m 302 #[.val (.int p0), .val (.int p1), .val (.int p2), .val (.int p3), .val (.int p4), .val (.int vb), .val (.int vd), .val (.int vm), .val (.int vr), .val (.int vc), .val (.int ve), .val (.int vn), .val (.int (p2 &&& (3 : Int32))), .val (.ref b22), .val (.ref b23), .val (.int (1 : Int32)), .val (.int ub), .val (.int ud), .val (.int um), .val (.int (1 : Int32)), .unset, .unset, .unset] [(.ref b23)])) rfl (by rw [hml]; rfl) (Steps.refl _) (argsL := []) (rest := []) (lenOf own_pd2 rfl) rfl (by show 2 * 0 + _ ≤ _; exact Nat.le_of_eq rfl) (hb hby at_302) (fun _ _ => ⟨rfl, e102, (by decide : 22 + 0 ≤ _), (by decide : 156 + 0 ≤ _)⟩)
  dsimp only [Pt.U, Pt.locs, Pt.cells, Pt.slots] at X104 l104 y104 z104 st104 hQ104
  subst l104 y104 z104
  obtain ⟨rfl, N104q, e104⟩ := hQ104
  have N104 := Fr.app N102 N104q
  have k105 : own_To p e below T104 (mkF m 309 #[.val (.int p0), .val (.int p1), .val (.int p2), .val (.int p3), .val (.int p4), .val (.int vb), .val (.int vd), .val (.int vm), .val (.int vr), .val (.int vc), .val (.int ve), .val (.int vn), .val (.int (p2 &&& (3 : Int32))), .val (.ref b22), .val (.ref b23), .val (.int (1 : Int32)), .val (.int ub), .val (.int ud), .val (.int um), .val (.int (1 : Int32)), .unset, .unset, .unset] [(.int ud), (.int ub), (.int (own_em (own_I vb vd vr vm p3)))]) s₁ (mkF m 0 #[.val (.int p0), .val (.int p1), .val (.int p2), .val (.int p3), .val (.int p4), .unset, .unset, .unset, .unset, .unset, .unset, .unset, .unset, .unset, .unset, .unset, .unset, .unset, .unset, .unset, .unset, .unset, .unset] []) := fun t q => k101 t (by
    refine XS.istore X86.here hx rfl (hb hby at_282) rfl (l' := #[.val (.int p0), .val (.int p1), .val (.int p2), .val (.int p3), .val (.int p4), .val (.int vb), .val (.int vd), .val (.int vm), .val (.int vr), .val (.int vc), .val (.int ve), .val (.int vn), .val (.int (p2 &&& (3 : Int32))), .val (.ref b22), .val (.ref b23), .val (.int (1 : Int32)), .val (.int ub), .val (.int ud), .val (.int um), .unset, .unset, .unset, .unset]) rfl ?_
    show Steps p.tables e below (T86.setTop (mkF m 284 #[.val (.int p0), .val (.int p1), .val (.int p2), .val (.int p3), .val (.int p4), .val (.int vb), .val (.int vd), .val (.int vm), .val (.int vr), .val (.int vc), .val (.int ve), .val (.int vn), .val (.int (p2 &&& (3 : Int32))), .val (.ref b22), .val (.ref b23), .val (.int (1 : Int32)), .val (.int ub), .val (.int ud), .val (.int um), .unset, .unset, .unset, .unset] [])) _
    refine XS.aload X86.here hx rfl (hb hby at_284) rfl rfl ?_
    show Steps p.tables e below (T86.setTop (mkF m 286 #[.val (.int p0), .val (.int p1), .val (.int p2), .val (.int p3), .val (.int p4), .val (.int vb), .val (.int vd), .val (.int vm), .val (.int vr), .val (.int vc), .val (.int ve), .val (.int vn), .val (.int (p2 &&& (3 : Int32))), .val (.ref b22), .val (.ref b23), .val (.int (1 : Int32)), .val (.int ub), .val (.int ud), .val (.int um), .unset, .unset, .unset, .unset] [(.ref b23)])) _
    refine st102.trans ?_
    show Steps p.tables e below (T102.setTop (mkF m 289 #[.val (.int p0), .val (.int p1), .val (.int p2), .val (.int p3), .val (.int p4), .val (.int vb), .val (.int vd), .val (.int vm), .val (.int vr), .val (.int vc), .val (.int ve), .val (.int vn), .val (.int (p2 &&& (3 : Int32))), .val (.ref b22), .val (.ref b23), .val (.int (1 : Int32)), .val (.int ub), .val (.int ud), .val (.int um), .unset, .unset, .unset, .unset] [(.int ((own_I vb vd vr vm p3) 9))])) _
    refine XS.iloadN X102.here hx rfl (hb hby at_289) rfl ?_
    show Steps p.tables e below (T102.setTop (mkF m 290 #[.val (.int p0), .val (.int p1), .val (.int p2), .val (.int p3), .val (.int p4), .val (.int vb), .val (.int vd), .val (.int vm), .val (.int vr), .val (.int vc), .val (.int ve), .val (.int vn), .val (.int (p2 &&& (3 : Int32))), .val (.ref b22), .val (.ref b23), .val (.int (1 : Int32)), .val (.int ub), .val (.int ud), .val (.int um), .unset, .unset, .unset, .unset] [(.int p3), (.int ((own_I vb vd vr vm p3) 9))])) _
    refine XS.icmpNo X102.here hx rfl (hb hby at_290) rfl (teq rfl).2 ?_
    show Steps p.tables e below (T102.setTop (mkF m 293 #[.val (.int p0), .val (.int p1), .val (.int p2), .val (.int p3), .val (.int p4), .val (.int vb), .val (.int vd), .val (.int vm), .val (.int vr), .val (.int vc), .val (.int ve), .val (.int vn), .val (.int (p2 &&& (3 : Int32))), .val (.ref b22), .val (.ref b23), .val (.int (1 : Int32)), .val (.int ub), .val (.int ud), .val (.int um), .unset, .unset, .unset, .unset] [])) _
    refine XS.iconst X102.here hx rfl (hb hby at_293) ?_
    show Steps p.tables e below (T102.setTop (mkF m 294 #[.val (.int p0), .val (.int p1), .val (.int p2), .val (.int p3), .val (.int p4), .val (.int vb), .val (.int vd), .val (.int vm), .val (.int vr), .val (.int vc), .val (.int ve), .val (.int vn), .val (.int (p2 &&& (3 : Int32))), .val (.ref b22), .val (.ref b23), .val (.int (1 : Int32)), .val (.int ub), .val (.int ud), .val (.int um), .unset, .unset, .unset, .unset] [(.int (1 : Int32))])) _
    refine XS.goto X102.here hx rfl (pc0 := 294) (pc' := 298) rfl (hb hby at_294) (by decide) (by decide) ?_
    show Steps p.tables e below (T102.setTop (mkF m 298 #[.val (.int p0), .val (.int p1), .val (.int p2), .val (.int p3), .val (.int p4), .val (.int vb), .val (.int vd), .val (.int vm), .val (.int vr), .val (.int vc), .val (.int ve), .val (.int vn), .val (.int (p2 &&& (3 : Int32))), .val (.ref b22), .val (.ref b23), .val (.int (1 : Int32)), .val (.int ub), .val (.int ud), .val (.int um), .unset, .unset, .unset, .unset] [(.int (1 : Int32))])) _
    refine XS.istore X102.here hx rfl (hb hby at_298) rfl (l' := #[.val (.int p0), .val (.int p1), .val (.int p2), .val (.int p3), .val (.int p4), .val (.int vb), .val (.int vd), .val (.int vm), .val (.int vr), .val (.int vc), .val (.int ve), .val (.int vn), .val (.int (p2 &&& (3 : Int32))), .val (.ref b22), .val (.ref b23), .val (.int (1 : Int32)), .val (.int ub), .val (.int ud), .val (.int um), .val (.int (1 : Int32)), .unset, .unset, .unset]) rfl ?_
    show Steps p.tables e below (T102.setTop (mkF m 300 #[.val (.int p0), .val (.int p1), .val (.int p2), .val (.int p3), .val (.int p4), .val (.int vb), .val (.int vd), .val (.int vm), .val (.int vr), .val (.int vc), .val (.int ve), .val (.int vn), .val (.int (p2 &&& (3 : Int32))), .val (.ref b22), .val (.ref b23), .val (.int (1 : Int32)), .val (.int ub), .val (.int ud), .val (.int um), .val (.int (1 : Int32)), .unset, .unset, .unset] [])) _
    refine XS.aload X102.here hx rfl (hb hby at_300) rfl rfl ?_
    show Steps p.tables e below (T102.setTop (mkF m 302 #[.val (.int p0), .val (.int p1), .val (.int p2), .val (.int p3), .val (.int p4), .val (.int vb), .val (.int vd), .val (.int vm), .val (.int vr), .val (.int vc), .val (.int ve), .val (.int vn), .val (.int (p2 &&& (3 : Int32))), .val (.ref b22), .val (.ref b23), .val (.int (1 : Int32)), .val (.int ub), .val (.int ud), .val (.int um), .val (.int (1 : Int32)), .unset, .unset, .unset] [(.ref b23)])) _
    refine st104.trans ?_
    show Steps p.tables e below (T104.setTop (mkF m 305 #[.val (.int p0), .val (.int p1), .val (.int p2), .val (.int p3), .val (.int p4), .val (.int vb), .val (.int vd), .val (.int vm), .val (.int vr), .val (.int vc), .val (.int ve), .val (.int vn), .val (.int (p2 &&& (3 : Int32))), .val (.ref b22), .val (.ref b23), .val (.int (1 : Int32)), .val (.int ub), .val (.int ud), .val (.int um), .val (.int (1 : Int32)), .unset, .unset, .unset] [(.int (own_em (own_I vb vd vr vm p3)))])) _
    refine XS.iload X104.here hx rfl (hb hby at_305) rfl ?_
    show Steps p.tables e below (T104.setTop (mkF m 307 #[.val (.int p0), .val (.int p1), .val (.int p2), .val (.int p3), .val (.int p4), .val (.int vb), .val (.int vd), .val (.int vm), .val (.int vr), .val (.int vc), .val (.int ve), .val (.int vn), .val (.int (p2 &&& (3 : Int32))), .val (.ref b22), .val (.ref b23), .val (.int (1 : Int32)), .val (.int ub), .val (.int ud), .val (.int um), .val (.int (1 : Int32)), .unset, .unset, .unset] [(.int ub), (.int (own_em (own_I vb vd vr vm p3)))])) _
    refine XS.iload X104.here hx rfl (hb hby at_307) rfl ?_
    show Steps p.tables e below (T104.setTop (mkF m 309 #[.val (.int p0), .val (.int p1), .val (.int p2), .val (.int p3), .val (.int p4), .val (.int vb), .val (.int vd), .val (.int vm), .val (.int vr), .val (.int vc), .val (.int ve), .val (.int vn), .val (.int (p2 &&& (3 : Int32))), .val (.ref b22), .val (.ref b23), .val (.int (1 : Int32)), .val (.int ub), .val (.int ud), .val (.int um), .val (.int (1 : Int32)), .unset, .unset, .unset] [(.int ud), (.int ub), (.int (own_em (own_I vb vd vr vm p3)))])) _
    exact q)
  have k106 : own_To p e below T104 (mkF m 310 #[.val (.int p0), .val (.int p1), .val (.int p2), .val (.int p3), .val (.int p4), .val (.int vb), .val (.int vd), .val (.int vm), .val (.int vr), .val (.int vc), .val (.int ve), .val (.int vn), .val (.int (p2 &&& (3 : Int32))), .val (.ref b22), .val (.ref b23), .val (.int (1 : Int32)), .val (.int ub), .val (.int ud), .val (.int um), .val (.int (1 : Int32)), .unset, .unset, .unset] [(.int (ub + ud)), (.int (own_em (own_I vb vd vr vm p3)))]) s₁ (mkF m 0 #[.val (.int p0), .val (.int p1), .val (.int p2), .val (.int p3), .val (.int p4), .unset, .unset, .unset, .unset, .unset, .unset, .unset, .unset, .unset, .unset, .unset, .unset, .unset, .unset, .unset, .unset, .unset, .unset] []) := fun t q => k105 t (by
    refine XS.iadd X104.here hx rfl (hb hby at_309) rfl ?_
    show Steps p.tables e below (T104.setTop (mkF m 310 #[.val (.int p0), .val (.int p1), .val (.int p2), .val (.int p3), .val (.int p4), .val (.int vb), .val (.int vd), .val (.int vm), .val (.int vr), .val (.int vc), .val (.int ve), .val (.int vn), .val (.int (p2 &&& (3 : Int32))), .val (.ref b22), .val (.ref b23), .val (.int (1 : Int32)), .val (.int ub), .val (.int ud), .val (.int um), .val (.int (1 : Int32)), .unset, .unset, .unset] [(.int (ub + ud)), (.int (own_em (own_I vb vd vr vm p3)))])) _
    exact q)
  obtain ⟨uq, huq, k108⟩ : ∃ (uq : Int32), (uq = (if (ub + ud) = (0 : Int32) then (1 : Int32) else (0 : Int32))) ∧ own_To p e below T104 (mkF m 318 #[.val (.int p0), .val (.int p1), .val (.int p2), .val (.int p3), .val (.int p4), .val (.int vb), .val (.int vd), .val (.int vm), .val (.int vr), .val (.int vc), .val (.int ve), .val (.int vn), .val (.int (p2 &&& (3 : Int32))), .val (.ref b22), .val (.ref b23), .val (.int (1 : Int32)), .val (.int ub), .val (.int ud), .val (.int um), .val (.int (1 : Int32)), .unset, .unset, .unset] [(.int uq), (.int (own_em (own_I vb vd vr vm p3)))]) s₁ (mkF m 0 #[.val (.int p0), .val (.int p1), .val (.int p2), .val (.int p3), .val (.int p4), .unset, .unset, .unset, .unset, .unset, .unset, .unset, .unset, .unset, .unset, .unset, .unset, .unset, .unset, .unset, .unset, .unset, .unset] []) := by
    by_cases hm107 : (ub + ud) = (0 : Int32)
    ·
      refine ⟨(1 : Int32), by rw [if_pos hm107], fun t q => k106 t (?_)⟩
      refine XS.ifNo X104.here hx rfl (hb hby at_310) rfl ((if0 _ _).trans (teq hm107).2) ?_
      show Steps p.tables e below (T104.setTop (mkF m 313 #[.val (.int p0), .val (.int p1), .val (.int p2), .val (.int p3), .val (.int p4), .val (.int vb), .val (.int vd), .val (.int vm), .val (.int vr), .val (.int vc), .val (.int ve), .val (.int vn), .val (.int (p2 &&& (3 : Int32))), .val (.ref b22), .val (.ref b23), .val (.int (1 : Int32)), .val (.int ub), .val (.int ud), .val (.int um), .val (.int (1 : Int32)), .unset, .unset, .unset] [(.int (own_em (own_I vb vd vr vm p3)))])) _
      refine XS.iconst X104.here hx rfl (hb hby at_313) ?_
      show Steps p.tables e below (T104.setTop (mkF m 314 #[.val (.int p0), .val (.int p1), .val (.int p2), .val (.int p3), .val (.int p4), .val (.int vb), .val (.int vd), .val (.int vm), .val (.int vr), .val (.int vc), .val (.int ve), .val (.int vn), .val (.int (p2 &&& (3 : Int32))), .val (.ref b22), .val (.ref b23), .val (.int (1 : Int32)), .val (.int ub), .val (.int ud), .val (.int um), .val (.int (1 : Int32)), .unset, .unset, .unset] [(.int (1 : Int32)), (.int (own_em (own_I vb vd vr vm p3)))])) _
      refine XS.goto X104.here hx rfl (pc0 := 314) (pc' := 318) rfl (hb hby at_314) (by decide) (by decide) ?_
      show Steps p.tables e below (T104.setTop (mkF m 318 #[.val (.int p0), .val (.int p1), .val (.int p2), .val (.int p3), .val (.int p4), .val (.int vb), .val (.int vd), .val (.int vm), .val (.int vr), .val (.int vc), .val (.int ve), .val (.int vn), .val (.int (p2 &&& (3 : Int32))), .val (.ref b22), .val (.ref b23), .val (.int (1 : Int32)), .val (.int ub), .val (.int ud), .val (.int um), .val (.int (1 : Int32)), .unset, .unset, .unset] [(.int (1 : Int32)), (.int (own_em (own_I vb vd vr vm p3)))])) _
      exact q
    ·
      refine ⟨(0 : Int32), by rw [if_neg hm107], fun t q => k106 t (?_)⟩
      refine XS.ifYes X104.here hx rfl (pc0 := 310) (pc' := 317) rfl (hb hby at_310) rfl ((if0 _ _).trans (feq hm107).2) (by decide) (by decide) ?_
      show Steps p.tables e below (T104.setTop (mkF m 317 #[.val (.int p0), .val (.int p1), .val (.int p2), .val (.int p3), .val (.int p4), .val (.int vb), .val (.int vd), .val (.int vm), .val (.int vr), .val (.int vc), .val (.int ve), .val (.int vn), .val (.int (p2 &&& (3 : Int32))), .val (.ref b22), .val (.ref b23), .val (.int (1 : Int32)), .val (.int ub), .val (.int ud), .val (.int um), .val (.int (1 : Int32)), .unset, .unset, .unset] [(.int (own_em (own_I vb vd vr vm p3)))])) _
      refine XS.iconst X104.here hx rfl (hb hby at_317) ?_
      show Steps p.tables e below (T104.setTop (mkF m 318 #[.val (.int p0), .val (.int p1), .val (.int p2), .val (.int p3), .val (.int p4), .val (.int vb), .val (.int vd), .val (.int vm), .val (.int vr), .val (.int vc), .val (.int ve), .val (.int vn), .val (.int (p2 &&& (3 : Int32))), .val (.ref b22), .val (.ref b23), .val (.int (1 : Int32)), .val (.int ub), .val (.int ud), .val (.int um), .val (.int (1 : Int32)), .unset, .unset, .unset] [(.int (0 : Int32)), (.int (own_em (own_I vb vd vr vm p3)))])) _
      exact q
  obtain ⟨cq109, kq109, q109a, q109b, q109c⟩ := isOf hZ e104 HW86.1
  obtain ⟨_, _, ⟨T109, L109, kk109, n109⟩, -, X109, ⟨Lc109, hQ109, l109, y109, z109⟩, st109⟩ := X104.virtualBack hx (y := (⟨"com/example/hornloom/hornloom/engine/WaitList", "allMatched", "()Z"⟩ : MethodName)) (z := (⟨"com/example/hornloom/hornloom/engine/WaitList", "allMatched", "()Z"⟩ : MethodName)) hown (mvT hZ (hw _ (List.mem_of_getElem? (i := 118) rfl))) (mvT hZ (hw _ (List.mem_of_getElem? (i := 119) rfl))) (notFace_of_selects (args := #[]) (mvT hZ (hw _ (List.mem_of_getElem? (i := 121) rfl)))) (mvT hZ (hw _ (List.mem_of_getElem? (i := 121) rfl))) (mvT hZ (hw _ (List.mem_of_getElem? (i := 120) rfl))) (by decide) (backOf (W := 0) (rmam l Z a0 hw [] b23 A (own_I vb vd vr vm p3) G86 h86 n0 Zs103 HW86 HD) hZ (hw _ (List.mem_of_getElem? (i := 122) rfl)) (hw _ (List.mem_of_getElem? (i := 3) rfl)) (by decide) (by decide)) q109a q109c (g := (mkF m 330 #[.val (.int p0), .val (.int p1), .val (.int p2), .val (.int p3), .val (.int p4), .val (.int vb), .val (.int vd), .val (.int vm), .val (.int vr), .val (.int vc), .val (.int ve), .val (.int vn), .val (.int (p2 &&& (3 : Int32))), .val (.ref b22), .val (.ref b23), .val (.int (1 : Int32)), .val (.int ub), .val (.int ud), .val (.int um), .val (.int (1 : Int32)), .val (.int (1 : Int32)), .unset, .unset] [(.ref b23)])) rfl (by rw [hml]; rfl) (Steps.refl _) (argsL := []) (rest := []) (lenOf own_pd2 rfl) rfl (by show 2 * 0 + _ ≤ _; exact Nat.le_of_eq rfl) (hb hby at_330) (fun _ _ => ⟨rfl, e104, (by decide : 22 + 0 ≤ _), (by decide : 156 + 0 ≤ _)⟩)
  dsimp only [Pt.U, Pt.locs, Pt.cells, Pt.slots] at X109 l109 y109 z109 st109 hQ109
  subst l109 y109 z109
  obtain ⟨rfl, N109q, e109⟩ := hQ109
  have N109 := Fr.app N104 N109q
  have k110 : own_To p e below T109 (mkF m 340 #[.val (.int p0), .val (.int p1), .val (.int p2), .val (.int p3), .val (.int p4), .val (.int vb), .val (.int vd), .val (.int vm), .val (.int vr), .val (.int vc), .val (.int ve), .val (.int vn), .val (.int (p2 &&& (3 : Int32))), .val (.ref b22), .val (.ref b23), .val (.int (1 : Int32)), .val (.int ub), .val (.int ud), .val (.int um), .val (.int (1 : Int32)), .val (.int (1 : Int32)), .unset, .unset] [(.int (ub + ud)), (.int um), (.int (own_am (own_I vb vd vr vm p3)))]) s₁ (mkF m 0 #[.val (.int p0), .val (.int p1), .val (.int p2), .val (.int p3), .val (.int p4), .unset, .unset, .unset, .unset, .unset, .unset, .unset, .unset, .unset, .unset, .unset, .unset, .unset, .unset, .unset, .unset, .unset, .unset] []) := fun t q => k108 t (by
    refine XS.icmpNo X104.here hx rfl (hb hby at_318) rfl (teq (by rw [huq, ub_, ud_]; exact own_emE vb vd vr vm p3 h_vb h_vd)).2 ?_
    show Steps p.tables e below (T104.setTop (mkF m 321 #[.val (.int p0), .val (.int p1), .val (.int p2), .val (.int p3), .val (.int p4), .val (.int vb), .val (.int vd), .val (.int vm), .val (.int vr), .val (.int vc), .val (.int ve), .val (.int vn), .val (.int (p2 &&& (3 : Int32))), .val (.ref b22), .val (.ref b23), .val (.int (1 : Int32)), .val (.int ub), .val (.int ud), .val (.int um), .val (.int (1 : Int32)), .unset, .unset, .unset] [])) _
    refine XS.iconst X104.here hx rfl (hb hby at_321) ?_
    show Steps p.tables e below (T104.setTop (mkF m 322 #[.val (.int p0), .val (.int p1), .val (.int p2), .val (.int p3), .val (.int p4), .val (.int vb), .val (.int vd), .val (.int vm), .val (.int vr), .val (.int vc), .val (.int ve), .val (.int vn), .val (.int (p2 &&& (3 : Int32))), .val (.ref b22), .val (.ref b23), .val (.int (1 : Int32)), .val (.int ub), .val (.int ud), .val (.int um), .val (.int (1 : Int32)), .unset, .unset, .unset] [(.int (1 : Int32))])) _
    refine XS.goto X104.here hx rfl (pc0 := 322) (pc' := 326) rfl (hb hby at_322) (by decide) (by decide) ?_
    show Steps p.tables e below (T104.setTop (mkF m 326 #[.val (.int p0), .val (.int p1), .val (.int p2), .val (.int p3), .val (.int p4), .val (.int vb), .val (.int vd), .val (.int vm), .val (.int vr), .val (.int vc), .val (.int ve), .val (.int vn), .val (.int (p2 &&& (3 : Int32))), .val (.ref b22), .val (.ref b23), .val (.int (1 : Int32)), .val (.int ub), .val (.int ud), .val (.int um), .val (.int (1 : Int32)), .unset, .unset, .unset] [(.int (1 : Int32))])) _
    refine XS.istore X104.here hx rfl (hb hby at_326) rfl (l' := #[.val (.int p0), .val (.int p1), .val (.int p2), .val (.int p3), .val (.int p4), .val (.int vb), .val (.int vd), .val (.int vm), .val (.int vr), .val (.int vc), .val (.int ve), .val (.int vn), .val (.int (p2 &&& (3 : Int32))), .val (.ref b22), .val (.ref b23), .val (.int (1 : Int32)), .val (.int ub), .val (.int ud), .val (.int um), .val (.int (1 : Int32)), .val (.int (1 : Int32)), .unset, .unset]) rfl ?_
    show Steps p.tables e below (T104.setTop (mkF m 328 #[.val (.int p0), .val (.int p1), .val (.int p2), .val (.int p3), .val (.int p4), .val (.int vb), .val (.int vd), .val (.int vm), .val (.int vr), .val (.int vc), .val (.int ve), .val (.int vn), .val (.int (p2 &&& (3 : Int32))), .val (.ref b22), .val (.ref b23), .val (.int (1 : Int32)), .val (.int ub), .val (.int ud), .val (.int um), .val (.int (1 : Int32)), .val (.int (1 : Int32)), .unset, .unset] [])) _
    refine XS.aload X104.here hx rfl (hb hby at_328) rfl rfl ?_
    show Steps p.tables e below (T104.setTop (mkF m 330 #[.val (.int p0), .val (.int p1), .val (.int p2), .val (.int p3), .val (.int p4), .val (.int vb), .val (.int vd), .val (.int vm), .val (.int vr), .val (.int vc), .val (.int ve), .val (.int vn), .val (.int (p2 &&& (3 : Int32))), .val (.ref b22), .val (.ref b23), .val (.int (1 : Int32)), .val (.int ub), .val (.int ud), .val (.int um), .val (.int (1 : Int32)), .val (.int (1 : Int32)), .unset, .unset] [(.ref b23)])) _
    refine st109.trans ?_
    show Steps p.tables e below (T109.setTop (mkF m 333 #[.val (.int p0), .val (.int p1), .val (.int p2), .val (.int p3), .val (.int p4), .val (.int vb), .val (.int vd), .val (.int vm), .val (.int vr), .val (.int vc), .val (.int ve), .val (.int vn), .val (.int (p2 &&& (3 : Int32))), .val (.ref b22), .val (.ref b23), .val (.int (1 : Int32)), .val (.int ub), .val (.int ud), .val (.int um), .val (.int (1 : Int32)), .val (.int (1 : Int32)), .unset, .unset] [(.int (own_am (own_I vb vd vr vm p3)))])) _
    refine XS.iload X109.here hx rfl (hb hby at_333) rfl ?_
    show Steps p.tables e below (T109.setTop (mkF m 335 #[.val (.int p0), .val (.int p1), .val (.int p2), .val (.int p3), .val (.int p4), .val (.int vb), .val (.int vd), .val (.int vm), .val (.int vr), .val (.int vc), .val (.int ve), .val (.int vn), .val (.int (p2 &&& (3 : Int32))), .val (.ref b22), .val (.ref b23), .val (.int (1 : Int32)), .val (.int ub), .val (.int ud), .val (.int um), .val (.int (1 : Int32)), .val (.int (1 : Int32)), .unset, .unset] [(.int um), (.int (own_am (own_I vb vd vr vm p3)))])) _
    refine XS.iload X109.here hx rfl (hb hby at_335) rfl ?_
    show Steps p.tables e below (T109.setTop (mkF m 337 #[.val (.int p0), .val (.int p1), .val (.int p2), .val (.int p3), .val (.int p4), .val (.int vb), .val (.int vd), .val (.int vm), .val (.int vr), .val (.int vc), .val (.int ve), .val (.int vn), .val (.int (p2 &&& (3 : Int32))), .val (.ref b22), .val (.ref b23), .val (.int (1 : Int32)), .val (.int ub), .val (.int ud), .val (.int um), .val (.int (1 : Int32)), .val (.int (1 : Int32)), .unset, .unset] [(.int ub), (.int um), (.int (own_am (own_I vb vd vr vm p3)))])) _
    refine XS.iload X109.here hx rfl (hb hby at_337) rfl ?_
    show Steps p.tables e below (T109.setTop (mkF m 339 #[.val (.int p0), .val (.int p1), .val (.int p2), .val (.int p3), .val (.int p4), .val (.int vb), .val (.int vd), .val (.int vm), .val (.int vr), .val (.int vc), .val (.int ve), .val (.int vn), .val (.int (p2 &&& (3 : Int32))), .val (.ref b22), .val (.ref b23), .val (.int (1 : Int32)), .val (.int ub), .val (.int ud), .val (.int um), .val (.int (1 : Int32)), .val (.int (1 : Int32)), .unset, .unset] [(.int ud), (.int ub), (.int um), (.int (own_am (own_I vb vd vr vm p3)))])) _
    refine XS.iadd X109.here hx rfl (hb hby at_339) rfl ?_
    show Steps p.tables e below (T109.setTop (mkF m 340 #[.val (.int p0), .val (.int p1), .val (.int p2), .val (.int p3), .val (.int p4), .val (.int vb), .val (.int vd), .val (.int vm), .val (.int vr), .val (.int vc), .val (.int ve), .val (.int vn), .val (.int (p2 &&& (3 : Int32))), .val (.ref b22), .val (.ref b23), .val (.int (1 : Int32)), .val (.int ub), .val (.int ud), .val (.int um), .val (.int (1 : Int32)), .val (.int (1 : Int32)), .unset, .unset] [(.int (ub + ud)), (.int um), (.int (own_am (own_I vb vd vr vm p3)))])) _
    exact q)
  obtain ⟨uw, huw, k112⟩ : ∃ (uw : Int32), (uw = (if um = (ub + ud) then (1 : Int32) else (0 : Int32))) ∧ own_To p e below T109 (mkF m 348 #[.val (.int p0), .val (.int p1), .val (.int p2), .val (.int p3), .val (.int p4), .val (.int vb), .val (.int vd), .val (.int vm), .val (.int vr), .val (.int vc), .val (.int ve), .val (.int vn), .val (.int (p2 &&& (3 : Int32))), .val (.ref b22), .val (.ref b23), .val (.int (1 : Int32)), .val (.int ub), .val (.int ud), .val (.int um), .val (.int (1 : Int32)), .val (.int (1 : Int32)), .unset, .unset] [(.int uw), (.int (own_am (own_I vb vd vr vm p3)))]) s₁ (mkF m 0 #[.val (.int p0), .val (.int p1), .val (.int p2), .val (.int p3), .val (.int p4), .unset, .unset, .unset, .unset, .unset, .unset, .unset, .unset, .unset, .unset, .unset, .unset, .unset, .unset, .unset, .unset, .unset, .unset] []) := by
    by_cases hm111 : um = (ub + ud)
    ·
      refine ⟨(1 : Int32), by rw [if_pos hm111], fun t q => k110 t (?_)⟩
      refine XS.icmpNo X109.here hx rfl (hb hby at_340) rfl (teq hm111).2 ?_
      show Steps p.tables e below (T109.setTop (mkF m 343 #[.val (.int p0), .val (.int p1), .val (.int p2), .val (.int p3), .val (.int p4), .val (.int vb), .val (.int vd), .val (.int vm), .val (.int vr), .val (.int vc), .val (.int ve), .val (.int vn), .val (.int (p2 &&& (3 : Int32))), .val (.ref b22), .val (.ref b23), .val (.int (1 : Int32)), .val (.int ub), .val (.int ud), .val (.int um), .val (.int (1 : Int32)), .val (.int (1 : Int32)), .unset, .unset] [(.int (own_am (own_I vb vd vr vm p3)))])) _
      refine XS.iconst X109.here hx rfl (hb hby at_343) ?_
      show Steps p.tables e below (T109.setTop (mkF m 344 #[.val (.int p0), .val (.int p1), .val (.int p2), .val (.int p3), .val (.int p4), .val (.int vb), .val (.int vd), .val (.int vm), .val (.int vr), .val (.int vc), .val (.int ve), .val (.int vn), .val (.int (p2 &&& (3 : Int32))), .val (.ref b22), .val (.ref b23), .val (.int (1 : Int32)), .val (.int ub), .val (.int ud), .val (.int um), .val (.int (1 : Int32)), .val (.int (1 : Int32)), .unset, .unset] [(.int (1 : Int32)), (.int (own_am (own_I vb vd vr vm p3)))])) _
      refine XS.goto X109.here hx rfl (pc0 := 344) (pc' := 348) rfl (hb hby at_344) (by decide) (by decide) ?_
      show Steps p.tables e below (T109.setTop (mkF m 348 #[.val (.int p0), .val (.int p1), .val (.int p2), .val (.int p3), .val (.int p4), .val (.int vb), .val (.int vd), .val (.int vm), .val (.int vr), .val (.int vc), .val (.int ve), .val (.int vn), .val (.int (p2 &&& (3 : Int32))), .val (.ref b22), .val (.ref b23), .val (.int (1 : Int32)), .val (.int ub), .val (.int ud), .val (.int um), .val (.int (1 : Int32)), .val (.int (1 : Int32)), .unset, .unset] [(.int (1 : Int32)), (.int (own_am (own_I vb vd vr vm p3)))])) _
      exact q
    ·
      refine ⟨(0 : Int32), by rw [if_neg hm111], fun t q => k110 t (?_)⟩
      refine XS.icmpYes X109.here hx rfl (pc0 := 340) (pc' := 347) rfl (hb hby at_340) rfl (feq hm111).2 (by decide) (by decide) ?_
      show Steps p.tables e below (T109.setTop (mkF m 347 #[.val (.int p0), .val (.int p1), .val (.int p2), .val (.int p3), .val (.int p4), .val (.int vb), .val (.int vd), .val (.int vm), .val (.int vr), .val (.int vc), .val (.int ve), .val (.int vn), .val (.int (p2 &&& (3 : Int32))), .val (.ref b22), .val (.ref b23), .val (.int (1 : Int32)), .val (.int ub), .val (.int ud), .val (.int um), .val (.int (1 : Int32)), .val (.int (1 : Int32)), .unset, .unset] [(.int (own_am (own_I vb vd vr vm p3)))])) _
      refine XS.iconst X109.here hx rfl (hb hby at_347) ?_
      show Steps p.tables e below (T109.setTop (mkF m 348 #[.val (.int p0), .val (.int p1), .val (.int p2), .val (.int p3), .val (.int p4), .val (.int vb), .val (.int vd), .val (.int vm), .val (.int vr), .val (.int vc), .val (.int ve), .val (.int vn), .val (.int (p2 &&& (3 : Int32))), .val (.ref b22), .val (.ref b23), .val (.int (1 : Int32)), .val (.int ub), .val (.int ud), .val (.int um), .val (.int (1 : Int32)), .val (.int (1 : Int32)), .unset, .unset] [(.int (0 : Int32)), (.int (own_am (own_I vb vd vr vm p3)))])) _
      exact q
  have k113 : own_To p e below T109 (mkF m 360 #[.val (.int p0), .val (.int p1), .val (.int p2), .val (.int p3), .val (.int p4), .val (.int vb), .val (.int vd), .val (.int vm), .val (.int vr), .val (.int vc), .val (.int ve), .val (.int vn), .val (.int (p2 &&& (3 : Int32))), .val (.ref b22), .val (.ref b23), .val (.int (1 : Int32)), .val (.int ub), .val (.int ud), .val (.int um), .val (.int (1 : Int32)), .val (.int (1 : Int32)), .val (.int (1 : Int32)), .unset] [(.ref b23)]) s₁ (mkF m 0 #[.val (.int p0), .val (.int p1), .val (.int p2), .val (.int p3), .val (.int p4), .unset, .unset, .unset, .unset, .unset, .unset, .unset, .unset, .unset, .unset, .unset, .unset, .unset, .unset, .unset, .unset, .unset, .unset] []) := fun t q => k112 t (by
    refine XS.icmpNo X109.here hx rfl (hb hby at_348) rfl (teq (by rw [huw, ub_, ud_, um_]; rfl)).2 ?_
    show Steps p.tables e below (T109.setTop (mkF m 351 #[.val (.int p0), .val (.int p1), .val (.int p2), .val (.int p3), .val (.int p4), .val (.int vb), .val (.int vd), .val (.int vm), .val (.int vr), .val (.int vc), .val (.int ve), .val (.int vn), .val (.int (p2 &&& (3 : Int32))), .val (.ref b22), .val (.ref b23), .val (.int (1 : Int32)), .val (.int ub), .val (.int ud), .val (.int um), .val (.int (1 : Int32)), .val (.int (1 : Int32)), .unset, .unset] [])) _
    refine XS.iconst X109.here hx rfl (hb hby at_351) ?_
    show Steps p.tables e below (T109.setTop (mkF m 352 #[.val (.int p0), .val (.int p1), .val (.int p2), .val (.int p3), .val (.int p4), .val (.int vb), .val (.int vd), .val (.int vm), .val (.int vr), .val (.int vc), .val (.int ve), .val (.int vn), .val (.int (p2 &&& (3 : Int32))), .val (.ref b22), .val (.ref b23), .val (.int (1 : Int32)), .val (.int ub), .val (.int ud), .val (.int um), .val (.int (1 : Int32)), .val (.int (1 : Int32)), .unset, .unset] [(.int (1 : Int32))])) _
    refine XS.goto X109.here hx rfl (pc0 := 352) (pc' := 356) rfl (hb hby at_352) (by decide) (by decide) ?_
    show Steps p.tables e below (T109.setTop (mkF m 356 #[.val (.int p0), .val (.int p1), .val (.int p2), .val (.int p3), .val (.int p4), .val (.int vb), .val (.int vd), .val (.int vm), .val (.int vr), .val (.int vc), .val (.int ve), .val (.int vn), .val (.int (p2 &&& (3 : Int32))), .val (.ref b22), .val (.ref b23), .val (.int (1 : Int32)), .val (.int ub), .val (.int ud), .val (.int um), .val (.int (1 : Int32)), .val (.int (1 : Int32)), .unset, .unset] [(.int (1 : Int32))])) _
    refine XS.istore X109.here hx rfl (hb hby at_356) rfl (l' := #[.val (.int p0), .val (.int p1), .val (.int p2), .val (.int p3), .val (.int p4), .val (.int vb), .val (.int vd), .val (.int vm), .val (.int vr), .val (.int vc), .val (.int ve), .val (.int vn), .val (.int (p2 &&& (3 : Int32))), .val (.ref b22), .val (.ref b23), .val (.int (1 : Int32)), .val (.int ub), .val (.int ud), .val (.int um), .val (.int (1 : Int32)), .val (.int (1 : Int32)), .val (.int (1 : Int32)), .unset]) rfl ?_
    show Steps p.tables e below (T109.setTop (mkF m 358 #[.val (.int p0), .val (.int p1), .val (.int p2), .val (.int p3), .val (.int p4), .val (.int vb), .val (.int vd), .val (.int vm), .val (.int vr), .val (.int vc), .val (.int ve), .val (.int vn), .val (.int (p2 &&& (3 : Int32))), .val (.ref b22), .val (.ref b23), .val (.int (1 : Int32)), .val (.int ub), .val (.int ud), .val (.int um), .val (.int (1 : Int32)), .val (.int (1 : Int32)), .val (.int (1 : Int32)), .unset] [])) _
    refine XS.aload X109.here hx rfl (hb hby at_358) rfl rfl ?_
    show Steps p.tables e below (T109.setTop (mkF m 360 #[.val (.int p0), .val (.int p1), .val (.int p2), .val (.int p3), .val (.int p4), .val (.int vb), .val (.int vd), .val (.int vm), .val (.int vr), .val (.int vc), .val (.int ve), .val (.int vn), .val (.int (p2 &&& (3 : Int32))), .val (.ref b22), .val (.ref b23), .val (.int (1 : Int32)), .val (.int ub), .val (.int ud), .val (.int um), .val (.int (1 : Int32)), .val (.int (1 : Int32)), .val (.int (1 : Int32)), .unset] [(.ref b23)])) _
    exact q)
  rcases h_vd with hd0 | hd1
  ·
    obtain ⟨cq114, kq114, q114a, q114b, q114c⟩ := isOf hZ e109 HW86.1
    obtain ⟨_, _, ⟨T114, L114, kk114, n114⟩, -, X114, ⟨Lc114, hQ114, l114, y114, z114⟩, st114⟩ := X109.virtualBack hx (y := (⟨"com/example/hornloom/hornloom/engine/WaitList", "firstDisjunction", "()I"⟩ : MethodName)) (z := (⟨"com/example/hornloom/hornloom/engine/WaitList", "firstDisjunction", "()I"⟩ : MethodName)) hown (mvT hZ (hw _ (List.mem_of_getElem? (i := 123) rfl))) (mvT hZ (hw _ (List.mem_of_getElem? (i := 124) rfl))) (notFace_of_selects (args := #[]) (mvT hZ (hw _ (List.mem_of_getElem? (i := 126) rfl)))) (mvT hZ (hw _ (List.mem_of_getElem? (i := 126) rfl))) (mvT hZ (hw _ (List.mem_of_getElem? (i := 125) rfl))) (by decide) (backOf (W := 0) (rmfa l Z a0 hw [] b23 A (own_I vb vd vr vm p3) G86 h86 n0 Zs103 HW86 HD (by show ¬ (0 : Int32) < vd; rw [hd0]; decide)) hZ (hw _ (List.mem_of_getElem? (i := 127) rfl)) (hw _ (List.mem_of_getElem? (i := 3) rfl)) (by decide) (by decide)) q114a q114c (g := (mkF m 360 #[.val (.int p0), .val (.int p1), .val (.int p2), .val (.int p3), .val (.int p4), .val (.int vb), .val (.int vd), .val (.int vm), .val (.int vr), .val (.int vc), .val (.int ve), .val (.int vn), .val (.int (p2 &&& (3 : Int32))), .val (.ref b22), .val (.ref b23), .val (.int (1 : Int32)), .val (.int ub), .val (.int ud), .val (.int um), .val (.int (1 : Int32)), .val (.int (1 : Int32)), .val (.int (1 : Int32)), .unset] [(.ref b23)])) rfl (by rw [hml]; rfl) (Steps.refl _) (argsL := []) (rest := []) (lenOf own_pd0 rfl) rfl (by show 2 * 0 + _ ≤ _; exact Nat.le_of_eq rfl) (hb hby at_360) (fun _ _ => ⟨rfl, e109, (by decide : 22 + 0 ≤ _), (by decide : 156 + 0 ≤ _)⟩)
    dsimp only [Pt.U, Pt.locs, Pt.cells, Pt.slots] at X114 l114 y114 z114 st114 hQ114
    subst l114 y114 z114
    obtain ⟨rfl, N114q, e114⟩ := hQ114
    have N114 := Fr.app N109 N114q
    have k115 : own_To p e below T114 (mkF m 365 #[.val (.int p0), .val (.int p1), .val (.int p2), .val (.int p3), .val (.int p4), .val (.int vb), .val (.int vd), .val (.int vm), .val (.int vr), .val (.int vc), .val (.int ve), .val (.int vn), .val (.int (p2 &&& (3 : Int32))), .val (.ref b22), .val (.ref b23), .val (.int (1 : Int32)), .val (.int ub), .val (.int ud), .val (.int um), .val (.int (1 : Int32)), .val (.int (1 : Int32)), .val (.int (1 : Int32)), .unset] [(.int vd), (.int (-1 : Int32))]) s₁ (mkF m 0 #[.val (.int p0), .val (.int p1), .val (.int p2), .val (.int p3), .val (.int p4), .unset, .unset, .unset, .unset, .unset, .unset, .unset, .unset, .unset, .unset, .unset, .unset, .unset, .unset, .unset, .unset, .unset, .unset] []) := fun t q => k113 t (by
      refine st114.trans ?_
      show Steps p.tables e below (T114.setTop (mkF m 363 #[.val (.int p0), .val (.int p1), .val (.int p2), .val (.int p3), .val (.int p4), .val (.int vb), .val (.int vd), .val (.int vm), .val (.int vr), .val (.int vc), .val (.int ve), .val (.int vn), .val (.int (p2 &&& (3 : Int32))), .val (.ref b22), .val (.ref b23), .val (.int (1 : Int32)), .val (.int ub), .val (.int ud), .val (.int um), .val (.int (1 : Int32)), .val (.int (1 : Int32)), .val (.int (1 : Int32)), .unset] [(.int (-1 : Int32))])) _
      refine XS.iload X114.here hx rfl (hb hby at_363) rfl ?_
      show Steps p.tables e below (T114.setTop (mkF m 365 #[.val (.int p0), .val (.int p1), .val (.int p2), .val (.int p3), .val (.int p4), .val (.int vb), .val (.int vd), .val (.int vm), .val (.int vr), .val (.int vc), .val (.int ve), .val (.int vn), .val (.int (p2 &&& (3 : Int32))), .val (.ref b22), .val (.ref b23), .val (.int (1 : Int32)), .val (.int ub), .val (.int ud), .val (.int um), .val (.int (1 : Int32)), .val (.int (1 : Int32)), .val (.int (1 : Int32)), .unset] [(.int vd), (.int (-1 : Int32))])) _
      exact q)
    obtain ⟨uz, huz, k117⟩ : ∃ (uz : Int32), (uz = (if vd = (0 : Int32) then (-1 : Int32) else (2 : Int32))) ∧ own_To p e below T114 (mkF m 373 #[.val (.int p0), .val (.int p1), .val (.int p2), .val (.int p3), .val (.int p4), .val (.int vb), .val (.int vd), .val (.int vm), .val (.int vr), .val (.int vc), .val (.int ve), .val (.int vn), .val (.int (p2 &&& (3 : Int32))), .val (.ref b22), .val (.ref b23), .val (.int (1 : Int32)), .val (.int ub), .val (.int ud), .val (.int um), .val (.int (1 : Int32)), .val (.int (1 : Int32)), .val (.int (1 : Int32)), .unset] [(.int uz), (.int (-1 : Int32))]) s₁ (mkF m 0 #[.val (.int p0), .val (.int p1), .val (.int p2), .val (.int p3), .val (.int p4), .unset, .unset, .unset, .unset, .unset, .unset, .unset, .unset, .unset, .unset, .unset, .unset, .unset, .unset, .unset, .unset, .unset, .unset] []) := by
      by_cases hm116 : vd = (0 : Int32)
      ·
        refine ⟨(-1 : Int32), by rw [if_pos hm116], fun t q => k115 t (?_)⟩
        refine XS.ifYes X114.here hx rfl (pc0 := 365) (pc' := 372) rfl (hb hby at_365) rfl ((if0 _ _).trans (teq hm116).1) (by decide) (by decide) ?_
        show Steps p.tables e below (T114.setTop (mkF m 372 #[.val (.int p0), .val (.int p1), .val (.int p2), .val (.int p3), .val (.int p4), .val (.int vb), .val (.int vd), .val (.int vm), .val (.int vr), .val (.int vc), .val (.int ve), .val (.int vn), .val (.int (p2 &&& (3 : Int32))), .val (.ref b22), .val (.ref b23), .val (.int (1 : Int32)), .val (.int ub), .val (.int ud), .val (.int um), .val (.int (1 : Int32)), .val (.int (1 : Int32)), .val (.int (1 : Int32)), .unset] [(.int (-1 : Int32))])) _
        refine XS.iconst X114.here hx rfl (hb hby at_372) ?_
        show Steps p.tables e below (T114.setTop (mkF m 373 #[.val (.int p0), .val (.int p1), .val (.int p2), .val (.int p3), .val (.int p4), .val (.int vb), .val (.int vd), .val (.int vm), .val (.int vr), .val (.int vc), .val (.int ve), .val (.int vn), .val (.int (p2 &&& (3 : Int32))), .val (.ref b22), .val (.ref b23), .val (.int (1 : Int32)), .val (.int ub), .val (.int ud), .val (.int um), .val (.int (1 : Int32)), .val (.int (1 : Int32)), .val (.int (1 : Int32)), .unset] [(.int (-1 : Int32)), (.int (-1 : Int32))])) _
        exact q
      ·
        refine ⟨(2 : Int32), by rw [if_neg hm116], fun t q => k115 t (?_)⟩
        refine XS.ifNo X114.here hx rfl (hb hby at_365) rfl ((if0 _ _).trans (feq hm116).1) ?_
        show Steps p.tables e below (T114.setTop (mkF m 368 #[.val (.int p0), .val (.int p1), .val (.int p2), .val (.int p3), .val (.int p4), .val (.int vb), .val (.int vd), .val (.int vm), .val (.int vr), .val (.int vc), .val (.int ve), .val (.int vn), .val (.int (p2 &&& (3 : Int32))), .val (.ref b22), .val (.ref b23), .val (.int (1 : Int32)), .val (.int ub), .val (.int ud), .val (.int um), .val (.int (1 : Int32)), .val (.int (1 : Int32)), .val (.int (1 : Int32)), .unset] [(.int (-1 : Int32))])) _
        refine XS.iconst X114.here hx rfl (hb hby at_368) ?_
        show Steps p.tables e below (T114.setTop (mkF m 369 #[.val (.int p0), .val (.int p1), .val (.int p2), .val (.int p3), .val (.int p4), .val (.int vb), .val (.int vd), .val (.int vm), .val (.int vr), .val (.int vc), .val (.int ve), .val (.int vn), .val (.int (p2 &&& (3 : Int32))), .val (.ref b22), .val (.ref b23), .val (.int (1 : Int32)), .val (.int ub), .val (.int ud), .val (.int um), .val (.int (1 : Int32)), .val (.int (1 : Int32)), .val (.int (1 : Int32)), .unset] [(.int (2 : Int32)), (.int (-1 : Int32))])) _
        refine XS.goto X114.here hx rfl (pc0 := 369) (pc' := 373) rfl (hb hby at_369) (by decide) (by decide) ?_
        show Steps p.tables e below (T114.setTop (mkF m 373 #[.val (.int p0), .val (.int p1), .val (.int p2), .val (.int p3), .val (.int p4), .val (.int vb), .val (.int vd), .val (.int vm), .val (.int vr), .val (.int vc), .val (.int ve), .val (.int vn), .val (.int (p2 &&& (3 : Int32))), .val (.ref b22), .val (.ref b23), .val (.int (1 : Int32)), .val (.int ub), .val (.int ud), .val (.int um), .val (.int (1 : Int32)), .val (.int (1 : Int32)), .val (.int (1 : Int32)), .unset] [(.int (2 : Int32)), (.int (-1 : Int32))])) _
        exact q
    have k118 : own_To p e below T114 (mkF m 403 #[.val (.int p0), .val (.int p1), .val (.int p2), .val (.int p3), .val (.int p4), .val (.int vb), .val (.int vd), .val (.int vm), .val (.int vr), .val (.int vc), .val (.int ve), .val (.int vn), .val (.int (p2 &&& (3 : Int32))), .val (.ref b22), .val (.ref b23), .val (.int (1 : Int32)), .val (.int ub), .val (.int ud), .val (.int um), .val (.int (1 : Int32)), .val (.int (1 : Int32)), .val (.int (1 : Int32)), .val (.int (1 : Int32))] []) s₁ (mkF m 0 #[.val (.int p0), .val (.int p1), .val (.int p2), .val (.int p3), .val (.int p4), .unset, .unset, .unset, .unset, .unset, .unset, .unset, .unset, .unset, .unset, .unset, .unset, .unset, .unset, .unset, .unset, .unset, .unset] []) := fun t q => k117 t (by
      refine XS.icmpNo X114.here hx rfl (hb hby at_373) rfl (teq (by rw [huz, hd0]; rfl)).2 ?_
      show Steps p.tables e below (T114.setTop (mkF m 376 #[.val (.int p0), .val (.int p1), .val (.int p2), .val (.int p3), .val (.int p4), .val (.int vb), .val (.int vd), .val (.int vm), .val (.int vr), .val (.int vc), .val (.int ve), .val (.int vn), .val (.int (p2 &&& (3 : Int32))), .val (.ref b22), .val (.ref b23), .val (.int (1 : Int32)), .val (.int ub), .val (.int ud), .val (.int um), .val (.int (1 : Int32)), .val (.int (1 : Int32)), .val (.int (1 : Int32)), .unset] [])) _
      refine XS.iconst X114.here hx rfl (hb hby at_376) ?_
      show Steps p.tables e below (T114.setTop (mkF m 377 #[.val (.int p0), .val (.int p1), .val (.int p2), .val (.int p3), .val (.int p4), .val (.int vb), .val (.int vd), .val (.int vm), .val (.int vr), .val (.int vc), .val (.int ve), .val (.int vn), .val (.int (p2 &&& (3 : Int32))), .val (.ref b22), .val (.ref b23), .val (.int (1 : Int32)), .val (.int ub), .val (.int ud), .val (.int um), .val (.int (1 : Int32)), .val (.int (1 : Int32)), .val (.int (1 : Int32)), .unset] [(.int (1 : Int32))])) _
      refine XS.goto X114.here hx rfl (pc0 := 377) (pc' := 381) rfl (hb hby at_377) (by decide) (by decide) ?_
      show Steps p.tables e below (T114.setTop (mkF m 381 #[.val (.int p0), .val (.int p1), .val (.int p2), .val (.int p3), .val (.int p4), .val (.int vb), .val (.int vd), .val (.int vm), .val (.int vr), .val (.int vc), .val (.int ve), .val (.int vn), .val (.int (p2 &&& (3 : Int32))), .val (.ref b22), .val (.ref b23), .val (.int (1 : Int32)), .val (.int ub), .val (.int ud), .val (.int um), .val (.int (1 : Int32)), .val (.int (1 : Int32)), .val (.int (1 : Int32)), .unset] [(.int (1 : Int32))])) _
      refine XS.istore X114.here hx rfl (hb hby at_381) rfl (l' := #[.val (.int p0), .val (.int p1), .val (.int p2), .val (.int p3), .val (.int p4), .val (.int vb), .val (.int vd), .val (.int vm), .val (.int vr), .val (.int vc), .val (.int ve), .val (.int vn), .val (.int (p2 &&& (3 : Int32))), .val (.ref b22), .val (.ref b23), .val (.int (1 : Int32)), .val (.int ub), .val (.int ud), .val (.int um), .val (.int (1 : Int32)), .val (.int (1 : Int32)), .val (.int (1 : Int32)), .val (.int (1 : Int32))]) rfl ?_
      show Steps p.tables e below (T114.setTop (mkF m 383 #[.val (.int p0), .val (.int p1), .val (.int p2), .val (.int p3), .val (.int p4), .val (.int vb), .val (.int vd), .val (.int vm), .val (.int vr), .val (.int vc), .val (.int ve), .val (.int vn), .val (.int (p2 &&& (3 : Int32))), .val (.ref b22), .val (.ref b23), .val (.int (1 : Int32)), .val (.int ub), .val (.int ud), .val (.int um), .val (.int (1 : Int32)), .val (.int (1 : Int32)), .val (.int (1 : Int32)), .val (.int (1 : Int32))] [])) _
      refine XS.iload X114.here hx rfl (hb hby at_383) rfl ?_
      show Steps p.tables e below (T114.setTop (mkF m 385 #[.val (.int p0), .val (.int p1), .val (.int p2), .val (.int p3), .val (.int p4), .val (.int vb), .val (.int vd), .val (.int vm), .val (.int vr), .val (.int vc), .val (.int ve), .val (.int vn), .val (.int (p2 &&& (3 : Int32))), .val (.ref b22), .val (.ref b23), .val (.int (1 : Int32)), .val (.int ub), .val (.int ud), .val (.int um), .val (.int (1 : Int32)), .val (.int (1 : Int32)), .val (.int (1 : Int32)), .val (.int (1 : Int32))] [(.int (1 : Int32))])) _
      refine XS.ifNo X114.here hx rfl (hb hby at_385) rfl ((if0 _ _).trans (feq (by decide)).1) ?_
      show Steps p.tables e below (T114.setTop (mkF m 388 #[.val (.int p0), .val (.int p1), .val (.int p2), .val (.int p3), .val (.int p4), .val (.int vb), .val (.int vd), .val (.int vm), .val (.int vr), .val (.int vc), .val (.int ve), .val (.int vn), .val (.int (p2 &&& (3 : Int32))), .val (.ref b22), .val (.ref b23), .val (.int (1 : Int32)), .val (.int ub), .val (.int ud), .val (.int um), .val (.int (1 : Int32)), .val (.int (1 : Int32)), .val (.int (1 : Int32)), .val (.int (1 : Int32))] [])) _
      refine XS.iload X114.here hx rfl (hb hby at_388) rfl ?_
      show Steps p.tables e below (T114.setTop (mkF m 390 #[.val (.int p0), .val (.int p1), .val (.int p2), .val (.int p3), .val (.int p4), .val (.int vb), .val (.int vd), .val (.int vm), .val (.int vr), .val (.int vc), .val (.int ve), .val (.int vn), .val (.int (p2 &&& (3 : Int32))), .val (.ref b22), .val (.ref b23), .val (.int (1 : Int32)), .val (.int ub), .val (.int ud), .val (.int um), .val (.int (1 : Int32)), .val (.int (1 : Int32)), .val (.int (1 : Int32)), .val (.int (1 : Int32))] [(.int (1 : Int32))])) _
      refine XS.ifNo X114.here hx rfl (hb hby at_390) rfl ((if0 _ _).trans (feq (by decide)).1) ?_
      show Steps p.tables e below (T114.setTop (mkF m 393 #[.val (.int p0), .val (.int p1), .val (.int p2), .val (.int p3), .val (.int p4), .val (.int vb), .val (.int vd), .val (.int vm), .val (.int vr), .val (.int vc), .val (.int ve), .val (.int vn), .val (.int (p2 &&& (3 : Int32))), .val (.ref b22), .val (.ref b23), .val (.int (1 : Int32)), .val (.int ub), .val (.int ud), .val (.int um), .val (.int (1 : Int32)), .val (.int (1 : Int32)), .val (.int (1 : Int32)), .val (.int (1 : Int32))] [])) _
      refine XS.iload X114.here hx rfl (hb hby at_393) rfl ?_
      show Steps p.tables e below (T114.setTop (mkF m 395 #[.val (.int p0), .val (.int p1), .val (.int p2), .val (.int p3), .val (.int p4), .val (.int vb), .val (.int vd), .val (.int vm), .val (.int vr), .val (.int vc), .val (.int ve), .val (.int vn), .val (.int (p2 &&& (3 : Int32))), .val (.ref b22), .val (.ref b23), .val (.int (1 : Int32)), .val (.int ub), .val (.int ud), .val (.int um), .val (.int (1 : Int32)), .val (.int (1 : Int32)), .val (.int (1 : Int32)), .val (.int (1 : Int32))] [(.int (1 : Int32))])) _
      refine XS.ifNo X114.here hx rfl (hb hby at_395) rfl ((if0 _ _).trans (feq (by decide)).1) ?_
      show Steps p.tables e below (T114.setTop (mkF m 398 #[.val (.int p0), .val (.int p1), .val (.int p2), .val (.int p3), .val (.int p4), .val (.int vb), .val (.int vd), .val (.int vm), .val (.int vr), .val (.int vc), .val (.int ve), .val (.int vn), .val (.int (p2 &&& (3 : Int32))), .val (.ref b22), .val (.ref b23), .val (.int (1 : Int32)), .val (.int ub), .val (.int ud), .val (.int um), .val (.int (1 : Int32)), .val (.int (1 : Int32)), .val (.int (1 : Int32)), .val (.int (1 : Int32))] [])) _
      refine XS.iload X114.here hx rfl (hb hby at_398) rfl ?_
      show Steps p.tables e below (T114.setTop (mkF m 400 #[.val (.int p0), .val (.int p1), .val (.int p2), .val (.int p3), .val (.int p4), .val (.int vb), .val (.int vd), .val (.int vm), .val (.int vr), .val (.int vc), .val (.int ve), .val (.int vn), .val (.int (p2 &&& (3 : Int32))), .val (.ref b22), .val (.ref b23), .val (.int (1 : Int32)), .val (.int ub), .val (.int ud), .val (.int um), .val (.int (1 : Int32)), .val (.int (1 : Int32)), .val (.int (1 : Int32)), .val (.int (1 : Int32))] [(.int (1 : Int32))])) _
      refine XS.ifNo X114.here hx rfl (hb hby at_400) rfl ((if0 _ _).trans (feq (by decide)).1) ?_
      show Steps p.tables e below (T114.setTop (mkF m 403 #[.val (.int p0), .val (.int p1), .val (.int p2), .val (.int p3), .val (.int p4), .val (.int vb), .val (.int vd), .val (.int vm), .val (.int vr), .val (.int vc), .val (.int ve), .val (.int vn), .val (.int (p2 &&& (3 : Int32))), .val (.ref b22), .val (.ref b23), .val (.int (1 : Int32)), .val (.int ub), .val (.int ud), .val (.int um), .val (.int (1 : Int32)), .val (.int (1 : Int32)), .val (.int (1 : Int32)), .val (.int (1 : Int32))] [])) _
      exact q)
    have k119 : own_To p e below T114 (mkF m 413 #[.val (.int p0), .val (.int p1), .val (.int p2), .val (.int p3), .val (.int p4), .val (.int vb), .val (.int vd), .val (.int vm), .val (.int vr), .val (.int vc), .val (.int ve), .val (.int vn), .val (.int (p2 &&& (3 : Int32))), .val (.ref b22), .val (.ref b23), .val (.int (1 : Int32)), .val (.int ub), .val (.int ud), .val (.int um), .val (.int (1 : Int32)), .val (.int (1 : Int32)), .val (.int (1 : Int32)), .val (.int (1 : Int32))] [(.int (1 : Int32))]) s₁ (mkF m 0 #[.val (.int p0), .val (.int p1), .val (.int p2), .val (.int p3), .val (.int p4), .unset, .unset, .unset, .unset, .unset, .unset, .unset, .unset, .unset, .unset, .unset, .unset, .unset, .unset, .unset, .unset, .unset, .unset] []) := fun t q => k118 t (by
      refine XS.iload X114.here hx rfl (hb hby at_403) rfl ?_
      show Steps p.tables e below (T114.setTop (mkF m 405 #[.val (.int p0), .val (.int p1), .val (.int p2), .val (.int p3), .val (.int p4), .val (.int vb), .val (.int vd), .val (.int vm), .val (.int vr), .val (.int vc), .val (.int ve), .val (.int vn), .val (.int (p2 &&& (3 : Int32))), .val (.ref b22), .val (.ref b23), .val (.int (1 : Int32)), .val (.int ub), .val (.int ud), .val (.int um), .val (.int (1 : Int32)), .val (.int (1 : Int32)), .val (.int (1 : Int32)), .val (.int (1 : Int32))] [(.int (1 : Int32))])) _
      refine XS.ifNo X114.here hx rfl (hb hby at_405) rfl ((if0 _ _).trans (feq (by decide)).1) ?_
      show Steps p.tables e below (T114.setTop (mkF m 408 #[.val (.int p0), .val (.int p1), .val (.int p2), .val (.int p3), .val (.int p4), .val (.int vb), .val (.int vd), .val (.int vm), .val (.int vr), .val (.int vc), .val (.int ve), .val (.int vn), .val (.int (p2 &&& (3 : Int32))), .val (.ref b22), .val (.ref b23), .val (.int (1 : Int32)), .val (.int ub), .val (.int ud), .val (.int um), .val (.int (1 : Int32)), .val (.int (1 : Int32)), .val (.int (1 : Int32)), .val (.int (1 : Int32))] [])) _
      refine XS.iconst X114.here hx rfl (hb hby at_408) ?_
      show Steps p.tables e below (T114.setTop (mkF m 409 #[.val (.int p0), .val (.int p1), .val (.int p2), .val (.int p3), .val (.int p4), .val (.int vb), .val (.int vd), .val (.int vm), .val (.int vr), .val (.int vc), .val (.int ve), .val (.int vn), .val (.int (p2 &&& (3 : Int32))), .val (.ref b22), .val (.ref b23), .val (.int (1 : Int32)), .val (.int ub), .val (.int ud), .val (.int um), .val (.int (1 : Int32)), .val (.int (1 : Int32)), .val (.int (1 : Int32)), .val (.int (1 : Int32))] [(.int (1 : Int32))])) _
      refine XS.goto X114.here hx rfl (pc0 := 409) (pc' := 413) rfl (hb hby at_409) (by decide) (by decide) ?_
      show Steps p.tables e below (T114.setTop (mkF m 413 #[.val (.int p0), .val (.int p1), .val (.int p2), .val (.int p3), .val (.int p4), .val (.int vb), .val (.int vd), .val (.int vm), .val (.int vr), .val (.int vc), .val (.int ve), .val (.int vn), .val (.int (p2 &&& (3 : Int32))), .val (.ref b22), .val (.ref b23), .val (.int (1 : Int32)), .val (.int ub), .val (.int ud), .val (.int um), .val (.int (1 : Int32)), .val (.int (1 : Int32)), .val (.int (1 : Int32)), .val (.int (1 : Int32))] [(.int (1 : Int32))])) _
      exact q)
    obtain ⟨fs, hr, hrun, hended, hW, hsame⟩ := X114.leave (v := some (.int (1 : Int32))) (fun h => by rw [Bd.returns] at h; cases h)
    refine ⟨_, _, k0 _ (k119 _ ?_), hrun, hended, _, _, rfl, ?_, ⟨_, rfl⟩, hW, hsame.mono (by decide) (by decide)⟩
    · show Steps p.tables e below (T114.setTop (mkF m 413 #[.val (.int p0), .val (.int p1), .val (.int p2), .val (.int p3), .val (.int p4), .val (.int vb), .val (.int vd), .val (.int vm), .val (.int vr), .val (.int vc), .val (.int ve), .val (.int vn), .val (.int (p2 &&& (3 : Int32))), .val (.ref b22), .val (.ref b23), .val (.int (1 : Int32)), .val (.int ub), .val (.int ud), .val (.int um), .val (.int (1 : Int32)), .val (.int (1 : Int32)), .val (.int (1 : Int32)), .val (.int (1 : Int32))] [(.int (1 : Int32))])) _
      exact retN X114 hx (t := .boolean) Bd.returns (by simp) (hb hby at_413) hr
    · show Q0 Z p0 p1 p2 p3 p4 h0 n0 _ T114.heap _
      rw [e114]
      exact ⟨rfl, N114⟩
  ·
    have g2 : G86 2 (((own_I vb vd vr vm p3) 4)).toNatClampNeg = 2 := HP86.1 hd1
    obtain ⟨cq120, kq120, q120a, q120b, q120c⟩ := isOf hZ e109 HW86.1
    obtain ⟨_, _, ⟨T120, L120, kk120, n120⟩, -, X120, ⟨Lc120, hQ120, l120, y120, z120⟩, st120⟩ := X109.virtualBack hx (y := (⟨"com/example/hornloom/hornloom/engine/WaitList", "firstDisjunction", "()I"⟩ : MethodName)) (z := (⟨"com/example/hornloom/hornloom/engine/WaitList", "firstDisjunction", "()I"⟩ : MethodName)) hown (mvT hZ (hw _ (List.mem_of_getElem? (i := 123) rfl))) (mvT hZ (hw _ (List.mem_of_getElem? (i := 124) rfl))) (notFace_of_selects (args := #[]) (mvT hZ (hw _ (List.mem_of_getElem? (i := 126) rfl)))) (mvT hZ (hw _ (List.mem_of_getElem? (i := 126) rfl))) (mvT hZ (hw _ (List.mem_of_getElem? (i := 125) rfl))) (by decide) (backOf (W := 0) (rmfb l Z a0 hw [] b23 A (own_I vb vd vr vm p3) G86 h86 n0 Zs103 HW86 HD (by show (0 : Int32) < vd; rw [hd1]; decide) (show ¬ (0 : Int32) < 0 ∧ (0 : Int32) < 4 from ⟨by decide, by decide⟩) (by rw [g2]; decide) (by rw [g2]; exact HP86.2)) hZ (hw _ (List.mem_of_getElem? (i := 127) rfl)) (hw _ (List.mem_of_getElem? (i := 3) rfl)) (by decide) (by decide)) q120a q120c (g := (mkF m 360 #[.val (.int p0), .val (.int p1), .val (.int p2), .val (.int p3), .val (.int p4), .val (.int vb), .val (.int vd), .val (.int vm), .val (.int vr), .val (.int vc), .val (.int ve), .val (.int vn), .val (.int (p2 &&& (3 : Int32))), .val (.ref b22), .val (.ref b23), .val (.int (1 : Int32)), .val (.int ub), .val (.int ud), .val (.int um), .val (.int (1 : Int32)), .val (.int (1 : Int32)), .val (.int (1 : Int32)), .unset] [(.ref b23)])) rfl (by rw [hml]; rfl) (Steps.refl _) (argsL := []) (rest := []) (lenOf own_pd0 rfl) rfl (by show 2 * 0 + _ ≤ _; exact Nat.le_of_eq rfl) (hb hby at_360) (fun _ _ => ⟨rfl, e109, (by decide : 22 + 0 ≤ _), (by decide : 156 + 0 ≤ _)⟩)
    dsimp only [Pt.U, Pt.locs, Pt.cells, Pt.slots] at X120 l120 y120 z120 st120 hQ120
    subst l120 y120 z120
    obtain ⟨rfl, N120q, e120⟩ := hQ120
    have N120 := Fr.app N109 N120q
    have k121 : own_To p e below T120 (mkF m 365 #[.val (.int p0), .val (.int p1), .val (.int p2), .val (.int p3), .val (.int p4), .val (.int vb), .val (.int vd), .val (.int vm), .val (.int vr), .val (.int vc), .val (.int ve), .val (.int vn), .val (.int (p2 &&& (3 : Int32))), .val (.ref b22), .val (.ref b23), .val (.int (1 : Int32)), .val (.int ub), .val (.int ud), .val (.int um), .val (.int (1 : Int32)), .val (.int (1 : Int32)), .val (.int (1 : Int32)), .unset] [(.int vd), (.int (G86 2 (((own_I vb vd vr vm p3) 4)).toNatClampNeg))]) s₁ (mkF m 0 #[.val (.int p0), .val (.int p1), .val (.int p2), .val (.int p3), .val (.int p4), .unset, .unset, .unset, .unset, .unset, .unset, .unset, .unset, .unset, .unset, .unset, .unset, .unset, .unset, .unset, .unset, .unset, .unset] []) := fun t q => k113 t (by
      refine st120.trans ?_
      show Steps p.tables e below (T120.setTop (mkF m 363 #[.val (.int p0), .val (.int p1), .val (.int p2), .val (.int p3), .val (.int p4), .val (.int vb), .val (.int vd), .val (.int vm), .val (.int vr), .val (.int vc), .val (.int ve), .val (.int vn), .val (.int (p2 &&& (3 : Int32))), .val (.ref b22), .val (.ref b23), .val (.int (1 : Int32)), .val (.int ub), .val (.int ud), .val (.int um), .val (.int (1 : Int32)), .val (.int (1 : Int32)), .val (.int (1 : Int32)), .unset] [(.int (G86 2 (((own_I vb vd vr vm p3) 4)).toNatClampNeg))])) _
      refine XS.iload X120.here hx rfl (hb hby at_363) rfl ?_
      show Steps p.tables e below (T120.setTop (mkF m 365 #[.val (.int p0), .val (.int p1), .val (.int p2), .val (.int p3), .val (.int p4), .val (.int vb), .val (.int vd), .val (.int vm), .val (.int vr), .val (.int vc), .val (.int ve), .val (.int vn), .val (.int (p2 &&& (3 : Int32))), .val (.ref b22), .val (.ref b23), .val (.int (1 : Int32)), .val (.int ub), .val (.int ud), .val (.int um), .val (.int (1 : Int32)), .val (.int (1 : Int32)), .val (.int (1 : Int32)), .unset] [(.int vd), (.int (G86 2 (((own_I vb vd vr vm p3) 4)).toNatClampNeg))])) _
      exact q)
    obtain ⟨uz, huz, k123⟩ : ∃ (uz : Int32), (uz = (if vd = (0 : Int32) then (-1 : Int32) else (2 : Int32))) ∧ own_To p e below T120 (mkF m 373 #[.val (.int p0), .val (.int p1), .val (.int p2), .val (.int p3), .val (.int p4), .val (.int vb), .val (.int vd), .val (.int vm), .val (.int vr), .val (.int vc), .val (.int ve), .val (.int vn), .val (.int (p2 &&& (3 : Int32))), .val (.ref b22), .val (.ref b23), .val (.int (1 : Int32)), .val (.int ub), .val (.int ud), .val (.int um), .val (.int (1 : Int32)), .val (.int (1 : Int32)), .val (.int (1 : Int32)), .unset] [(.int uz), (.int (G86 2 (((own_I vb vd vr vm p3) 4)).toNatClampNeg))]) s₁ (mkF m 0 #[.val (.int p0), .val (.int p1), .val (.int p2), .val (.int p3), .val (.int p4), .unset, .unset, .unset, .unset, .unset, .unset, .unset, .unset, .unset, .unset, .unset, .unset, .unset, .unset, .unset, .unset, .unset, .unset] []) := by
      by_cases hm122 : vd = (0 : Int32)
      ·
        refine ⟨(-1 : Int32), by rw [if_pos hm122], fun t q => k121 t (?_)⟩
        refine XS.ifYes X120.here hx rfl (pc0 := 365) (pc' := 372) rfl (hb hby at_365) rfl ((if0 _ _).trans (teq hm122).1) (by decide) (by decide) ?_
        show Steps p.tables e below (T120.setTop (mkF m 372 #[.val (.int p0), .val (.int p1), .val (.int p2), .val (.int p3), .val (.int p4), .val (.int vb), .val (.int vd), .val (.int vm), .val (.int vr), .val (.int vc), .val (.int ve), .val (.int vn), .val (.int (p2 &&& (3 : Int32))), .val (.ref b22), .val (.ref b23), .val (.int (1 : Int32)), .val (.int ub), .val (.int ud), .val (.int um), .val (.int (1 : Int32)), .val (.int (1 : Int32)), .val (.int (1 : Int32)), .unset] [(.int (G86 2 (((own_I vb vd vr vm p3) 4)).toNatClampNeg))])) _
        refine XS.iconst X120.here hx rfl (hb hby at_372) ?_
        show Steps p.tables e below (T120.setTop (mkF m 373 #[.val (.int p0), .val (.int p1), .val (.int p2), .val (.int p3), .val (.int p4), .val (.int vb), .val (.int vd), .val (.int vm), .val (.int vr), .val (.int vc), .val (.int ve), .val (.int vn), .val (.int (p2 &&& (3 : Int32))), .val (.ref b22), .val (.ref b23), .val (.int (1 : Int32)), .val (.int ub), .val (.int ud), .val (.int um), .val (.int (1 : Int32)), .val (.int (1 : Int32)), .val (.int (1 : Int32)), .unset] [(.int (-1 : Int32)), (.int (G86 2 (((own_I vb vd vr vm p3) 4)).toNatClampNeg))])) _
        exact q
      ·
        refine ⟨(2 : Int32), by rw [if_neg hm122], fun t q => k121 t (?_)⟩
        refine XS.ifNo X120.here hx rfl (hb hby at_365) rfl ((if0 _ _).trans (feq hm122).1) ?_
        show Steps p.tables e below (T120.setTop (mkF m 368 #[.val (.int p0), .val (.int p1), .val (.int p2), .val (.int p3), .val (.int p4), .val (.int vb), .val (.int vd), .val (.int vm), .val (.int vr), .val (.int vc), .val (.int ve), .val (.int vn), .val (.int (p2 &&& (3 : Int32))), .val (.ref b22), .val (.ref b23), .val (.int (1 : Int32)), .val (.int ub), .val (.int ud), .val (.int um), .val (.int (1 : Int32)), .val (.int (1 : Int32)), .val (.int (1 : Int32)), .unset] [(.int (G86 2 (((own_I vb vd vr vm p3) 4)).toNatClampNeg))])) _
        refine XS.iconst X120.here hx rfl (hb hby at_368) ?_
        show Steps p.tables e below (T120.setTop (mkF m 369 #[.val (.int p0), .val (.int p1), .val (.int p2), .val (.int p3), .val (.int p4), .val (.int vb), .val (.int vd), .val (.int vm), .val (.int vr), .val (.int vc), .val (.int ve), .val (.int vn), .val (.int (p2 &&& (3 : Int32))), .val (.ref b22), .val (.ref b23), .val (.int (1 : Int32)), .val (.int ub), .val (.int ud), .val (.int um), .val (.int (1 : Int32)), .val (.int (1 : Int32)), .val (.int (1 : Int32)), .unset] [(.int (2 : Int32)), (.int (G86 2 (((own_I vb vd vr vm p3) 4)).toNatClampNeg))])) _
        refine XS.goto X120.here hx rfl (pc0 := 369) (pc' := 373) rfl (hb hby at_369) (by decide) (by decide) ?_
        show Steps p.tables e below (T120.setTop (mkF m 373 #[.val (.int p0), .val (.int p1), .val (.int p2), .val (.int p3), .val (.int p4), .val (.int vb), .val (.int vd), .val (.int vm), .val (.int vr), .val (.int vc), .val (.int ve), .val (.int vn), .val (.int (p2 &&& (3 : Int32))), .val (.ref b22), .val (.ref b23), .val (.int (1 : Int32)), .val (.int ub), .val (.int ud), .val (.int um), .val (.int (1 : Int32)), .val (.int (1 : Int32)), .val (.int (1 : Int32)), .unset] [(.int (2 : Int32)), (.int (G86 2 (((own_I vb vd vr vm p3) 4)).toNatClampNeg))])) _
        exact q
    have k124 : own_To p e below T120 (mkF m 403 #[.val (.int p0), .val (.int p1), .val (.int p2), .val (.int p3), .val (.int p4), .val (.int vb), .val (.int vd), .val (.int vm), .val (.int vr), .val (.int vc), .val (.int ve), .val (.int vn), .val (.int (p2 &&& (3 : Int32))), .val (.ref b22), .val (.ref b23), .val (.int (1 : Int32)), .val (.int ub), .val (.int ud), .val (.int um), .val (.int (1 : Int32)), .val (.int (1 : Int32)), .val (.int (1 : Int32)), .val (.int (1 : Int32))] []) s₁ (mkF m 0 #[.val (.int p0), .val (.int p1), .val (.int p2), .val (.int p3), .val (.int p4), .unset, .unset, .unset, .unset, .unset, .unset, .unset, .unset, .unset, .unset, .unset, .unset, .unset, .unset, .unset, .unset, .unset, .unset] []) := fun t q => k123 t (by
      refine XS.icmpNo X120.here hx rfl (hb hby at_373) rfl (teq (by rw [huz, hd1]; exact g2)).2 ?_
      show Steps p.tables e below (T120.setTop (mkF m 376 #[.val (.int p0), .val (.int p1), .val (.int p2), .val (.int p3), .val (.int p4), .val (.int vb), .val (.int vd), .val (.int vm), .val (.int vr), .val (.int vc), .val (.int ve), .val (.int vn), .val (.int (p2 &&& (3 : Int32))), .val (.ref b22), .val (.ref b23), .val (.int (1 : Int32)), .val (.int ub), .val (.int ud), .val (.int um), .val (.int (1 : Int32)), .val (.int (1 : Int32)), .val (.int (1 : Int32)), .unset] [])) _
      refine XS.iconst X120.here hx rfl (hb hby at_376) ?_
      show Steps p.tables e below (T120.setTop (mkF m 377 #[.val (.int p0), .val (.int p1), .val (.int p2), .val (.int p3), .val (.int p4), .val (.int vb), .val (.int vd), .val (.int vm), .val (.int vr), .val (.int vc), .val (.int ve), .val (.int vn), .val (.int (p2 &&& (3 : Int32))), .val (.ref b22), .val (.ref b23), .val (.int (1 : Int32)), .val (.int ub), .val (.int ud), .val (.int um), .val (.int (1 : Int32)), .val (.int (1 : Int32)), .val (.int (1 : Int32)), .unset] [(.int (1 : Int32))])) _
      refine XS.goto X120.here hx rfl (pc0 := 377) (pc' := 381) rfl (hb hby at_377) (by decide) (by decide) ?_
      show Steps p.tables e below (T120.setTop (mkF m 381 #[.val (.int p0), .val (.int p1), .val (.int p2), .val (.int p3), .val (.int p4), .val (.int vb), .val (.int vd), .val (.int vm), .val (.int vr), .val (.int vc), .val (.int ve), .val (.int vn), .val (.int (p2 &&& (3 : Int32))), .val (.ref b22), .val (.ref b23), .val (.int (1 : Int32)), .val (.int ub), .val (.int ud), .val (.int um), .val (.int (1 : Int32)), .val (.int (1 : Int32)), .val (.int (1 : Int32)), .unset] [(.int (1 : Int32))])) _
      refine XS.istore X120.here hx rfl (hb hby at_381) rfl (l' := #[.val (.int p0), .val (.int p1), .val (.int p2), .val (.int p3), .val (.int p4), .val (.int vb), .val (.int vd), .val (.int vm), .val (.int vr), .val (.int vc), .val (.int ve), .val (.int vn), .val (.int (p2 &&& (3 : Int32))), .val (.ref b22), .val (.ref b23), .val (.int (1 : Int32)), .val (.int ub), .val (.int ud), .val (.int um), .val (.int (1 : Int32)), .val (.int (1 : Int32)), .val (.int (1 : Int32)), .val (.int (1 : Int32))]) rfl ?_
      show Steps p.tables e below (T120.setTop (mkF m 383 #[.val (.int p0), .val (.int p1), .val (.int p2), .val (.int p3), .val (.int p4), .val (.int vb), .val (.int vd), .val (.int vm), .val (.int vr), .val (.int vc), .val (.int ve), .val (.int vn), .val (.int (p2 &&& (3 : Int32))), .val (.ref b22), .val (.ref b23), .val (.int (1 : Int32)), .val (.int ub), .val (.int ud), .val (.int um), .val (.int (1 : Int32)), .val (.int (1 : Int32)), .val (.int (1 : Int32)), .val (.int (1 : Int32))] [])) _
      refine XS.iload X120.here hx rfl (hb hby at_383) rfl ?_
      show Steps p.tables e below (T120.setTop (mkF m 385 #[.val (.int p0), .val (.int p1), .val (.int p2), .val (.int p3), .val (.int p4), .val (.int vb), .val (.int vd), .val (.int vm), .val (.int vr), .val (.int vc), .val (.int ve), .val (.int vn), .val (.int (p2 &&& (3 : Int32))), .val (.ref b22), .val (.ref b23), .val (.int (1 : Int32)), .val (.int ub), .val (.int ud), .val (.int um), .val (.int (1 : Int32)), .val (.int (1 : Int32)), .val (.int (1 : Int32)), .val (.int (1 : Int32))] [(.int (1 : Int32))])) _
      refine XS.ifNo X120.here hx rfl (hb hby at_385) rfl ((if0 _ _).trans (feq (by decide)).1) ?_
      show Steps p.tables e below (T120.setTop (mkF m 388 #[.val (.int p0), .val (.int p1), .val (.int p2), .val (.int p3), .val (.int p4), .val (.int vb), .val (.int vd), .val (.int vm), .val (.int vr), .val (.int vc), .val (.int ve), .val (.int vn), .val (.int (p2 &&& (3 : Int32))), .val (.ref b22), .val (.ref b23), .val (.int (1 : Int32)), .val (.int ub), .val (.int ud), .val (.int um), .val (.int (1 : Int32)), .val (.int (1 : Int32)), .val (.int (1 : Int32)), .val (.int (1 : Int32))] [])) _
      refine XS.iload X120.here hx rfl (hb hby at_388) rfl ?_
      show Steps p.tables e below (T120.setTop (mkF m 390 #[.val (.int p0), .val (.int p1), .val (.int p2), .val (.int p3), .val (.int p4), .val (.int vb), .val (.int vd), .val (.int vm), .val (.int vr), .val (.int vc), .val (.int ve), .val (.int vn), .val (.int (p2 &&& (3 : Int32))), .val (.ref b22), .val (.ref b23), .val (.int (1 : Int32)), .val (.int ub), .val (.int ud), .val (.int um), .val (.int (1 : Int32)), .val (.int (1 : Int32)), .val (.int (1 : Int32)), .val (.int (1 : Int32))] [(.int (1 : Int32))])) _
      refine XS.ifNo X120.here hx rfl (hb hby at_390) rfl ((if0 _ _).trans (feq (by decide)).1) ?_
      show Steps p.tables e below (T120.setTop (mkF m 393 #[.val (.int p0), .val (.int p1), .val (.int p2), .val (.int p3), .val (.int p4), .val (.int vb), .val (.int vd), .val (.int vm), .val (.int vr), .val (.int vc), .val (.int ve), .val (.int vn), .val (.int (p2 &&& (3 : Int32))), .val (.ref b22), .val (.ref b23), .val (.int (1 : Int32)), .val (.int ub), .val (.int ud), .val (.int um), .val (.int (1 : Int32)), .val (.int (1 : Int32)), .val (.int (1 : Int32)), .val (.int (1 : Int32))] [])) _
      refine XS.iload X120.here hx rfl (hb hby at_393) rfl ?_
      show Steps p.tables e below (T120.setTop (mkF m 395 #[.val (.int p0), .val (.int p1), .val (.int p2), .val (.int p3), .val (.int p4), .val (.int vb), .val (.int vd), .val (.int vm), .val (.int vr), .val (.int vc), .val (.int ve), .val (.int vn), .val (.int (p2 &&& (3 : Int32))), .val (.ref b22), .val (.ref b23), .val (.int (1 : Int32)), .val (.int ub), .val (.int ud), .val (.int um), .val (.int (1 : Int32)), .val (.int (1 : Int32)), .val (.int (1 : Int32)), .val (.int (1 : Int32))] [(.int (1 : Int32))])) _
      refine XS.ifNo X120.here hx rfl (hb hby at_395) rfl ((if0 _ _).trans (feq (by decide)).1) ?_
      show Steps p.tables e below (T120.setTop (mkF m 398 #[.val (.int p0), .val (.int p1), .val (.int p2), .val (.int p3), .val (.int p4), .val (.int vb), .val (.int vd), .val (.int vm), .val (.int vr), .val (.int vc), .val (.int ve), .val (.int vn), .val (.int (p2 &&& (3 : Int32))), .val (.ref b22), .val (.ref b23), .val (.int (1 : Int32)), .val (.int ub), .val (.int ud), .val (.int um), .val (.int (1 : Int32)), .val (.int (1 : Int32)), .val (.int (1 : Int32)), .val (.int (1 : Int32))] [])) _
      refine XS.iload X120.here hx rfl (hb hby at_398) rfl ?_
      show Steps p.tables e below (T120.setTop (mkF m 400 #[.val (.int p0), .val (.int p1), .val (.int p2), .val (.int p3), .val (.int p4), .val (.int vb), .val (.int vd), .val (.int vm), .val (.int vr), .val (.int vc), .val (.int ve), .val (.int vn), .val (.int (p2 &&& (3 : Int32))), .val (.ref b22), .val (.ref b23), .val (.int (1 : Int32)), .val (.int ub), .val (.int ud), .val (.int um), .val (.int (1 : Int32)), .val (.int (1 : Int32)), .val (.int (1 : Int32)), .val (.int (1 : Int32))] [(.int (1 : Int32))])) _
      refine XS.ifNo X120.here hx rfl (hb hby at_400) rfl ((if0 _ _).trans (feq (by decide)).1) ?_
      show Steps p.tables e below (T120.setTop (mkF m 403 #[.val (.int p0), .val (.int p1), .val (.int p2), .val (.int p3), .val (.int p4), .val (.int vb), .val (.int vd), .val (.int vm), .val (.int vr), .val (.int vc), .val (.int ve), .val (.int vn), .val (.int (p2 &&& (3 : Int32))), .val (.ref b22), .val (.ref b23), .val (.int (1 : Int32)), .val (.int ub), .val (.int ud), .val (.int um), .val (.int (1 : Int32)), .val (.int (1 : Int32)), .val (.int (1 : Int32)), .val (.int (1 : Int32))] [])) _
      exact q)
    have k125 : own_To p e below T120 (mkF m 413 #[.val (.int p0), .val (.int p1), .val (.int p2), .val (.int p3), .val (.int p4), .val (.int vb), .val (.int vd), .val (.int vm), .val (.int vr), .val (.int vc), .val (.int ve), .val (.int vn), .val (.int (p2 &&& (3 : Int32))), .val (.ref b22), .val (.ref b23), .val (.int (1 : Int32)), .val (.int ub), .val (.int ud), .val (.int um), .val (.int (1 : Int32)), .val (.int (1 : Int32)), .val (.int (1 : Int32)), .val (.int (1 : Int32))] [(.int (1 : Int32))]) s₁ (mkF m 0 #[.val (.int p0), .val (.int p1), .val (.int p2), .val (.int p3), .val (.int p4), .unset, .unset, .unset, .unset, .unset, .unset, .unset, .unset, .unset, .unset, .unset, .unset, .unset, .unset, .unset, .unset, .unset, .unset] []) := fun t q => k124 t (by
      refine XS.iload X120.here hx rfl (hb hby at_403) rfl ?_
      show Steps p.tables e below (T120.setTop (mkF m 405 #[.val (.int p0), .val (.int p1), .val (.int p2), .val (.int p3), .val (.int p4), .val (.int vb), .val (.int vd), .val (.int vm), .val (.int vr), .val (.int vc), .val (.int ve), .val (.int vn), .val (.int (p2 &&& (3 : Int32))), .val (.ref b22), .val (.ref b23), .val (.int (1 : Int32)), .val (.int ub), .val (.int ud), .val (.int um), .val (.int (1 : Int32)), .val (.int (1 : Int32)), .val (.int (1 : Int32)), .val (.int (1 : Int32))] [(.int (1 : Int32))])) _
      refine XS.ifNo X120.here hx rfl (hb hby at_405) rfl ((if0 _ _).trans (feq (by decide)).1) ?_
      show Steps p.tables e below (T120.setTop (mkF m 408 #[.val (.int p0), .val (.int p1), .val (.int p2), .val (.int p3), .val (.int p4), .val (.int vb), .val (.int vd), .val (.int vm), .val (.int vr), .val (.int vc), .val (.int ve), .val (.int vn), .val (.int (p2 &&& (3 : Int32))), .val (.ref b22), .val (.ref b23), .val (.int (1 : Int32)), .val (.int ub), .val (.int ud), .val (.int um), .val (.int (1 : Int32)), .val (.int (1 : Int32)), .val (.int (1 : Int32)), .val (.int (1 : Int32))] [])) _
      refine XS.iconst X120.here hx rfl (hb hby at_408) ?_
      show Steps p.tables e below (T120.setTop (mkF m 409 #[.val (.int p0), .val (.int p1), .val (.int p2), .val (.int p3), .val (.int p4), .val (.int vb), .val (.int vd), .val (.int vm), .val (.int vr), .val (.int vc), .val (.int ve), .val (.int vn), .val (.int (p2 &&& (3 : Int32))), .val (.ref b22), .val (.ref b23), .val (.int (1 : Int32)), .val (.int ub), .val (.int ud), .val (.int um), .val (.int (1 : Int32)), .val (.int (1 : Int32)), .val (.int (1 : Int32)), .val (.int (1 : Int32))] [(.int (1 : Int32))])) _
      refine XS.goto X120.here hx rfl (pc0 := 409) (pc' := 413) rfl (hb hby at_409) (by decide) (by decide) ?_
      show Steps p.tables e below (T120.setTop (mkF m 413 #[.val (.int p0), .val (.int p1), .val (.int p2), .val (.int p3), .val (.int p4), .val (.int vb), .val (.int vd), .val (.int vm), .val (.int vr), .val (.int vc), .val (.int ve), .val (.int vn), .val (.int (p2 &&& (3 : Int32))), .val (.ref b22), .val (.ref b23), .val (.int (1 : Int32)), .val (.int ub), .val (.int ud), .val (.int um), .val (.int (1 : Int32)), .val (.int (1 : Int32)), .val (.int (1 : Int32)), .val (.int (1 : Int32))] [(.int (1 : Int32))])) _
      exact q)
    obtain ⟨fs, hr, hrun, hended, hW, hsame⟩ := X120.leave (v := some (.int (1 : Int32))) (fun h => by rw [Bd.returns] at h; cases h)
    refine ⟨_, _, k0 _ (k125 _ ?_), hrun, hended, _, _, rfl, ?_, ⟨_, rfl⟩, hW, hsame.mono (by decide) (by decide)⟩
    · show Steps p.tables e below (T120.setTop (mkF m 413 #[.val (.int p0), .val (.int p1), .val (.int p2), .val (.int p3), .val (.int p4), .val (.int vb), .val (.int vd), .val (.int vm), .val (.int vr), .val (.int vc), .val (.int ve), .val (.int vn), .val (.int (p2 &&& (3 : Int32))), .val (.ref b22), .val (.ref b23), .val (.int (1 : Int32)), .val (.int ub), .val (.int ud), .val (.int um), .val (.int (1 : Int32)), .val (.int (1 : Int32)), .val (.int (1 : Int32)), .val (.int (1 : Int32))] [(.int (1 : Int32))])) _
      exact retN X120 hx (t := .boolean) Bd.returns (by simp) (hb hby at_413) hr
    · show Q0 Z p0 p1 p2 p3 p4 h0 n0 _ T120.heap _
      rw [e120]
      exact ⟨rfl, N120⟩
set_option maxRecDepth 65536 in
set_option maxHeartbeats 40000000 in
theorem comes_1 {Post : Tables → Env → Array Value → State → Outcome → State → Prop} (hpost : ∀ tb e args s v u, (limb_1_1.after args s (.returned v) u = true ∧ limb_1_2.after args s (.returned v) u = true ∧ True) → FrameEnd s (.returned v) u (Jvm.fieldLocs frame_1_writes args s ++ Jvm.arrayLocs frame_1_arrays args s ++ Jvm.staticLocs frame_1_statics s) 56 384 → Post tb e args s (.returned v) u) :
    ArmFor flags0 classFile x code maxLocals ret World_1 tables_1 room_1 Calls_1 rest_1 Pre_1 Post := by
  intro l hfl _ _ p e ha hc hk s m args below hf hA hF happ hP
  obtain ⟨hcalls, hrest, hpre⟩ := hP
  obtain ⟨-, -, -, hnamed, -, -, -, hat⟩ := (Spec.applies_iff hf).mp happ
  obtain ⟨hg, hn⟩ := and_e (Cond.before_iff.mp (show (Jvm.Cond.and given_1 narrow_1).before args s = true from hpre))
  obtain ⟨hgc, hg0⟩ := and_e hg
  obtain ⟨ga0, hg1⟩ := and_e hg0
  obtain ⟨ga1, hg2⟩ := and_e hg1
  obtain ⟨ga2, hg3⟩ := and_e hg2
  obtain ⟨ga3, hg4⟩ := and_e hg3
  obtain ⟨w0, w1, w2, w3, w4, rfl⟩ : ∃ w0 w1 w2 w3 w4 : Value, args = #[w0, w1, w2, w3, w4] := by
    have hs : args.size = 5 := by simpa [Cond.value, given_1] using hgc
    obtain ⟨L⟩ := args
    match L, hs with
    | [w0, w1, w2, w3, w4], _ => exact ⟨w0, w1, w2, w3, w4, rfl⟩
  have hw := fun d (hd : d ∈ tables_1) => atoms_spec (ws := Jvm.Cond.code x code maxLocals ret :: tables_1) hat d (List.mem_cons_of_mem _ hd)
  have hfit : Fit s := fun {y c} hc i hi => by
    obtain ⟨ha, rfl⟩ := Array.getElem?_eq_some_iff.mp hc
    have q := List.all_eq_true.mp ((Array.all_eq_true_iff_forall_mem.mp hF) _ (Array.getElem_mem ha)) i (List.mem_range.mpr hi)
    simpa [Array.getElem?_eq_getElem hi] using q
  obtain ⟨i0, ei0⟩ := is_v ga0
  obtain rfl : w0 = (.int i0) := Option.some.inj ei0
  obtain ⟨i1, ei1⟩ := is_v ga1
  obtain rfl : w1 = (.int i1) := Option.some.inj ei1
  obtain ⟨i2, ei2⟩ := is_v ga2
  obtain rfl : w2 = (.int i2) := Option.some.inj ei2
  obtain ⟨i3, ei3⟩ := is_v ga3
  obtain rfl : w3 = (.int i3) := Option.some.inj ei3
  obtain ⟨i4, ei4⟩ := is_v hg4
  obtain rfl : w4 = (.int i4) := Option.some.inj ei4
  obtain ⟨n, o, h1, h2, h3, _, L, rfl, ⟨rfl, N⟩, hq⟩ := rm0 l s _ hw tables_1 i0 i1 i2 i3 i4 s.heap s.heap.size (Nat.le_refl _) p e ha hc hk s m _ below hf ((Spec.applies_iff_loose hf).mp happ).1 ⟨rfl, State.Warmed39.refl s, rfl⟩ trivial
  refine ⟨n, _, h1, h2, h3, hpost _ _ _ _ _ _ ⟨Cond.after_iff.mpr rfl, Cond.after_iff.mpr (eq_i res_at (Term.int_eval (1)) rfl), trivial⟩ ⟨hq.1, hq.2.1, (hq.2.2.sift fun y hy => Or.inr (N y hy)).mono (by decide) (by decide)⟩⟩
theorem main_1_1 : Claimed_1_1 := comes_1 fun _ _ _ _ _ _ h hF => ⟨h.1, hF⟩
theorem main_1_2 : Claimed_1_2 := comes_1 fun _ _ _ _ _ _ h hF => ⟨h.2.1, hF⟩
end Jvm.Pilot.@@N@@
namespace Jvm.Pilot.@@N@@
open Jvm Jvm.ClassFile Sem Op Lib Jvm.Free Jvm.Stand Jvm.Pilot.@@N@@.Jvm.D
/-! MADE BY PROGRAM (witnessworld.py) out of the Statement's table words and the real class files: 12 classes; the members and pool entries that the words name. The judged class is class 1, her method 1. -/
namespace start1
open Jvm.ClassFile
def u (s : String) : CpInfo := .utf8 (stringToUtf16 s)
/-- a pool by its gaps: so many unusable entries, then the entry; so many at the end -/
def gap : Nat → List CpInfo → List CpInfo
  | 0, r => r
  | n + 1, r => .unusable :: gap n r
def poolList (es : List (Nat × CpInfo)) (last : Nat) : List CpInfo := es.foldr (fun e r => gap e.1 (e.2 :: r)) (gap last [])
def pool (es : List (Nat × CpInfo)) (last : Nat) : Array CpInfo := ⟨poolList es last⟩
def fileOf (pool : Array CpInfo) (this : Nat) (attrs : Array Attribute := #[]) (ms : Array MethodInfo := #[]) (fl : Nat := 33) (sup : Nat := 0) (ifs : Array Nat := #[]) (fds : Array FieldInfo := #[]) : ClassFile where
  minorVersion := 0
  majorVersion := 65
  constantPool := pool
  accessFlags := fl
  thisClass := this
  superClass := sup
  interfaces := ifs
  fields := fds
  methods := ms
  attributes := attrs
def plain (name : String) (sup : Option ClassId) : Class where
  name := name
  kind := .ordinary
  loader := none
  accessFlags := 33
  super := sup
  interfaces := #[]
  cf := none
  fields := #[]
  methods := #[]
  instanceTypes := #[]
  staticTypes := #[]
  resolved := #[]
  callSites := []
  init := .initialized
  statics := none
  mirror := none

def pool0 : Array CpInfo := pool [(5, u "<init>"), (0, u "()V"), (1, .class_ 10), (1, u "java/lang/Object")] 113

def k0c0 : Code := { maxStack := 0, maxLocals := 1, code := object_method_1_code, exceptionTable := #[], attributes := #[] }
def k0m0 : Method := { name := "<init>", desc := "()V", sig := { parameters := [], returnType := none }, accessFlags := 1, code := some k0c0 }
/-- java/lang/Object -/
def k0 : Class := { plain "java/lang/Object" none with
  accessFlags := 33
  interfaces := #[]
  cf := some (fileOf pool0 8 #[] #[{ accessFlags := 1, nameIndex := 5, descriptorIndex := 6, attributes := #[] }] 33 0 #[] #[])
  fields := #[]
  methods := #[k0m0]
  instanceTypes := #[]
  staticTypes := #[]
  resolved := Array.replicate 124 none
  statics := none }

def pool1 : Array CpInfo := pool [(2, .class_ 4), (1, u "java/lang/Object"), (0, u "<init>"), (0, u "()V"), (0, .class_ 8), (0, u "com/example/hornloom/hornloom/engine/WaitList"), (0, .methodref 7 10), (0, .nameAndType 5 11), (0, u "(II)V"), (0, .methodref 7 13), (0, .nameAndType 14 15), (0, u "addBuiltin"), (0, u "(I)V"), (0, .methodref 7 17), (0, .nameAndType 18 19), (0, u "addDisjunction"), (0, u "(I[I)V"), (0, .methodref 7 21), (0, .nameAndType 22 15), (0, u "markMatched"), (0, .methodref 7 24), (0, .nameAndType 25 15), (0, u "ready"), (0, .methodref 7 27), (0, .nameAndType 28 15), (0, u "trailLooked"), (0, .methodref 7 30), (0, .nameAndType 31 15), (0, u "mark"), (0, .methodref 7 33), (0, .nameAndType 34 35), (0, u "readyMark"), (0, u "(I)I"), (0, .methodref 7 37), (0, .nameAndType 38 15), (0, u "rewind"), (0, .methodref 7 40), (0, .nameAndType 28 41), (0, u "()I"), (0, .methodref 7 43), (0, .nameAndType 44 45), (0, u "isEmpty"), (0, u "()Z"), (0, .methodref 7 47), (0, .nameAndType 48 45), (0, u "allMatched"), (0, .methodref 7 50), (0, .nameAndType 51 41), (0, u "firstDisjunction"), (0, .class_ 53), (0, u "com/example/hornloom/hornloom/engine/WaitListMarkPinLaw"), (2, u "law"), (0, u "(IIIII)Z")] 5

def k1m0 : Method := { name := "<init>", desc := "()V", sig := { parameters := [], returnType := none }, accessFlags := 1, code := none }
def k1c1 : Code := { maxStack := 4, maxLocals := 23, code := code, exceptionTable := #[], attributes := #[] }
def k1m1 : Method := { name := "law", desc := "(IIIII)Z", sig := { parameters := [.int, .int, .int, .int, .int], returnType := some .boolean }, accessFlags := 9, code := some k1c1 }
/-- com/example/hornloom/hornloom/engine/WaitListMarkPinLaw -/
def k1 : Class := { plain "com/example/hornloom/hornloom/engine/WaitListMarkPinLaw" (some 0) with
  accessFlags := 49
  interfaces := #[]
  cf := some (fileOf pool1 52 #[] #[{ accessFlags := 1, nameIndex := 5, descriptorIndex := 6, attributes := #[] }, { accessFlags := 9, nameIndex := 56, descriptorIndex := 57, attributes := #[] }] 49 2 #[] #[])
  fields := #[]
  methods := #[k1m0, k1m1]
  instanceTypes := #[]
  staticTypes := #[]
  resolved := Array.replicate 63 none
  statics := none }

def pool2 : Array CpInfo := pool [(1, .methodref 2 3), (0, .class_ 4), (0, .nameAndType 5 6), (0, u "java/lang/Object"), (0, u "<init>"), (0, u "()V"), (0, .fieldref 8 9), (0, .class_ 10), (0, .nameAndType 11 12), (0, u "com/example/hornloom/hornloom/engine/WaitList"), (0, u "readyDisjunctions"), (0, u "[I"), (0, .fieldref 8 14), (0, .nameAndType 15 12), (0, u "watchVariables"), (0, .fieldref 8 17), (0, .nameAndType 18 12), (0, u "watchEntries"), (0, .fieldref 8 20), (0, .nameAndType 21 12), (0, u "earlierWatches"), (0, .fieldref 8 23), (0, .nameAndType 24 12), (0, u "builtins"), (0, .fieldref 8 26), (0, .nameAndType 27 12), (0, u "disjunctions"), (0, .class_ 12), (0, .fieldref 8 30), (0, .nameAndType 31 32), (0, u "awaited"), (0, u "[[I"), (0, .fieldref 8 34), (0, .nameAndType 35 36), (0, u "matched"), (0, u "[Z"), (0, .fieldref 8 38), (0, .nameAndType 39 12), (0, u "matchedEntries"), (0, .fieldref 8 41), (0, .nameAndType 42 12), (0, u "latestWatches"), (0, .methodref 44 45), (0, .class_ 46), (0, .nameAndType 47 48), (0, u "java/util/Arrays"), (0, u "fill"), (0, u "([II)V"), (0, .fieldref 8 50), (0, .nameAndType 51 12), (0, u "builtinMarks"), (0, .fieldref 8 53), (0, .nameAndType 54 12), (0, u "disjunctionMarks"), (0, .fieldref 8 56), (0, .nameAndType 57 12), (0, u "builtinsLookedMarks"), (0, .fieldref 8 59), (0, .nameAndType 60 12), (0, u "disjunctionsLookedMarks"), (0, .fieldref 8 62), (0, .nameAndType 63 12), (0, u "settledMarks"), (0, .fieldref 8 65), (0, .nameAndType 66 12), (0, u "readyMarks"), (0, .fieldref 8 68), (0, .nameAndType 69 12), (0, u "readyTakenMarks"), (0, .fieldref 8 71), (0, .nameAndType 72 12), (0, u "matchedMarks"), (0, .fieldref 8 74), (0, .nameAndType 75 12), (0, u "watchMarks"), (0, .fieldref 8 77), (0, .nameAndType 78 12), (0, u "trailLookedMarks"), (11, .fieldref 8 91), (0, .nameAndType 92 93), (0, u "builtinCount"), (0, u "I"), (0, .fieldref 8 95), (0, .nameAndType 96 93), (0, u "disjunctionCount"), (0, .fieldref 8 98), (0, .nameAndType 99 93), (0, u "builtinsLooked"), (0, .fieldref 8 101), (0, .nameAndType 102 93), (0, u "disjunctionsLooked"), (0, .fieldref 8 104), (0, .nameAndType 105 93), (0, u "settledDisjunctions"), (0, .fieldref 8 107), (0, .nameAndType 108 93), (0, u "readyCount"), (0, .fieldref 8 110), (0, .nameAndType 111 93), (0, u "readyTaken"), (0, .fieldref 8 113), (0, .nameAndType 114 93), (0, u "matchedCount"), (0, .fieldref 8 116), (0, .nameAndType 117 93), (0, u "watchCount"), (0, .fieldref 8 119), (0, .nameAndType 120 93), (0, u "trailLooked"), (16, u "NONE"), (20, u "(I)I"), (0, u "(II)V"), (3, u "(I)V"), (0, u "mark"), (0, u "rewind"), (1, u "isEmpty"), (0, u "()Z"), (2, u "addBuiltin"), (0, u "addDisjunction"), (0, u "(I[I)V"), (4, u "()I"), (0, u "ready"), (0, u "markMatched"), (2, u "allMatched"), (1, u "readyMark"), (2, u "firstDisjunction")] 31

def k2c0 : Code := { maxStack := 2, maxLocals := 3, code := prog_35_method_1_code, exceptionTable := #[], attributes := #[] }
def k2m0 : Method := { name := "<init>", desc := "(II)V", sig := { parameters := [.int, .int], returnType := none }, accessFlags := 0, code := some k2c0 }
def k2c1 : Code := { maxStack := 3, maxLocals := 2, code := prog_35_method_3_code, exceptionTable := #[], attributes := #[] }
def k2m1 : Method := { name := "mark", desc := "(I)V", sig := { parameters := [.int], returnType := none }, accessFlags := 0, code := some k2c1 }
def k2c2 : Code := { maxStack := 5, maxLocals := 2, code := prog_35_method_4_code, exceptionTable := #[], attributes := #[] }
def k2m2 : Method := { name := "rewind", desc := "(I)V", sig := { parameters := [.int], returnType := none }, accessFlags := 0, code := some k2c2 }
def k2c3 : Code := { maxStack := 1, maxLocals := 1, code := prog_35_method_5_code, exceptionTable := #[], attributes := #[] }
def k2m3 : Method := { name := "isEmpty", desc := "()Z", sig := { parameters := [], returnType := some .boolean }, accessFlags := 0, code := some k2c3 }
def k2c4 : Code := { maxStack := 5, maxLocals := 2, code := prog_35_method_7_code, exceptionTable := #[], attributes := #[] }
def k2m4 : Method := { name := "addBuiltin", desc := "(I)V", sig := { parameters := [.int], returnType := none }, accessFlags := 0, code := some k2c4 }
def k2c5 : Code := { maxStack := 5, maxLocals := 3, code := prog_35_method_8_code, exceptionTable := #[], attributes := #[] }
def k2m5 : Method := { name := "addDisjunction", desc := "(I[I)V", sig := { parameters := [.int, (.array .int)], returnType := none }, accessFlags := 0, code := some k2c5 }
def k2c6 : Code := { maxStack := 1, maxLocals := 1, code := prog_35_method_13_code, exceptionTable := #[], attributes := #[] }
def k2m6 : Method := { name := "trailLooked", desc := "()I", sig := { parameters := [], returnType := some .int }, accessFlags := 0, code := some k2c6 }
def k2c7 : Code := { maxStack := 2, maxLocals := 2, code := prog_35_method_14_code, exceptionTable := #[], attributes := #[] }
def k2m7 : Method := { name := "trailLooked", desc := "(I)V", sig := { parameters := [.int], returnType := none }, accessFlags := 0, code := some k2c7 }
def k2c8 : Code := { maxStack := 5, maxLocals := 2, code := prog_35_method_15_code, exceptionTable := #[], attributes := #[] }
def k2m8 : Method := { name := "ready", desc := "(I)V", sig := { parameters := [.int], returnType := none }, accessFlags := 0, code := some k2c8 }
def k2c9 : Code := { maxStack := 5, maxLocals := 2, code := prog_35_method_16_code, exceptionTable := #[], attributes := #[] }
def k2m9 : Method := { name := "markMatched", desc := "(I)V", sig := { parameters := [.int], returnType := none }, accessFlags := 0, code := some k2c9 }
def k2c10 : Code := { maxStack := 3, maxLocals := 1, code := prog_35_method_18_code, exceptionTable := #[], attributes := #[] }
def k2m10 : Method := { name := "allMatched", desc := "()Z", sig := { parameters := [], returnType := some .boolean }, accessFlags := 0, code := some k2c10 }
def k2c11 : Code := { maxStack := 2, maxLocals := 2, code := prog_35_method_20_code, exceptionTable := #[], attributes := #[] }
def k2m11 : Method := { name := "readyMark", desc := "(I)I", sig := { parameters := [.int], returnType := some .int }, accessFlags := 0, code := some k2c11 }
def k2c12 : Code := { maxStack := 3, maxLocals := 1, code := prog_35_method_24_code, exceptionTable := #[], attributes := #[] }
def k2m12 : Method := { name := "firstDisjunction", desc := "()I", sig := { parameters := [], returnType := some .int }, accessFlags := 0, code := some k2c12 }
/-- com/example/hornloom/hornloom/engine/WaitList -/
def k2 : Class := { plain "com/example/hornloom/hornloom/engine/WaitList" (some 0) with
  accessFlags := 48
  interfaces := #[]
  cf := some (fileOf pool2 8 #[] #[{ accessFlags := 0, nameIndex := 5, descriptorIndex := 159, attributes := #[] }, { accessFlags := 0, nameIndex := 164, descriptorIndex := 163, attributes := #[] }, { accessFlags := 0, nameIndex := 165, descriptorIndex := 163, attributes := #[] }, { accessFlags := 0, nameIndex := 167, descriptorIndex := 168, attributes := #[] }, { accessFlags := 0, nameIndex := 171, descriptorIndex := 163, attributes := #[] }, { accessFlags := 0, nameIndex := 172, descriptorIndex := 173, attributes := #[] }, { accessFlags := 0, nameIndex := 120, descriptorIndex := 178, attributes := #[] }, { accessFlags := 0, nameIndex := 120, descriptorIndex := 163, attributes := #[] }, { accessFlags := 0, nameIndex := 179, descriptorIndex := 163, attributes := #[] }, { accessFlags := 0, nameIndex := 180, descriptorIndex := 163, attributes := #[] }, { accessFlags := 0, nameIndex := 183, descriptorIndex := 168, attributes := #[] }, { accessFlags := 0, nameIndex := 185, descriptorIndex := 158, attributes := #[] }, { accessFlags := 0, nameIndex := 188, descriptorIndex := 178, attributes := #[] }] 48 2 #[] #[{ accessFlags := 26, nameIndex := 137, descriptorIndex := 12, attributes := #[] }, { accessFlags := 2, nameIndex := 24, descriptorIndex := 12, attributes := #[] }, { accessFlags := 2, nameIndex := 92, descriptorIndex := 93, attributes := #[] }, { accessFlags := 2, nameIndex := 27, descriptorIndex := 12, attributes := #[] }, { accessFlags := 2, nameIndex := 96, descriptorIndex := 93, attributes := #[] }, { accessFlags := 2, nameIndex := 31, descriptorIndex := 32, attributes := #[] }, { accessFlags := 2, nameIndex := 99, descriptorIndex := 93, attributes := #[] }, { accessFlags := 2, nameIndex := 102, descriptorIndex := 93, attributes := #[] }, { accessFlags := 2, nameIndex := 105, descriptorIndex := 93, attributes := #[] }, { accessFlags := 2, nameIndex := 11, descriptorIndex := 12, attributes := #[] }, { accessFlags := 2, nameIndex := 108, descriptorIndex := 93, attributes := #[] }, { accessFlags := 2, nameIndex := 111, descriptorIndex := 93, attributes := #[] }, { accessFlags := 2, nameIndex := 35, descriptorIndex := 36, attributes := #[] }, { accessFlags := 2, nameIndex := 39, descriptorIndex := 12, attributes := #[] }, { accessFlags := 2, nameIndex := 114, descriptorIndex := 93, attributes := #[] }, { accessFlags := 18, nameIndex := 42, descriptorIndex := 12, attributes := #[] }, { accessFlags := 2, nameIndex := 15, descriptorIndex := 12, attributes := #[] }, { accessFlags := 2, nameIndex := 18, descriptorIndex := 12, attributes := #[] }, { accessFlags := 2, nameIndex := 21, descriptorIndex := 12, attributes := #[] }, { accessFlags := 2, nameIndex := 117, descriptorIndex := 93, attributes := #[] }, { accessFlags := 2, nameIndex := 120, descriptorIndex := 93, attributes := #[] }, { accessFlags := 2, nameIndex := 51, descriptorIndex := 12, attributes := #[] }, { accessFlags := 2, nameIndex := 54, descriptorIndex := 12, attributes := #[] }, { accessFlags := 2, nameIndex := 57, descriptorIndex := 12, attributes := #[] }, { accessFlags := 2, nameIndex := 60, descriptorIndex := 12, attributes := #[] }, { accessFlags := 2, nameIndex := 63, descriptorIndex := 12, attributes := #[] }, { accessFlags := 2, nameIndex := 66, descriptorIndex := 12, attributes := #[] }, { accessFlags := 2, nameIndex := 69, descriptorIndex := 12, attributes := #[] }, { accessFlags := 2, nameIndex := 72, descriptorIndex := 12, attributes := #[] }, { accessFlags := 2, nameIndex := 75, descriptorIndex := 12, attributes := #[] }, { accessFlags := 2, nameIndex := 78, descriptorIndex := 12, attributes := #[] }])
  fields := #[{ name := "NONE", type := (.array .int), accessFlags := 26, slot := 0, constantValue := 0 }, { name := "builtins", type := (.array .int), accessFlags := 2, slot := 0, constantValue := 0 }, { name := "builtinCount", type := .int, accessFlags := 2, slot := 1, constantValue := 0 }, { name := "disjunctions", type := (.array .int), accessFlags := 2, slot := 2, constantValue := 0 }, { name := "disjunctionCount", type := .int, accessFlags := 2, slot := 3, constantValue := 0 }, { name := "awaited", type := (.array (.array .int)), accessFlags := 2, slot := 4, constantValue := 0 }, { name := "builtinsLooked", type := .int, accessFlags := 2, slot := 5, constantValue := 0 }, { name := "disjunctionsLooked", type := .int, accessFlags := 2, slot := 6, constantValue := 0 }, { name := "settledDisjunctions", type := .int, accessFlags := 2, slot := 7, constantValue := 0 }, { name := "readyDisjunctions", type := (.array .int), accessFlags := 2, slot := 8, constantValue := 0 }, { name := "readyCount", type := .int, accessFlags := 2, slot := 9, constantValue := 0 }, { name := "readyTaken", type := .int, accessFlags := 2, slot := 10, constantValue := 0 }, { name := "matched", type := (.array .boolean), accessFlags := 2, slot := 11, constantValue := 0 }, { name := "matchedEntries", type := (.array .int), accessFlags := 2, slot := 12, constantValue := 0 }, { name := "matchedCount", type := .int, accessFlags := 2, slot := 13, constantValue := 0 }, { name := "latestWatches", type := (.array .int), accessFlags := 18, slot := 14, constantValue := 0 }, { name := "watchVariables", type := (.array .int), accessFlags := 2, slot := 15, constantValue := 0 }, { name := "watchEntries", type := (.array .int), accessFlags := 2, slot := 16, constantValue := 0 }, { name := "earlierWatches", type := (.array .int), accessFlags := 2, slot := 17, constantValue := 0 }, { name := "watchCount", type := .int, accessFlags := 2, slot := 18, constantValue := 0 }, { name := "trailLooked", type := .int, accessFlags := 2, slot := 19, constantValue := 0 }, { name := "builtinMarks", type := (.array .int), accessFlags := 2, slot := 20, constantValue := 0 }, { name := "disjunctionMarks", type := (.array .int), accessFlags := 2, slot := 21, constantValue := 0 }, { name := "builtinsLookedMarks", type := (.array .int), accessFlags := 2, slot := 22, constantValue := 0 }, { name := "disjunctionsLookedMarks", type := (.array .int), accessFlags := 2, slot := 23, constantValue := 0 }, { name := "settledMarks", type := (.array .int), accessFlags := 2, slot := 24, constantValue := 0 }, { name := "readyMarks", type := (.array .int), accessFlags := 2, slot := 25, constantValue := 0 }, { name := "readyTakenMarks", type := (.array .int), accessFlags := 2, slot := 26, constantValue := 0 }, { name := "matchedMarks", type := (.array .int), accessFlags := 2, slot := 27, constantValue := 0 }, { name := "watchMarks", type := (.array .int), accessFlags := 2, slot := 28, constantValue := 0 }, { name := "trailLookedMarks", type := (.array .int), accessFlags := 2, slot := 29, constantValue := 0 }]
  methods := #[k2m0, k2m1, k2m2, k2m3, k2m4, k2m5, k2m6, k2m7, k2m8, k2m9, k2m10, k2m11, k2m12]
  instanceTypes := #[(.array .int), .int, (.array .int), .int, (.array (.array .int)), .int, .int, .int, (.array .int), .int, .int, (.array .boolean), (.array .int), .int, (.array .int), (.array .int), (.array .int), (.array .int), .int, .int, (.array .int), (.array .int), (.array .int), (.array .int), (.array .int), (.array .int), (.array .int), (.array .int), (.array .int), (.array .int)]
  staticTypes := #[(.array .int)]
  resolved := Array.replicate 220 none
  statics := none }

def pool3 : Array CpInfo := pool [(2, .class_ 4), (1, u "java/lang/Object"), (0, u "<init>"), (0, u "()V"), (7, .class_ 16), (1, u "java/util/Arrays"), (57, .class_ 76), (1, u "java/util/Arrays$NaturalOrder"), (36, .class_ 115), (1, u "java/util/Arrays$LegacyMergeSort"), (1, u "Z"), (257, .class_ 376), (0, u "java/util/Arrays$ArrayList"), (68, u "$assertionsDisabled"), (269, u "MIN_ARRAY_SORT_GRAN"), (0, u "I"), (2, u "INSERTIONSORT_THRESHOLD"), (120, u "fill"), (4, u "([II)V"), (129, .class_ 976), (0, u "java/util/Arrays$ArrayItr")] 52

def k3m0 : Method := { name := "<init>", desc := "()V", sig := { parameters := [], returnType := none }, accessFlags := 2, code := none }
def k3c1 : Code := { maxStack := 3, maxLocals := 4, code := jdk_65_method_103_code, exceptionTable := #[], attributes := #[] }
def k3m1 : Method := { name := "fill", desc := "([II)V", sig := { parameters := [(.array .int), .int], returnType := none }, accessFlags := 9, code := some k3c1 }
/-- java/util/Arrays -/
def k3 : Class := { plain "java/util/Arrays" (some 0) with
  accessFlags := 49
  interfaces := #[]
  cf := some (fileOf pool3 14 #[.nestMembers #[975, 375, 113, 74]] #[{ accessFlags := 2, nameIndex := 5, descriptorIndex := 6, attributes := #[] }, { accessFlags := 9, nameIndex := 840, descriptorIndex := 845, attributes := #[] }] 49 2 #[] #[{ accessFlags := 26, nameIndex := 715, descriptorIndex := 716, attributes := #[] }, { accessFlags := 26, nameIndex := 719, descriptorIndex := 716, attributes := #[] }, { accessFlags := 4120, nameIndex := 445, descriptorIndex := 117, attributes := #[] }])
  fields := #[{ name := "MIN_ARRAY_SORT_GRAN", type := .int, accessFlags := 26, slot := 0, constantValue := 0 }, { name := "INSERTIONSORT_THRESHOLD", type := .int, accessFlags := 26, slot := 1, constantValue := 0 }, { name := "$assertionsDisabled", type := .boolean, accessFlags := 4120, slot := 2, constantValue := 0 }]
  methods := #[k3m0, k3m1]
  instanceTypes := #[]
  staticTypes := #[.int, .int, .boolean]
  resolved := Array.replicate 1029 none
  statics := none }

def pool4 : Array CpInfo := pool [(1, u "java/lang/Cloneable"), (0, .class_ 1), (0, u "java/lang/Object"), (0, .class_ 3)] 3

/-- java/lang/Cloneable -/
def k4 : Class := { plain "java/lang/Cloneable" (some 0) with
  accessFlags := 1537
  interfaces := #[]
  cf := some (fileOf pool4 2 #[] #[] 1537 4 #[] #[])
  fields := #[]
  methods := #[]
  instanceTypes := #[]
  staticTypes := #[]
  resolved := Array.replicate 8 none
  statics := none }

def pool5 : Array CpInfo := pool [(1, u "java/io/Serializable"), (0, .class_ 1), (0, u "java/lang/Object"), (0, .class_ 3)] 3

/-- java/io/Serializable -/
def k5 : Class := { plain "java/io/Serializable" (some 0) with
  accessFlags := 1537
  interfaces := #[]
  cf := some (fileOf pool5 2 #[] #[] 1537 4 #[] #[])
  fields := #[]
  methods := #[]
  instanceTypes := #[]
  staticTypes := #[]
  resolved := Array.replicate 8 none
  statics := none }

/-- the primitive boolean -/
def k6 : Class := { plain "boolean" none with kind := .primitive 'Z', accessFlags := 0x411 }
/-- [Z -/
def k7 : Class := { plain "[Z" (some 0) with kind := .array 6 .boolean, interfaces := #[4, 5], accessFlags := 1041 }

/-- the primitive byte -/
def k8 : Class := { plain "byte" none with kind := .primitive 'B', accessFlags := 0x411 }
/-- [B -/
def k9 : Class := { plain "[B" (some 0) with kind := .array 8 .byte, interfaces := #[4, 5], accessFlags := 1041 }

/-- the primitive int -/
def k10 : Class := { plain "int" none with kind := .primitive 'I', accessFlags := 0x411 }
/-- [I -/
def k11 : Class := { plain "[I" (some 0) with kind := .array 10 .int, interfaces := #[4, 5], accessFlags := 1041 }

/-- [[I -/
def k12 : Class := { plain "[[I" (some 0) with kind := .array 11 (.array .int), interfaces := #[4, 5], accessFlags := 1041 }

def heap : Heap := #[]
def classes : Array Class := #[k0, k1, k2, k3, k4, k5, k6, k7, k8, k9, k10, k11, k12]
def interned : List (Array UInt16 × Addr) := []
def slotsUsed : Nat := 0
def theMethod : MethodId := ⟨1, 1⟩
def args0 : Array Value := #[.int 3, .int 5, .int 2, .int 7, .int 9]
def aboutOver (below : List Frame) : State where
  vm := { classes := classes, interned := interned.toArray }
  heap := heap
  slotsUsed := slotsUsed
  threads := #[{ frames := .invoking theMethod args0 :: below }]
def below0 : List Frame := [.native { method := ⟨0, 0⟩, args := #[] }]
def about1 : State := aboutOver below0
def p0 : Program := .bare "" "" ""
def e0 : Env := launch0.env 0 0 0
theorem w_frames : about1.frames = Frame.invoking theMethod args0 :: below0 := rfl
set_option maxRecDepth 65536 in
theorem w_args : argsFit about1.vm theMethod args0 = true := by decide +kernel
set_option maxRecDepth 65536 in
theorem w_heap : heapFits about1 = true := by decide +kernel
set_option maxRecDepth 65536 in
theorem w_runnable : about1.curStatus? = some .runnable := by decide +kernel
set_option maxRecDepth 65536 in
theorem w_alone : about1.alone = true := by decide +kernel
set_option maxRecDepth 65536 in
theorem w_named : about1.methodNamed? x = some theMethod := by decide +kernel
set_option maxRecDepth 65536 in
theorem w_hears : about1.hears theMethod below0 = true := by decide +kernel
set_option maxRecDepth 65536 in
theorem w_ripe : about1.ripe theMethod args0 below0 = true := by decide +kernel
theorem w_running : about1.status = .running := rfl
set_option maxRecDepth 65536 in
theorem w_room : about1.hasRoom e0.platform room_1 = true :=
  launch0.hasRoom_least _ room_1 (by decide +kernel) (by decide +kernel) (by decide +kernel) (by decide +kernel) (by decide +kernel) (by decide +kernel)
theorem allAtoms_all (ts : List Jvm.Cond) (a : Array Jvm.Value) (st : Jvm.State) : (allAtoms ts).before a st = ts.all (fun c => c.before a st) := by
  induction ts with
  | nil => rfl
  | cons c t ih =>
    show (Jvm.Cond.and c (allAtoms t)).before a st = _
    rw [Jvm.Cond.before_and, ih, List.all_cons]
def words1 : List Jvm.Cond := Jvm.Cond.code x code maxLocals ret :: tables_1
/-- a 'code' word, met by the world's own term for the bytes: nothing is compared byte by byte -/
theorem code_word {y : MethodName} {bytes : ByteArray} {mx : Nat} {rt : Option FieldType} {a : Array Value} {s : State} {m : MethodId} {meth : Method} {c : Code} (h1 : s.methodNamed? y = some m) (h2 : s.vm.method? m = some meth) (h3 : meth.code = some c) (h4 : c.code = bytes)
    (h5 : (c.maxLocals == mx && c.exceptionTable.isEmpty && decide (c.maxStack ≤ mostOperands) && decide (meth.sig.returnType = rt) && !meth.locks && decide (parseMethodDescriptor y.desc = some meth.sig)) = true) : (Jvm.Cond.code y bytes mx rt).before a s = true := by
  simp only [Bool.and_eq_true, beq_iff_eq, Bool.not_eq_true', decide_eq_true_eq] at h5
  obtain ⟨⟨⟨⟨⟨g1, g2⟩, g3⟩, g4⟩, g5⟩, g6⟩ := h5
  simp [Cond.before, Cond.holds, Cond.value, h1, h2, h3, h4, g1, g2, g3, g4, g5, g6]
def isCode : Jvm.Cond → Bool
  | .code _ _ _ _ => true
  | _ => false
theorem all_split {L : List Jvm.Cond} {P : Jvm.Cond → Bool} (h1 : L.all (fun c => isCode c || P c) = true) (h2 : ∀ c ∈ L.filter isCode, P c = true) : L.all P = true := by
  refine List.all_eq_true.mpr fun c hc => ?_
  have h := List.all_eq_true.mp h1 c hc
  rcases Bool.eq_false_or_eq_true (isCode c) with hi | hi
  · exact h2 c (List.mem_filter.mpr ⟨hc, hi⟩)
  · simpa [hi] using h
set_option maxRecDepth 65536 in
theorem w_c0 : (Jvm.Cond.code x code maxLocals ret).before args0 about1 = true := code_word (m := ⟨1, 1⟩) (meth := k1m1) (c := k1c1) (by decide +kernel) rfl rfl rfl (by decide +kernel)
set_option maxRecDepth 65536 in
theorem w_c1 : (Jvm.Cond.code ({ cls := "com/example/hornloom/hornloom/engine/WaitList", name := "<init>", desc := "(II)V" } : Jvm.MethodName) prog_35_method_1_code (3 : Nat) (Option.none : Option Jvm.ClassFile.FieldType)).before args0 about1 = true := code_word (m := ⟨2, 0⟩) (meth := k2m0) (c := k2c0) (by decide +kernel) rfl rfl rfl (by decide +kernel)
set_option maxRecDepth 65536 in
theorem w_c2 : (Jvm.Cond.code ({ cls := "java/lang/Object", name := "<init>", desc := "()V" } : Jvm.MethodName) object_method_1_code (1 : Nat) (Option.none : Option Jvm.ClassFile.FieldType)).before args0 about1 = true := code_word (m := ⟨0, 0⟩) (meth := k0m0) (c := k0c0) (by decide +kernel) rfl rfl rfl (by decide +kernel)
set_option maxRecDepth 65536 in
theorem w_c3 : (Jvm.Cond.code ({ cls := "java/util/Arrays", name := "fill", desc := "([II)V" } : Jvm.MethodName) jdk_65_method_103_code (4 : Nat) (Option.none : Option Jvm.ClassFile.FieldType)).before args0 about1 = true := code_word (m := ⟨3, 1⟩) (meth := k3m1) (c := k3c1) (by decide +kernel) rfl rfl rfl (by decide +kernel)
set_option maxRecDepth 65536 in
theorem w_c4 : (Jvm.Cond.code ({ cls := "com/example/hornloom/hornloom/engine/WaitList", name := "trailLooked", desc := "(I)V" } : Jvm.MethodName) prog_35_method_14_code (2 : Nat) (Option.none : Option Jvm.ClassFile.FieldType)).before args0 about1 = true := code_word (m := ⟨2, 7⟩) (meth := k2m7) (c := k2c7) (by decide +kernel) rfl rfl rfl (by decide +kernel)
set_option maxRecDepth 65536 in
theorem w_c5 : (Jvm.Cond.code ({ cls := "com/example/hornloom/hornloom/engine/WaitList", name := "mark", desc := "(I)V" } : Jvm.MethodName) prog_35_method_3_code (2 : Nat) (Option.none : Option Jvm.ClassFile.FieldType)).before args0 about1 = true := code_word (m := ⟨2, 1⟩) (meth := k2m1) (c := k2c1) (by decide +kernel) rfl rfl rfl (by decide +kernel)
set_option maxRecDepth 65536 in
theorem w_c6 : (Jvm.Cond.code ({ cls := "com/example/hornloom/hornloom/engine/WaitList", name := "readyMark", desc := "(I)I" } : Jvm.MethodName) prog_35_method_20_code (2 : Nat) (Option.some Jvm.ClassFile.FieldType.int)).before args0 about1 = true := code_word (m := ⟨2, 11⟩) (meth := k2m11) (c := k2c11) (by decide +kernel) rfl rfl rfl (by decide +kernel)
set_option maxRecDepth 65536 in
theorem w_c7 : (Jvm.Cond.code ({ cls := "com/example/hornloom/hornloom/engine/WaitList", name := "addBuiltin", desc := "(I)V" } : Jvm.MethodName) prog_35_method_7_code (2 : Nat) (Option.none : Option Jvm.ClassFile.FieldType)).before args0 about1 = true := code_word (m := ⟨2, 4⟩) (meth := k2m4) (c := k2c4) (by decide +kernel) rfl rfl rfl (by decide +kernel)
set_option maxRecDepth 65536 in
theorem w_c8 : (Jvm.Cond.code ({ cls := "com/example/hornloom/hornloom/engine/WaitList", name := "addDisjunction", desc := "(I[I)V" } : Jvm.MethodName) prog_35_method_8_code (3 : Nat) (Option.none : Option Jvm.ClassFile.FieldType)).before args0 about1 = true := code_word (m := ⟨2, 5⟩) (meth := k2m5) (c := k2c5) (by decide +kernel) rfl rfl rfl (by decide +kernel)
set_option maxRecDepth 65536 in
theorem w_c9 : (Jvm.Cond.code ({ cls := "com/example/hornloom/hornloom/engine/WaitList", name := "rewind", desc := "(I)V" } : Jvm.MethodName) prog_35_method_4_code (2 : Nat) (Option.none : Option Jvm.ClassFile.FieldType)).before args0 about1 = true := code_word (m := ⟨2, 2⟩) (meth := k2m2) (c := k2c2) (by decide +kernel) rfl rfl rfl (by decide +kernel)
set_option maxRecDepth 65536 in
theorem w_c10 : (Jvm.Cond.code ({ cls := "com/example/hornloom/hornloom/engine/WaitList", name := "trailLooked", desc := "()I" } : Jvm.MethodName) prog_35_method_13_code (1 : Nat) (Option.some Jvm.ClassFile.FieldType.int)).before args0 about1 = true := code_word (m := ⟨2, 6⟩) (meth := k2m6) (c := k2c6) (by decide +kernel) rfl rfl rfl (by decide +kernel)
set_option maxRecDepth 65536 in
theorem w_c11 : (Jvm.Cond.code ({ cls := "com/example/hornloom/hornloom/engine/WaitList", name := "isEmpty", desc := "()Z" } : Jvm.MethodName) prog_35_method_5_code (1 : Nat) (Option.some Jvm.ClassFile.FieldType.boolean)).before args0 about1 = true := code_word (m := ⟨2, 3⟩) (meth := k2m3) (c := k2c3) (by decide +kernel) rfl rfl rfl (by decide +kernel)
set_option maxRecDepth 65536 in
theorem w_c12 : (Jvm.Cond.code ({ cls := "com/example/hornloom/hornloom/engine/WaitList", name := "allMatched", desc := "()Z" } : Jvm.MethodName) prog_35_method_18_code (1 : Nat) (Option.some Jvm.ClassFile.FieldType.boolean)).before args0 about1 = true := code_word (m := ⟨2, 10⟩) (meth := k2m10) (c := k2c10) (by decide +kernel) rfl rfl rfl (by decide +kernel)
set_option maxRecDepth 65536 in
theorem w_c13 : (Jvm.Cond.code ({ cls := "com/example/hornloom/hornloom/engine/WaitList", name := "firstDisjunction", desc := "()I" } : Jvm.MethodName) prog_35_method_24_code (1 : Nat) (Option.some Jvm.ClassFile.FieldType.int)).before args0 about1 = true := code_word (m := ⟨2, 12⟩) (meth := k2m12) (c := k2c12) (by decide +kernel) rfl rfl rfl (by decide +kernel)
set_option maxRecDepth 65536 in
theorem w_c14 : (Jvm.Cond.code ({ cls := "com/example/hornloom/hornloom/engine/WaitList", name := "markMatched", desc := "(I)V" } : Jvm.MethodName) prog_35_method_16_code (2 : Nat) (Option.none : Option Jvm.ClassFile.FieldType)).before args0 about1 = true := code_word (m := ⟨2, 9⟩) (meth := k2m9) (c := k2c9) (by decide +kernel) rfl rfl rfl (by decide +kernel)
set_option maxRecDepth 65536 in
theorem w_c15 : (Jvm.Cond.code ({ cls := "com/example/hornloom/hornloom/engine/WaitList", name := "ready", desc := "(I)V" } : Jvm.MethodName) prog_35_method_15_code (2 : Nat) (Option.none : Option Jvm.ClassFile.FieldType)).before args0 about1 = true := code_word (m := ⟨2, 8⟩) (meth := k2m8) (c := k2c8) (by decide +kernel) rfl rfl rfl (by decide +kernel)
def codes1 : List Jvm.Cond := [Jvm.Cond.code x code maxLocals ret, Jvm.Cond.code ({ cls := "com/example/hornloom/hornloom/engine/WaitList", name := "<init>", desc := "(II)V" } : Jvm.MethodName) prog_35_method_1_code (3 : Nat) (Option.none : Option Jvm.ClassFile.FieldType), Jvm.Cond.code ({ cls := "java/lang/Object", name := "<init>", desc := "()V" } : Jvm.MethodName) object_method_1_code (1 : Nat) (Option.none : Option Jvm.ClassFile.FieldType), Jvm.Cond.code ({ cls := "java/util/Arrays", name := "fill", desc := "([II)V" } : Jvm.MethodName) jdk_65_method_103_code (4 : Nat) (Option.none : Option Jvm.ClassFile.FieldType), Jvm.Cond.code ({ cls := "com/example/hornloom/hornloom/engine/WaitList", name := "trailLooked", desc := "(I)V" } : Jvm.MethodName) prog_35_method_14_code (2 : Nat) (Option.none : Option Jvm.ClassFile.FieldType), Jvm.Cond.code ({ cls := "com/example/hornloom/hornloom/engine/WaitList", name := "mark", desc := "(I)V" } : Jvm.MethodName) prog_35_method_3_code (2 : Nat) (Option.none : Option Jvm.ClassFile.FieldType), Jvm.Cond.code ({ cls := "com/example/hornloom/hornloom/engine/WaitList", name := "readyMark", desc := "(I)I" } : Jvm.MethodName) prog_35_method_20_code (2 : Nat) (Option.some Jvm.ClassFile.FieldType.int), Jvm.Cond.code ({ cls := "com/example/hornloom/hornloom/engine/WaitList", name := "addBuiltin", desc := "(I)V" } : Jvm.MethodName) prog_35_method_7_code (2 : Nat) (Option.none : Option Jvm.ClassFile.FieldType), Jvm.Cond.code ({ cls := "com/example/hornloom/hornloom/engine/WaitList", name := "addDisjunction", desc := "(I[I)V" } : Jvm.MethodName) prog_35_method_8_code (3 : Nat) (Option.none : Option Jvm.ClassFile.FieldType), Jvm.Cond.code ({ cls := "com/example/hornloom/hornloom/engine/WaitList", name := "rewind", desc := "(I)V" } : Jvm.MethodName) prog_35_method_4_code (2 : Nat) (Option.none : Option Jvm.ClassFile.FieldType), Jvm.Cond.code ({ cls := "com/example/hornloom/hornloom/engine/WaitList", name := "trailLooked", desc := "()I" } : Jvm.MethodName) prog_35_method_13_code (1 : Nat) (Option.some Jvm.ClassFile.FieldType.int), Jvm.Cond.code ({ cls := "com/example/hornloom/hornloom/engine/WaitList", name := "isEmpty", desc := "()Z" } : Jvm.MethodName) prog_35_method_5_code (1 : Nat) (Option.some Jvm.ClassFile.FieldType.boolean), Jvm.Cond.code ({ cls := "com/example/hornloom/hornloom/engine/WaitList", name := "allMatched", desc := "()Z" } : Jvm.MethodName) prog_35_method_18_code (1 : Nat) (Option.some Jvm.ClassFile.FieldType.boolean), Jvm.Cond.code ({ cls := "com/example/hornloom/hornloom/engine/WaitList", name := "firstDisjunction", desc := "()I" } : Jvm.MethodName) prog_35_method_24_code (1 : Nat) (Option.some Jvm.ClassFile.FieldType.int), Jvm.Cond.code ({ cls := "com/example/hornloom/hornloom/engine/WaitList", name := "markMatched", desc := "(I)V" } : Jvm.MethodName) prog_35_method_16_code (2 : Nat) (Option.none : Option Jvm.ClassFile.FieldType), Jvm.Cond.code ({ cls := "com/example/hornloom/hornloom/engine/WaitList", name := "ready", desc := "(I)V" } : Jvm.MethodName) prog_35_method_15_code (2 : Nat) (Option.none : Option Jvm.ClassFile.FieldType)]
set_option maxRecDepth 65536 in
theorem codes_eq : words1.filter isCode = codes1 := rfl
theorem w_codes : ∀ c ∈ words1.filter isCode, c.before args0 about1 = true := by
  rw [codes_eq]
  intro c hc
  simp only [codes1, List.mem_cons, List.not_mem_nil, or_false] at hc
  rcases hc with rfl | rfl | rfl | rfl | rfl | rfl | rfl | rfl | rfl | rfl | rfl | rfl | rfl | rfl | rfl | rfl
  · exact w_c0
  · exact w_c1
  · exact w_c2
  · exact w_c3
  · exact w_c4
  · exact w_c5
  · exact w_c6
  · exact w_c7
  · exact w_c8
  · exact w_c9
  · exact w_c10
  · exact w_c11
  · exact w_c12
  · exact w_c13
  · exact w_c14
  · exact w_c15
set_option maxRecDepth 65536 in
theorem w_t1 : (words1.take 24).all (fun c => isCode c || c.before args0 about1) = true := by decide +kernel
set_option maxRecDepth 65536 in
theorem w_t2 : ((words1.drop 24).take 24).all (fun c => isCode c || c.before args0 about1) = true := by decide +kernel
set_option maxRecDepth 65536 in
theorem w_t3 : (((words1.drop 24).drop 24).take 24).all (fun c => isCode c || c.before args0 about1) = true := by decide +kernel
set_option maxRecDepth 65536 in
theorem w_t4 : ((((words1.drop 24).drop 24).drop 24).take 24).all (fun c => isCode c || c.before args0 about1) = true := by decide +kernel
set_option maxRecDepth 65536 in
theorem w_t5 : (((((words1.drop 24).drop 24).drop 24).drop 24).take 24).all (fun c => isCode c || c.before args0 about1) = true := by decide +kernel
set_option maxRecDepth 65536 in
theorem w_t6 : (((((words1.drop 24).drop 24).drop 24).drop 24).drop 24).all (fun c => isCode c || c.before args0 about1) = true := by decide +kernel
theorem w_tables : (allAtoms (Jvm.Cond.code x code maxLocals ret :: tables_1)).before args0 about1 = true := by
  rw [allAtoms_all]
  show words1.all (fun c => c.before args0 about1) = true
  refine all_split ?_ w_codes
  rw [← List.take_append_drop 24 words1, List.all_append, w_t1, ← List.take_append_drop 24 (words1.drop 24), List.all_append, w_t2, ← List.take_append_drop 24 ((words1.drop 24).drop 24), List.all_append, w_t3, ← List.take_append_drop 24 (((words1.drop 24).drop 24).drop 24), List.all_append, w_t4, ← List.take_append_drop 24 ((((words1.drop 24).drop 24).drop 24).drop 24), List.all_append, w_t5, w_t6]
  rfl
set_option maxRecDepth 65536 in
theorem w_case : (Jvm.Cond.and given_1 narrow_1).before args0 about1 = true := by decide +kernel
theorem w_applies : (headSpec (Jvm.Cond.code x code maxLocals ret :: tables_1) room_1).applies x e0.platform about1 = true :=
  (Spec.applies_iff w_frames).mpr ⟨w_running, w_runnable, w_alone, w_named, w_hears, w_ripe, w_room, w_tables⟩
theorem atStart : AtStart classFile x code maxLocals ret World_1 tables_1 room_1 Calls_1 rest_1 Pre_1 launch0 p0 e0 about1 theMethod args0 below0 :=
  ⟨lists_1, trivial, launch0.admits_env _ _ _, launch0.least_env, fairChoices_fair.cas, fairChoices_fair.clock, w_frames, w_args, w_heap, w_applies, trivial, trivial, w_case⟩
end start1
theorem witness_1 : WitnessClaimed_1 := ⟨start1.p0, start1.e0, start1.about1, start1.theMethod, start1.args0, start1.below0, start1.atStart⟩
end Jvm.Pilot.@@N@@
