import JvmDerived
import JvmDerived.Pilot.@@N@@Statement
import JvmDerived.Pilot.@@N@@Code
set_option linter.unusedVariables false
set_option linter.unusedSimpArgs false

namespace Jvm.Pilot.@@N@@
open Jvm Jvm.ClassFile Sem Op Lib Jvm.Free Jvm.Stand Jvm.LawKit Jvm.RoadKit Bundle Jvm.Pilot.@@N@@.Jvm.D
/-- from every end that the second place reaches the first does -/
abbrev own_To (p : Program) (e : Env) (below : List Frame) (T' : State) (f' : JFrame) (T : State) (f : JFrame) : Prop := ∀ t, Steps p.tables e below (T'.setTop f') t → Steps p.tables e below (T.setTop f) t
/-- the eight constants: en i stands in the static of its name, is of the class, has the ordinal i -/
def own_en (Z : State) (en : Nat → Addr) : Prop := (Sta Z Z.heap "com/example/portcullis/portcullis/core/MessageRules$Operator" "EQUAL" "Lcom/example/portcullis/portcullis/core/MessageRules$Operator;" (.ref (en 0)) ∧ Sta Z Z.heap "com/example/portcullis/portcullis/core/MessageRules$Operator" "NOT_EQUAL" "Lcom/example/portcullis/portcullis/core/MessageRules$Operator;" (.ref (en 1)) ∧ Sta Z Z.heap "com/example/portcullis/portcullis/core/MessageRules$Operator" "BEGINS_WITH" "Lcom/example/portcullis/portcullis/core/MessageRules$Operator;" (.ref (en 2)) ∧ Sta Z Z.heap "com/example/portcullis/portcullis/core/MessageRules$Operator" "DOES_NOT_BEGIN_WITH" "Lcom/example/portcullis/portcullis/core/MessageRules$Operator;" (.ref (en 3)) ∧ Sta Z Z.heap "com/example/portcullis/portcullis/core/MessageRules$Operator" "CONTAINS" "Lcom/example/portcullis/portcullis/core/MessageRules$Operator;" (.ref (en 4)) ∧ Sta Z Z.heap "com/example/portcullis/portcullis/core/MessageRules$Operator" "DOES_NOT_CONTAIN" "Lcom/example/portcullis/portcullis/core/MessageRules$Operator;" (.ref (en 5)) ∧ Sta Z Z.heap "com/example/portcullis/portcullis/core/MessageRules$Operator" "MATCHES_REGEX" "Lcom/example/portcullis/portcullis/core/MessageRules$Operator;" (.ref (en 6)) ∧ Sta Z Z.heap "com/example/portcullis/portcullis/core/MessageRules$Operator" "DOES_NOT_MATCH_REGEX" "Lcom/example/portcullis/portcullis/core/MessageRules$Operator;" (.ref (en 7))) ∧ (∀ i, i < 8 → Exa Z Z.heap (en i) "com/example/portcullis/portcullis/core/MessageRules$Operator") ∧ ∀ i, i < 8 → Fld Z Z.heap (en i) "java/lang/Enum" "ordinal" "I" (.int (Int32.ofNat i))
theorem own_ne {Z : State} {en : Nat → Addr} (H : own_en Z en) (i j : Nat) (hi : i < 8) (hj : j < 8) (h : Int32.ofNat i ≠ Int32.ofNat j) : en i ≠ en j := (H.2.2 i hi).ne (H.2.2 j hj) (fun q => h (Value.int.inj q))
theorem own_d1_0 : decode method_2_code 0 = .ok (.iload_n 0, 1) := by decide +kernel
theorem own_d1_1 : decode method_2_code 1 = .ok (.ifCond .ne 7, 3) := by decide +kernel
theorem own_d1_4 : decode method_2_code 4 = .ok (.getstatic 7, 3) := by decide +kernel
theorem own_d1_7 : decode method_2_code 7 = .ok (.areturn, 1) := by decide +kernel
theorem own_d1_8 : decode method_2_code 8 = .ok (.iload_n 0, 1) := by decide +kernel
theorem own_d1_9 : decode method_2_code 9 = .ok (.iconst 1, 1) := by decide +kernel
theorem own_d1_10 : decode method_2_code 10 = .ok (.if_icmp .ne 7, 3) := by decide +kernel
theorem own_d1_13 : decode method_2_code 13 = .ok (.getstatic 13, 3) := by decide +kernel
theorem own_d1_16 : decode method_2_code 16 = .ok (.areturn, 1) := by decide +kernel
theorem own_d1_17 : decode method_2_code 17 = .ok (.iload_n 0, 1) := by decide +kernel
theorem own_d1_18 : decode method_2_code 18 = .ok (.iconst 2, 1) := by decide +kernel
theorem own_d1_19 : decode method_2_code 19 = .ok (.if_icmp .ne 7, 3) := by decide +kernel
theorem own_d1_22 : decode method_2_code 22 = .ok (.getstatic 16, 3) := by decide +kernel
theorem own_d1_25 : decode method_2_code 25 = .ok (.areturn, 1) := by decide +kernel
theorem own_d1_26 : decode method_2_code 26 = .ok (.iload_n 0, 1) := by decide +kernel
theorem own_d1_27 : decode method_2_code 27 = .ok (.iconst 3, 1) := by decide +kernel
theorem own_d1_28 : decode method_2_code 28 = .ok (.if_icmp .ne 7, 3) := by decide +kernel
theorem own_d1_31 : decode method_2_code 31 = .ok (.getstatic 19, 3) := by decide +kernel
theorem own_d1_34 : decode method_2_code 34 = .ok (.areturn, 1) := by decide +kernel
theorem own_d1_35 : decode method_2_code 35 = .ok (.iload_n 0, 1) := by decide +kernel
theorem own_d1_36 : decode method_2_code 36 = .ok (.iconst 4, 1) := by decide +kernel
theorem own_d1_37 : decode method_2_code 37 = .ok (.if_icmp .ne 7, 3) := by decide +kernel
theorem own_d1_40 : decode method_2_code 40 = .ok (.getstatic 22, 3) := by decide +kernel
theorem own_d1_43 : decode method_2_code 43 = .ok (.areturn, 1) := by decide +kernel
theorem own_d1_44 : decode method_2_code 44 = .ok (.iload_n 0, 1) := by decide +kernel
theorem own_d1_45 : decode method_2_code 45 = .ok (.iconst 5, 1) := by decide +kernel
theorem own_d1_46 : decode method_2_code 46 = .ok (.if_icmp .ne 7, 3) := by decide +kernel
theorem own_d1_49 : decode method_2_code 49 = .ok (.getstatic 25, 3) := by decide +kernel
theorem own_d1_52 : decode method_2_code 52 = .ok (.areturn, 1) := by decide +kernel
theorem own_d1_53 : decode method_2_code 53 = .ok (.iload_n 0, 1) := by decide +kernel
theorem own_d1_54 : decode method_2_code 54 = .ok (.bipush 6, 2) := by decide +kernel
theorem own_d1_56 : decode method_2_code 56 = .ok (.if_icmp .ne 7, 3) := by decide +kernel
theorem own_d1_59 : decode method_2_code 59 = .ok (.getstatic 28, 3) := by decide +kernel
theorem own_d1_62 : decode method_2_code 62 = .ok (.areturn, 1) := by decide +kernel
theorem own_d1_63 : decode method_2_code 63 = .ok (.getstatic 31, 3) := by decide +kernel
theorem own_d1_66 : decode method_2_code 66 = .ok (.areturn, 1) := by decide +kernel
theorem own_pn1 : plainName "com/example/portcullis/portcullis/core/OperatorIsRegexPinLaw" = true := by first | (simp [plainName, overriddenIn]; done) | decide +kernel
theorem own_ef1 (m : MethodId) (x0 : Int32) : entryFrame m #[(.int x0)] 1 = mkF m 0 #[.val (.int x0)] [] := by first | (simp [entryFrame, mkF, argsToLocals, Value.category]; done) | rfl
def own_pick (en : Nat → Addr) (p0 : Int32) : Addr := (if p0 = (0 : Int32) then (en 0) else (if p0 = (1 : Int32) then (en 1) else (if p0 = (2 : Int32) then (en 2) else (if p0 = (3 : Int32) then (en 3) else (if p0 = (4 : Int32) then (en 4) else (if p0 = (5 : Int32) then (en 5) else (if p0 = (6 : Int32) then (en 6) else (en 7))))))))
def Q1 (Z : State) (p0 : Int32) (en : Nat → Addr) (h0 : Heap) (n0 : Nat) (v : Option Value) (h : Heap) (L : List Loc) : Prop := v = some (.ref (own_pick en p0)) ∧ Fr n0 L ∧ h = h0
set_option maxRecDepth 65536 in
set_option maxHeartbeats 40000000 in
theorem rm1 (l : Launch) (Z : State) (a0 : Array Value) (hw : ∀ d ∈ tables_1, d.before a0 Z = true) (ws : List Jvm.Cond) (p0 : Int32) (en : Nat → Addr) (h0 : Heap) (n0 : Nat) (Z0 : n0 ≤ h0.size) (HE : own_en Z en) (O0 : Old Z n0 h0) :
    MetFree l (⟨"com/example/portcullis/portcullis/core/OperatorIsRegexPinLaw", "pick", "(I)Lcom/example/portcullis/portcullis/core/MessageRules$Operator;"⟩ : MethodName) (head1 (Jvm.Cond.code (⟨"com/example/portcullis/portcullis/core/OperatorIsRegexPinLaw", "pick", "(I)Lcom/example/portcullis/portcullis/core/MessageRules$Operator;"⟩ : MethodName) method_2_code 1 (some (.object "com/example/portcullis/portcullis/core/MessageRules$Operator")) :: ws) ({ frames := 0, cells := 0, slots := 0, locals := 0 } : Room)) (fun a U => a = #[(.int p0)] ∧ Z.Warmed39 U.vm ∧ U.heap = h0) (fun _ _ _ _ _ => True) (fun _ U o U' => ∃ v L, o = .returned v ∧ Q1 Z p0 en h0 n0 v U'.heap L ∧ FrameEnd U o U' L ({ frames := 0, cells := 0, slots := 0, locals := 0 } : Room).cells ({ frames := 0, cells := 0, slots := 0, locals := 0 } : Room).slots) := by
  refine MetFree.of_bodySF (plainFor_of_name own_pn1) hisR ?_
  intro p e s m args below meth c s₁ Bd hml0 hP hK
  obtain ⟨rfl, hZ, hh⟩ := hP
  have hx := Bd.exec
  have hby := Bd.bytes
  have hml : c.maxLocals = 1 := hml0
  have hown : s.vm.findClass "com/example/portcullis/portcullis/core/OperatorIsRegexPinLaw" = some m.cls := findClass_of_methodNamed Bd.named
  have hnm := (name_of_methodNamed Bd.named Bd.method).1
  have X0 : Stand p l e ({ frames := 0, cells := 0, slots := 0, locals := 0 } : Room) s m #[(.int p0)] below meth c s₁ [] 0 0 := Stand.of_body Bd
  have e0 : s₁.heap = h0 := by rw [← hh, Bd.state]; rfl
  have N0 := Fr.nil n0
  have k0 : own_To p e below s₁ (mkF m 0 #[.val (.int p0)] []) s₁ (entryFrame m #[(.int p0)] 1) := fun t k => castTop (own_ef1 m p0) k
  have ki : own_To p e below s₁ (mkF m 0 #[.val (.int p0)] []) s₁ (mkF m 0 #[.val (.int p0)] []) := fun t q => q
  have k1 : own_To p e below s₁ (mkF m 1 #[.val (.int p0)] [(.int p0)]) s₁ (mkF m 0 #[.val (.int p0)] []) := fun t q => ki t (by
    refine XS.iloadN X0.here hx rfl (hb hby own_d1_0) rfl ?_
    show Steps p.tables e below (s₁.setTop (mkF m 1 #[.val (.int p0)] [(.int p0)])) _
    exact q)
  by_cases hc2 : p0 = (0 : Int32)
  ·
    obtain ⟨T3, X3, e3, st3⟩ := getS2 X0 hx hZ hown (host := "") (Or.inl (hw _ (List.mem_of_getElem? (i := 4) rfl))) Via.refl e0 (HE.1.1.ext O0.2) (g := (mkF m 4 #[.val (.int p0)] [])) rfl (hb hby own_d1_4)
    have k4 : own_To p e below T3 (mkF m 7 #[.val (.int p0)] [(.ref (en 0))]) s₁ (mkF m 0 #[.val (.int p0)] []) := fun t q => k1 t (by
      refine XS.ifNo X0.here hx rfl (hb hby own_d1_1) rfl ((if0 _ _).trans (teq hc2).2) ?_
      show Steps p.tables e below (s₁.setTop (mkF m 4 #[.val (.int p0)] [])) _
      refine st3 _ ?_
      show Steps p.tables e below (T3.setTop (mkF m 7 #[.val (.int p0)] [(.ref (en 0))])) _
      exact q)
    obtain ⟨fs, hr, hrun, hended, hW, hsame⟩ := X3.leave (v := some (.ref (en 0))) (fun h => by rw [Bd.returns] at h; cases h)
    refine ⟨_, _, k0 _ (k4 _ ?_), hrun, hended, _, _, rfl, ?_, ⟨_, rfl⟩, hW, hsame.mono (by decide) (by decide)⟩
    · show Steps p.tables e below (T3.setTop (mkF m 7 #[.val (.int p0)] [(.ref (en 0))])) _
      exact retOut X3 hx Bd.returns rfl (Or.inr (Or.inr (Or.inr (Or.inr ⟨rfl, rfl, rfl⟩)))) (hb hby own_d1_7) hr
    · show Q1 Z p0 en h0 n0 _ T3.heap _
      rw [e3]
      exact ⟨by rw [own_pick, if_pos hc2], N0, rfl⟩
  ·
    have k5 : own_To p e below s₁ (mkF m 10 #[.val (.int p0)] [(.int (1 : Int32)), (.int p0)]) s₁ (mkF m 0 #[.val (.int p0)] []) := fun t q => k1 t (by
      refine XS.ifYes X0.here hx rfl (pc0 := 1) (pc' := 8) rfl (hb hby own_d1_1) rfl ((if0 _ _).trans (feq hc2).2) (by decide) (by decide) ?_
      show Steps p.tables e below (s₁.setTop (mkF m 8 #[.val (.int p0)] [])) _
      refine XS.iloadN X0.here hx rfl (hb hby own_d1_8) rfl ?_
      show Steps p.tables e below (s₁.setTop (mkF m 9 #[.val (.int p0)] [(.int p0)])) _
      refine XS.iconst X0.here hx rfl (hb hby own_d1_9) ?_
      show Steps p.tables e below (s₁.setTop (mkF m 10 #[.val (.int p0)] [(.int (1 : Int32)), (.int p0)])) _
      exact q)
    by_cases hc6 : p0 = (1 : Int32)
    ·
      obtain ⟨T7, X7, e7, st7⟩ := getS2 X0 hx hZ hown (host := "") (Or.inl (hw _ (List.mem_of_getElem? (i := 7) rfl))) Via.refl e0 (HE.1.2.1.ext O0.2) (g := (mkF m 13 #[.val (.int p0)] [])) rfl (hb hby own_d1_13)
      have k8 : own_To p e below T7 (mkF m 16 #[.val (.int p0)] [(.ref (en 1))]) s₁ (mkF m 0 #[.val (.int p0)] []) := fun t q => k5 t (by
        refine XS.icmpNo X0.here hx rfl (hb hby own_d1_10) rfl (teq hc6).2 ?_
        show Steps p.tables e below (s₁.setTop (mkF m 13 #[.val (.int p0)] [])) _
        refine st7 _ ?_
        show Steps p.tables e below (T7.setTop (mkF m 16 #[.val (.int p0)] [(.ref (en 1))])) _
        exact q)
      obtain ⟨fs, hr, hrun, hended, hW, hsame⟩ := X7.leave (v := some (.ref (en 1))) (fun h => by rw [Bd.returns] at h; cases h)
      refine ⟨_, _, k0 _ (k8 _ ?_), hrun, hended, _, _, rfl, ?_, ⟨_, rfl⟩, hW, hsame.mono (by decide) (by decide)⟩
      · show Steps p.tables e below (T7.setTop (mkF m 16 #[.val (.int p0)] [(.ref (en 1))])) _
        exact retOut X7 hx Bd.returns rfl (Or.inr (Or.inr (Or.inr (Or.inr ⟨rfl, rfl, rfl⟩)))) (hb hby own_d1_16) hr
      · show Q1 Z p0 en h0 n0 _ T7.heap _
        rw [e7]
        exact ⟨by rw [own_pick, if_neg hc2, if_pos hc6], N0, rfl⟩
    ·
      have k9 : own_To p e below s₁ (mkF m 19 #[.val (.int p0)] [(.int (2 : Int32)), (.int p0)]) s₁ (mkF m 0 #[.val (.int p0)] []) := fun t q => k5 t (by
        refine XS.icmpYes X0.here hx rfl (pc0 := 10) (pc' := 17) rfl (hb hby own_d1_10) rfl (feq hc6).2 (by decide) (by decide) ?_
        show Steps p.tables e below (s₁.setTop (mkF m 17 #[.val (.int p0)] [])) _
        refine XS.iloadN X0.here hx rfl (hb hby own_d1_17) rfl ?_
        show Steps p.tables e below (s₁.setTop (mkF m 18 #[.val (.int p0)] [(.int p0)])) _
        refine XS.iconst X0.here hx rfl (hb hby own_d1_18) ?_
        show Steps p.tables e below (s₁.setTop (mkF m 19 #[.val (.int p0)] [(.int (2 : Int32)), (.int p0)])) _
        exact q)
      by_cases hc10 : p0 = (2 : Int32)
      ·
        obtain ⟨T11, X11, e11, st11⟩ := getS2 X0 hx hZ hown (host := "") (Or.inl (hw _ (List.mem_of_getElem? (i := 20) rfl))) Via.refl e0 (HE.1.2.2.1.ext O0.2) (g := (mkF m 22 #[.val (.int p0)] [])) rfl (hb hby own_d1_22)
        have k12 : own_To p e below T11 (mkF m 25 #[.val (.int p0)] [(.ref (en 2))]) s₁ (mkF m 0 #[.val (.int p0)] []) := fun t q => k9 t (by
          refine XS.icmpNo X0.here hx rfl (hb hby own_d1_19) rfl (teq hc10).2 ?_
          show Steps p.tables e below (s₁.setTop (mkF m 22 #[.val (.int p0)] [])) _
          refine st11 _ ?_
          show Steps p.tables e below (T11.setTop (mkF m 25 #[.val (.int p0)] [(.ref (en 2))])) _
          exact q)
        obtain ⟨fs, hr, hrun, hended, hW, hsame⟩ := X11.leave (v := some (.ref (en 2))) (fun h => by rw [Bd.returns] at h; cases h)
        refine ⟨_, _, k0 _ (k12 _ ?_), hrun, hended, _, _, rfl, ?_, ⟨_, rfl⟩, hW, hsame.mono (by decide) (by decide)⟩
        · show Steps p.tables e below (T11.setTop (mkF m 25 #[.val (.int p0)] [(.ref (en 2))])) _
          exact retOut X11 hx Bd.returns rfl (Or.inr (Or.inr (Or.inr (Or.inr ⟨rfl, rfl, rfl⟩)))) (hb hby own_d1_25) hr
        · show Q1 Z p0 en h0 n0 _ T11.heap _
          rw [e11]
          exact ⟨by rw [own_pick, if_neg hc2, if_neg hc6, if_pos hc10], N0, rfl⟩
      ·
        have k13 : own_To p e below s₁ (mkF m 28 #[.val (.int p0)] [(.int (3 : Int32)), (.int p0)]) s₁ (mkF m 0 #[.val (.int p0)] []) := fun t q => k9 t (by
          refine XS.icmpYes X0.here hx rfl (pc0 := 19) (pc' := 26) rfl (hb hby own_d1_19) rfl (feq hc10).2 (by decide) (by decide) ?_
          show Steps p.tables e below (s₁.setTop (mkF m 26 #[.val (.int p0)] [])) _
          refine XS.iloadN X0.here hx rfl (hb hby own_d1_26) rfl ?_
          show Steps p.tables e below (s₁.setTop (mkF m 27 #[.val (.int p0)] [(.int p0)])) _
          refine XS.iconst X0.here hx rfl (hb hby own_d1_27) ?_
          show Steps p.tables e below (s₁.setTop (mkF m 28 #[.val (.int p0)] [(.int (3 : Int32)), (.int p0)])) _
          exact q)
        by_cases hc14 : p0 = (3 : Int32)
        ·
          obtain ⟨T15, X15, e15, st15⟩ := getS2 X0 hx hZ hown (host := "") (Or.inl (hw _ (List.mem_of_getElem? (i := 18) rfl))) Via.refl e0 (HE.1.2.2.2.1.ext O0.2) (g := (mkF m 31 #[.val (.int p0)] [])) rfl (hb hby own_d1_31)
          have k16 : own_To p e below T15 (mkF m 34 #[.val (.int p0)] [(.ref (en 3))]) s₁ (mkF m 0 #[.val (.int p0)] []) := fun t q => k13 t (by
            refine XS.icmpNo X0.here hx rfl (hb hby own_d1_28) rfl (teq hc14).2 ?_
            show Steps p.tables e below (s₁.setTop (mkF m 31 #[.val (.int p0)] [])) _
            refine st15 _ ?_
            show Steps p.tables e below (T15.setTop (mkF m 34 #[.val (.int p0)] [(.ref (en 3))])) _
            exact q)
          obtain ⟨fs, hr, hrun, hended, hW, hsame⟩ := X15.leave (v := some (.ref (en 3))) (fun h => by rw [Bd.returns] at h; cases h)
          refine ⟨_, _, k0 _ (k16 _ ?_), hrun, hended, _, _, rfl, ?_, ⟨_, rfl⟩, hW, hsame.mono (by decide) (by decide)⟩
          · show Steps p.tables e below (T15.setTop (mkF m 34 #[.val (.int p0)] [(.ref (en 3))])) _
            exact retOut X15 hx Bd.returns rfl (Or.inr (Or.inr (Or.inr (Or.inr ⟨rfl, rfl, rfl⟩)))) (hb hby own_d1_34) hr
          · show Q1 Z p0 en h0 n0 _ T15.heap _
            rw [e15]
            exact ⟨by rw [own_pick, if_neg hc2, if_neg hc6, if_neg hc10, if_pos hc14], N0, rfl⟩
        ·
          have k17 : own_To p e below s₁ (mkF m 37 #[.val (.int p0)] [(.int (4 : Int32)), (.int p0)]) s₁ (mkF m 0 #[.val (.int p0)] []) := fun t q => k13 t (by
            refine XS.icmpYes X0.here hx rfl (pc0 := 28) (pc' := 35) rfl (hb hby own_d1_28) rfl (feq hc14).2 (by decide) (by decide) ?_
            show Steps p.tables e below (s₁.setTop (mkF m 35 #[.val (.int p0)] [])) _
            refine XS.iloadN X0.here hx rfl (hb hby own_d1_35) rfl ?_
            show Steps p.tables e below (s₁.setTop (mkF m 36 #[.val (.int p0)] [(.int p0)])) _
            refine XS.iconst X0.here hx rfl (hb hby own_d1_36) ?_
            show Steps p.tables e below (s₁.setTop (mkF m 37 #[.val (.int p0)] [(.int (4 : Int32)), (.int p0)])) _
            exact q)
          by_cases hc18 : p0 = (4 : Int32)
          ·
            obtain ⟨T19, X19, e19, st19⟩ := getS2 X0 hx hZ hown (host := "") (Or.inl (hw _ (List.mem_of_getElem? (i := 24) rfl))) Via.refl e0 (HE.1.2.2.2.2.1.ext O0.2) (g := (mkF m 40 #[.val (.int p0)] [])) rfl (hb hby own_d1_40)
            have k20 : own_To p e below T19 (mkF m 43 #[.val (.int p0)] [(.ref (en 4))]) s₁ (mkF m 0 #[.val (.int p0)] []) := fun t q => k17 t (by
              refine XS.icmpNo X0.here hx rfl (hb hby own_d1_37) rfl (teq hc18).2 ?_
              show Steps p.tables e below (s₁.setTop (mkF m 40 #[.val (.int p0)] [])) _
              refine st19 _ ?_
              show Steps p.tables e below (T19.setTop (mkF m 43 #[.val (.int p0)] [(.ref (en 4))])) _
              exact q)
            obtain ⟨fs, hr, hrun, hended, hW, hsame⟩ := X19.leave (v := some (.ref (en 4))) (fun h => by rw [Bd.returns] at h; cases h)
            refine ⟨_, _, k0 _ (k20 _ ?_), hrun, hended, _, _, rfl, ?_, ⟨_, rfl⟩, hW, hsame.mono (by decide) (by decide)⟩
            · show Steps p.tables e below (T19.setTop (mkF m 43 #[.val (.int p0)] [(.ref (en 4))])) _
              exact retOut X19 hx Bd.returns rfl (Or.inr (Or.inr (Or.inr (Or.inr ⟨rfl, rfl, rfl⟩)))) (hb hby own_d1_43) hr
            · show Q1 Z p0 en h0 n0 _ T19.heap _
              rw [e19]
              exact ⟨by rw [own_pick, if_neg hc2, if_neg hc6, if_neg hc10, if_neg hc14, if_pos hc18], N0, rfl⟩
          ·
            have k21 : own_To p e below s₁ (mkF m 46 #[.val (.int p0)] [(.int (5 : Int32)), (.int p0)]) s₁ (mkF m 0 #[.val (.int p0)] []) := fun t q => k17 t (by
              refine XS.icmpYes X0.here hx rfl (pc0 := 37) (pc' := 44) rfl (hb hby own_d1_37) rfl (feq hc18).2 (by decide) (by decide) ?_
              show Steps p.tables e below (s₁.setTop (mkF m 44 #[.val (.int p0)] [])) _
              refine XS.iloadN X0.here hx rfl (hb hby own_d1_44) rfl ?_
              show Steps p.tables e below (s₁.setTop (mkF m 45 #[.val (.int p0)] [(.int p0)])) _
              refine XS.iconst X0.here hx rfl (hb hby own_d1_45) ?_
              show Steps p.tables e below (s₁.setTop (mkF m 46 #[.val (.int p0)] [(.int (5 : Int32)), (.int p0)])) _
              exact q)
            by_cases hc22 : p0 = (5 : Int32)
            ·
              obtain ⟨T23, X23, e23, st23⟩ := getS2 X0 hx hZ hown (host := "") (Or.inl (hw _ (List.mem_of_getElem? (i := 26) rfl))) Via.refl e0 (HE.1.2.2.2.2.2.1.ext O0.2) (g := (mkF m 49 #[.val (.int p0)] [])) rfl (hb hby own_d1_49)
              have k24 : own_To p e below T23 (mkF m 52 #[.val (.int p0)] [(.ref (en 5))]) s₁ (mkF m 0 #[.val (.int p0)] []) := fun t q => k21 t (by
                refine XS.icmpNo X0.here hx rfl (hb hby own_d1_46) rfl (teq hc22).2 ?_
                show Steps p.tables e below (s₁.setTop (mkF m 49 #[.val (.int p0)] [])) _
                refine st23 _ ?_
                show Steps p.tables e below (T23.setTop (mkF m 52 #[.val (.int p0)] [(.ref (en 5))])) _
                exact q)
              obtain ⟨fs, hr, hrun, hended, hW, hsame⟩ := X23.leave (v := some (.ref (en 5))) (fun h => by rw [Bd.returns] at h; cases h)
              refine ⟨_, _, k0 _ (k24 _ ?_), hrun, hended, _, _, rfl, ?_, ⟨_, rfl⟩, hW, hsame.mono (by decide) (by decide)⟩
              · show Steps p.tables e below (T23.setTop (mkF m 52 #[.val (.int p0)] [(.ref (en 5))])) _
                exact retOut X23 hx Bd.returns rfl (Or.inr (Or.inr (Or.inr (Or.inr ⟨rfl, rfl, rfl⟩)))) (hb hby own_d1_52) hr
              · show Q1 Z p0 en h0 n0 _ T23.heap _
                rw [e23]
                exact ⟨by rw [own_pick, if_neg hc2, if_neg hc6, if_neg hc10, if_neg hc14, if_neg hc18, if_pos hc22], N0, rfl⟩
            ·
              have k25 : own_To p e below s₁ (mkF m 56 #[.val (.int p0)] [(.int (6 : Int32)), (.int p0)]) s₁ (mkF m 0 #[.val (.int p0)] []) := fun t q => k21 t (by
                refine XS.icmpYes X0.here hx rfl (pc0 := 46) (pc' := 53) rfl (hb hby own_d1_46) rfl (feq hc22).2 (by decide) (by decide) ?_
                show Steps p.tables e below (s₁.setTop (mkF m 53 #[.val (.int p0)] [])) _
                refine XS.iloadN X0.here hx rfl (hb hby own_d1_53) rfl ?_
                show Steps p.tables e below (s₁.setTop (mkF m 54 #[.val (.int p0)] [(.int p0)])) _
                refine XS.bipush X0.here hx rfl (hb hby own_d1_54) ?_
                show Steps p.tables e below (s₁.setTop (mkF m 56 #[.val (.int p0)] [(.int (6 : Int32)), (.int p0)])) _
                exact q)
              by_cases hc26 : p0 = (6 : Int32)
              ·
                obtain ⟨T27, X27, e27, st27⟩ := getS2 X0 hx hZ hown (host := "") (Or.inl (hw _ (List.mem_of_getElem? (i := 22) rfl))) Via.refl e0 (HE.1.2.2.2.2.2.2.1.ext O0.2) (g := (mkF m 59 #[.val (.int p0)] [])) rfl (hb hby own_d1_59)
                have k28 : own_To p e below T27 (mkF m 62 #[.val (.int p0)] [(.ref (en 6))]) s₁ (mkF m 0 #[.val (.int p0)] []) := fun t q => k25 t (by
                  refine XS.icmpNo X0.here hx rfl (hb hby own_d1_56) rfl (teq hc26).2 ?_
                  show Steps p.tables e below (s₁.setTop (mkF m 59 #[.val (.int p0)] [])) _
                  refine st27 _ ?_
                  show Steps p.tables e below (T27.setTop (mkF m 62 #[.val (.int p0)] [(.ref (en 6))])) _
                  exact q)
                obtain ⟨fs, hr, hrun, hended, hW, hsame⟩ := X27.leave (v := some (.ref (en 6))) (fun h => by rw [Bd.returns] at h; cases h)
                refine ⟨_, _, k0 _ (k28 _ ?_), hrun, hended, _, _, rfl, ?_, ⟨_, rfl⟩, hW, hsame.mono (by decide) (by decide)⟩
                · show Steps p.tables e below (T27.setTop (mkF m 62 #[.val (.int p0)] [(.ref (en 6))])) _
                  exact retOut X27 hx Bd.returns rfl (Or.inr (Or.inr (Or.inr (Or.inr ⟨rfl, rfl, rfl⟩)))) (hb hby own_d1_62) hr
                · show Q1 Z p0 en h0 n0 _ T27.heap _
                  rw [e27]
                  exact ⟨by rw [own_pick, if_neg hc2, if_neg hc6, if_neg hc10, if_neg hc14, if_neg hc18, if_neg hc22, if_pos hc26], N0, rfl⟩
              ·
                obtain ⟨T29, X29, e29, st29⟩ := getS2 X0 hx hZ hown (host := "") (Or.inl (hw _ (List.mem_of_getElem? (i := 23) rfl))) Via.refl e0 (HE.1.2.2.2.2.2.2.2.ext O0.2) (g := (mkF m 63 #[.val (.int p0)] [])) rfl (hb hby own_d1_63)
                have k30 : own_To p e below T29 (mkF m 66 #[.val (.int p0)] [(.ref (en 7))]) s₁ (mkF m 0 #[.val (.int p0)] []) := fun t q => k25 t (by
                  refine XS.icmpYes X0.here hx rfl (pc0 := 56) (pc' := 63) rfl (hb hby own_d1_56) rfl (feq hc26).2 (by decide) (by decide) ?_
                  show Steps p.tables e below (s₁.setTop (mkF m 63 #[.val (.int p0)] [])) _
                  refine st29 _ ?_
                  show Steps p.tables e below (T29.setTop (mkF m 66 #[.val (.int p0)] [(.ref (en 7))])) _
                  exact q)
                obtain ⟨fs, hr, hrun, hended, hW, hsame⟩ := X29.leave (v := some (.ref (en 7))) (fun h => by rw [Bd.returns] at h; cases h)
                refine ⟨_, _, k0 _ (k30 _ ?_), hrun, hended, _, _, rfl, ?_, ⟨_, rfl⟩, hW, hsame.mono (by decide) (by decide)⟩
                · show Steps p.tables e below (T29.setTop (mkF m 66 #[.val (.int p0)] [(.ref (en 7))])) _
                  exact retOut X29 hx Bd.returns rfl (Or.inr (Or.inr (Or.inr (Or.inr ⟨rfl, rfl, rfl⟩)))) (hb hby own_d1_66) hr
                · show Q1 Z p0 en h0 n0 _ T29.heap _
                  rw [e29]
                  exact ⟨by rw [own_pick, if_neg hc2, if_neg hc6, if_neg hc10, if_neg hc14, if_neg hc18, if_neg hc22, if_neg hc26], N0, rfl⟩
theorem own_pickE {Z : State} {en : Nat → Addr} (H : own_en Z en) (k : Int32) : Exa Z Z.heap (own_pick en k) "com/example/portcullis/portcullis/core/MessageRules$Operator" := by
  unfold own_pick
  (repeat' split) <;> exact H.2.1 _ (by decide)
theorem own_d2_0 : decode prog_21_method_5_code 0 = .ok (.aload_n 0, 1) := by decide +kernel
theorem own_d2_1 : decode prog_21_method_5_code 1 = .ok (.getstatic 22, 3) := by decide +kernel
theorem own_d2_4 : decode prog_21_method_5_code 4 = .ok (.if_acmp .eq 10, 3) := by decide +kernel
theorem own_d2_7 : decode prog_21_method_5_code 7 = .ok (.aload_n 0, 1) := by decide +kernel
theorem own_d2_8 : decode prog_21_method_5_code 8 = .ok (.getstatic 25, 3) := by decide +kernel
theorem own_d2_11 : decode prog_21_method_5_code 11 = .ok (.if_acmp .ne 7, 3) := by decide +kernel
theorem own_d2_14 : decode prog_21_method_5_code 14 = .ok (.iconst 1, 1) := by decide +kernel
theorem own_d2_15 : decode prog_21_method_5_code 15 = .ok (.goto 4, 3) := by decide +kernel
theorem own_d2_18 : decode prog_21_method_5_code 18 = .ok (.iconst 0, 1) := by decide +kernel
theorem own_d2_19 : decode prog_21_method_5_code 19 = .ok (.ireturn, 1) := by decide +kernel
theorem own_pn2 : plainName "com/example/portcullis/portcullis/core/MessageRules$Operator" = true := by first | (simp [plainName, overriddenIn]; done) | decide +kernel
theorem own_ef2 (m : MethodId) (x0 : Addr) : entryFrame m #[(.ref x0)] 1 = mkF m 0 #[.val (.ref x0)] [] := by first | (simp [entryFrame, mkF, argsToLocals, Value.category]; done) | rfl
def own_rx (en : Nat → Addr) (a0_ : Addr) : Int32 := (if a0_ = (en 6) then (1 : Int32) else (if a0_ = (en 7) then (1 : Int32) else (0 : Int32)))
def Q2 (Z : State) (a0_ : Addr) (en : Nat → Addr) (h0 : Heap) (n0 : Nat) (v : Option Value) (h : Heap) (L : List Loc) : Prop := v = some (.int (own_rx en a0_)) ∧ Fr n0 L ∧ h = h0
set_option maxRecDepth 65536 in
set_option maxHeartbeats 40000000 in
theorem rm2 (l : Launch) (Z : State) (a0 : Array Value) (hw : ∀ d ∈ tables_1, d.before a0 Z = true) (ws : List Jvm.Cond) (a0_ : Addr) (en : Nat → Addr) (h0 : Heap) (n0 : Nat) (Z0 : n0 ≤ h0.size) (HE : own_en Z en) (O0 : Old Z n0 h0) :
    MetFree l (⟨"com/example/portcullis/portcullis/core/MessageRules$Operator", "isRegex", "()Z"⟩ : MethodName) (head1 (Jvm.Cond.code (⟨"com/example/portcullis/portcullis/core/MessageRules$Operator", "isRegex", "()Z"⟩ : MethodName) prog_21_method_5_code 1 (some .boolean) :: ws) ({ frames := 0, cells := 0, slots := 0, locals := 0 } : Room)) (fun a U => a = #[(.ref a0_)] ∧ Z.Warmed39 U.vm ∧ U.heap = h0) (fun _ _ _ _ _ => True) (fun _ U o U' => ∃ v L, o = .returned v ∧ Q2 Z a0_ en h0 n0 v U'.heap L ∧ FrameEnd U o U' L ({ frames := 0, cells := 0, slots := 0, locals := 0 } : Room).cells ({ frames := 0, cells := 0, slots := 0, locals := 0 } : Room).slots) := by
  refine MetFree.of_bodySF (plainFor_of_name own_pn2) hisR ?_
  intro p e s m args below meth c s₁ Bd hml0 hP hK
  obtain ⟨rfl, hZ, hh⟩ := hP
  have hx := Bd.exec
  have hby := Bd.bytes
  have hml : c.maxLocals = 1 := hml0
  have hown : s.vm.findClass "com/example/portcullis/portcullis/core/MessageRules$Operator" = some m.cls := findClass_of_methodNamed Bd.named
  have hnm := (name_of_methodNamed Bd.named Bd.method).1
  have X0 : Stand p l e ({ frames := 0, cells := 0, slots := 0, locals := 0 } : Room) s m #[(.ref a0_)] below meth c s₁ [] 0 0 := Stand.of_body Bd
  have e0 : s₁.heap = h0 := by rw [← hh, Bd.state]; rfl
  have N0 := Fr.nil n0
  have k0 : own_To p e below s₁ (mkF m 0 #[.val (.ref a0_)] []) s₁ (entryFrame m #[(.ref a0_)] 1) := fun t k => castTop (own_ef2 m a0_) k
  have ki : own_To p e below s₁ (mkF m 0 #[.val (.ref a0_)] []) s₁ (mkF m 0 #[.val (.ref a0_)] []) := fun t q => q
  obtain ⟨T1, X1, e1, st1⟩ := getS2 X0 hx hZ hown (host := "") (Or.inl (hw _ (List.mem_of_getElem? (i := 14) rfl))) Via.refl e0 (HE.1.2.2.2.2.2.2.1.ext O0.2) (g := (mkF m 1 #[.val (.ref a0_)] [(.ref a0_)])) rfl (hb hby own_d2_1)
  have k2 : own_To p e below T1 (mkF m 4 #[.val (.ref a0_)] [(.ref (en 6)), (.ref a0_)]) s₁ (mkF m 0 #[.val (.ref a0_)] []) := fun t q => ki t (by
    refine XS.aloadN X0.here hx rfl (hb hby own_d2_0) rfl rfl ?_
    show Steps p.tables e below (s₁.setTop (mkF m 1 #[.val (.ref a0_)] [(.ref a0_)])) _
    refine st1 _ ?_
    show Steps p.tables e below (T1.setTop (mkF m 4 #[.val (.ref a0_)] [(.ref (en 6)), (.ref a0_)])) _
    exact q)
  by_cases hc3 : a0_ = (en 6)
  ·
    have k4 : own_To p e below T1 (mkF m 19 #[.val (.ref a0_)] [(.int (1 : Int32))]) s₁ (mkF m 0 #[.val (.ref a0_)] []) := fun t q => k2 t (by
      refine Jvm.RoadKit.acmp (g := (mkF m 4 #[.val (.ref a0_)] [(.ref (en 6)), (.ref a0_)])) X1 hx rfl rfl rfl (pc0 := 4) (pc' := 14) (same := true) rfl (hb hby own_d2_4) rfl (decide_eq_true (congrArg Value.ref hc3)) (by decide) (by decide) ?_
      show Steps p.tables e below (T1.setTop (mkF m 14 #[.val (.ref a0_)] [])) _
      refine XS.iconst X1.here hx rfl (hb hby own_d2_14) ?_
      show Steps p.tables e below (T1.setTop (mkF m 15 #[.val (.ref a0_)] [(.int (1 : Int32))])) _
      refine XS.goto X1.here hx rfl (pc0 := 15) (pc' := 19) rfl (hb hby own_d2_15) (by decide) (by decide) ?_
      show Steps p.tables e below (T1.setTop (mkF m 19 #[.val (.ref a0_)] [(.int (1 : Int32))])) _
      exact q)
    obtain ⟨fs, hr, hrun, hended, hW, hsame⟩ := X1.leave (v := some (.int (1 : Int32))) (fun h => by rw [Bd.returns] at h; cases h)
    refine ⟨_, _, k0 _ (k4 _ ?_), hrun, hended, _, _, rfl, ?_, ⟨_, rfl⟩, hW, hsame.mono (by decide) (by decide)⟩
    · show Steps p.tables e below (T1.setTop (mkF m 19 #[.val (.ref a0_)] [(.int (1 : Int32))])) _
      exact retN X1 hx (t := .boolean) Bd.returns (by simp) (hb hby own_d2_19) hr
    · show Q2 Z a0_ en h0 n0 _ T1.heap _
      rw [e1]
      exact ⟨by rw [own_rx, if_pos hc3], N0, rfl⟩
  ·
    obtain ⟨T5, X5, e5, st5⟩ := getS2 X1 hx hZ hown (host := "") (Or.inl (hw _ (List.mem_of_getElem? (i := 16) rfl))) Via.refl e1 (HE.1.2.2.2.2.2.2.2.ext O0.2) (g := (mkF m 8 #[.val (.ref a0_)] [(.ref a0_)])) rfl (hb hby own_d2_8)
    have k6 : own_To p e below T5 (mkF m 11 #[.val (.ref a0_)] [(.ref (en 7)), (.ref a0_)]) s₁ (mkF m 0 #[.val (.ref a0_)] []) := fun t q => k2 t (by
      refine Jvm.RoadKit.acmp (g := (mkF m 4 #[.val (.ref a0_)] [(.ref (en 6)), (.ref a0_)])) X1 hx rfl rfl rfl (pc0 := 4) (pc' := 7) (same := false) rfl (hb hby own_d2_4) rfl (decide_eq_false fun q => hc3 (Value.ref.inj q)) (by decide) (by decide) ?_
      show Steps p.tables e below (T1.setTop (mkF m 7 #[.val (.ref a0_)] [])) _
      refine XS.aloadN X1.here hx rfl (hb hby own_d2_7) rfl rfl ?_
      show Steps p.tables e below (T1.setTop (mkF m 8 #[.val (.ref a0_)] [(.ref a0_)])) _
      refine st5 _ ?_
      show Steps p.tables e below (T5.setTop (mkF m 11 #[.val (.ref a0_)] [(.ref (en 7)), (.ref a0_)])) _
      exact q)
    by_cases hc7 : a0_ = (en 7)
    ·
      have k8 : own_To p e below T5 (mkF m 19 #[.val (.ref a0_)] [(.int (1 : Int32))]) s₁ (mkF m 0 #[.val (.ref a0_)] []) := fun t q => k6 t (by
        refine Jvm.RoadKit.acmp (g := (mkF m 11 #[.val (.ref a0_)] [(.ref (en 7)), (.ref a0_)])) X5 hx rfl rfl rfl (pc0 := 11) (pc' := 14) (same := true) rfl (hb hby own_d2_11) rfl (decide_eq_true (congrArg Value.ref hc7)) (by decide) (by decide) ?_
        show Steps p.tables e below (T5.setTop (mkF m 14 #[.val (.ref a0_)] [])) _
        refine XS.iconst X5.here hx rfl (hb hby own_d2_14) ?_
        show Steps p.tables e below (T5.setTop (mkF m 15 #[.val (.ref a0_)] [(.int (1 : Int32))])) _
        refine XS.goto X5.here hx rfl (pc0 := 15) (pc' := 19) rfl (hb hby own_d2_15) (by decide) (by decide) ?_
        show Steps p.tables e below (T5.setTop (mkF m 19 #[.val (.ref a0_)] [(.int (1 : Int32))])) _
        exact q)
      obtain ⟨fs, hr, hrun, hended, hW, hsame⟩ := X5.leave (v := some (.int (1 : Int32))) (fun h => by rw [Bd.returns] at h; cases h)
      refine ⟨_, _, k0 _ (k8 _ ?_), hrun, hended, _, _, rfl, ?_, ⟨_, rfl⟩, hW, hsame.mono (by decide) (by decide)⟩
      · show Steps p.tables e below (T5.setTop (mkF m 19 #[.val (.ref a0_)] [(.int (1 : Int32))])) _
        exact retN X5 hx (t := .boolean) Bd.returns (by simp) (hb hby own_d2_19) hr
      · show Q2 Z a0_ en h0 n0 _ T5.heap _
        rw [e5]
        exact ⟨by rw [own_rx, if_neg hc3, if_pos hc7], N0, rfl⟩
    ·
      have k9 : own_To p e below T5 (mkF m 19 #[.val (.ref a0_)] [(.int (0 : Int32))]) s₁ (mkF m 0 #[.val (.ref a0_)] []) := fun t q => k6 t (by
        refine Jvm.RoadKit.acmp (g := (mkF m 11 #[.val (.ref a0_)] [(.ref (en 7)), (.ref a0_)])) X5 hx rfl rfl rfl (pc0 := 11) (pc' := 18) (same := false) rfl (hb hby own_d2_11) rfl (decide_eq_false fun q => hc7 (Value.ref.inj q)) (by decide) (by decide) ?_
        show Steps p.tables e below (T5.setTop (mkF m 18 #[.val (.ref a0_)] [])) _
        refine XS.iconst X5.here hx rfl (hb hby own_d2_18) ?_
        show Steps p.tables e below (T5.setTop (mkF m 19 #[.val (.ref a0_)] [(.int (0 : Int32))])) _
        exact q)
      obtain ⟨fs, hr, hrun, hended, hW, hsame⟩ := X5.leave (v := some (.int (0 : Int32))) (fun h => by rw [Bd.returns] at h; cases h)
      refine ⟨_, _, k0 _ (k9 _ ?_), hrun, hended, _, _, rfl, ?_, ⟨_, rfl⟩, hW, hsame.mono (by decide) (by decide)⟩
      · show Steps p.tables e below (T5.setTop (mkF m 19 #[.val (.ref a0_)] [(.int (0 : Int32))])) _
        exact retN X5 hx (t := .boolean) Bd.returns (by simp) (hb hby own_d2_19) hr
      · show Q2 Z a0_ en h0 n0 _ T5.heap _
        rw [e5]
        exact ⟨by rw [own_rx, if_neg hc3, if_neg hc7], N0, rfl⟩
theorem own_rx01 {Z : State} {en : Nat → Addr} (H : own_en Z en) (i : Nat) (hi : i < 8) : own_rx en (en i) = if i < 6 then (0 : Int32) else (1 : Int32) := by
  unfold own_rx
  match i, hi with
  | 0, _ => rw [if_neg (own_ne H 0 6 (by decide) (by decide) (by decide)), if_neg (own_ne H 0 7 (by decide) (by decide) (by decide))]; rfl
  | 1, _ => rw [if_neg (own_ne H 1 6 (by decide) (by decide) (by decide)), if_neg (own_ne H 1 7 (by decide) (by decide) (by decide))]; rfl
  | 2, _ => rw [if_neg (own_ne H 2 6 (by decide) (by decide) (by decide)), if_neg (own_ne H 2 7 (by decide) (by decide) (by decide))]; rfl
  | 3, _ => rw [if_neg (own_ne H 3 6 (by decide) (by decide) (by decide)), if_neg (own_ne H 3 7 (by decide) (by decide) (by decide))]; rfl
  | 4, _ => rw [if_neg (own_ne H 4 6 (by decide) (by decide) (by decide)), if_neg (own_ne H 4 7 (by decide) (by decide) (by decide))]; rfl
  | 5, _ => rw [if_neg (own_ne H 5 6 (by decide) (by decide) (by decide)), if_neg (own_ne H 5 7 (by decide) (by decide) (by decide))]; rfl
  | 6, _ => rw [if_pos rfl]; rfl
  | 7, _ => rw [if_neg (own_ne H 7 6 (by decide) (by decide) (by decide)), if_pos rfl]; rfl
theorem own_law {Z : State} {en : Nat → Addr} (H : own_en Z en) (x : Int32) : (own_rx en (own_pick en (x &&& (7 : Int32))) = if (x &&& (7 : Int32)) = (6 : Int32) then (1 : Int32) else if (x &&& (7 : Int32)) = (7 : Int32) then (1 : Int32) else (0 : Int32)) ∧ own_rx en (own_pick en ((x &&& (7 : Int32)) ^^^ (1 : Int32))) = own_rx en (own_pick en (x &&& (7 : Int32))) := by
  have h := c_mask x 7 3 (by decide) (by decide)
  generalize (x &&& (7 : Int32)) = k at *
  have hk : k = 0 ∨ k = 1 ∨ k = 2 ∨ k = 3 ∨ k = 4 ∨ k = 5 ∨ k = 6 ∨ k = 7 := by
    simp only [← Int32.toInt_inj, Int32.reduceToInt]; omega
  have p0 : own_pick en 0 = en 0 := rfl
  have p1 : own_pick en 1 = en 1 := rfl
  have p2 : own_pick en 2 = en 2 := rfl
  have p3 : own_pick en 3 = en 3 := rfl
  have p4 : own_pick en 4 = en 4 := rfl
  have p5 : own_pick en 5 = en 5 := rfl
  have p6 : own_pick en 6 = en 6 := rfl
  have p7 : own_pick en 7 = en 7 := rfl
  have q0 := own_rx01 H 0 (by decide)
  have q1 := own_rx01 H 1 (by decide)
  have q2 := own_rx01 H 2 (by decide)
  have q3 := own_rx01 H 3 (by decide)
  have q4 := own_rx01 H 4 (by decide)
  have q5 := own_rx01 H 5 (by decide)
  have q6 := own_rx01 H 6 (by decide)
  have q7 := own_rx01 H 7 (by decide)
  rcases hk with rfl | rfl | rfl | rfl | rfl | rfl | rfl | rfl
  · rw [show (0 : Int32) ^^^ 1 = 1 from by decide, p0, p1, q0, q1]; decide
  · rw [show (1 : Int32) ^^^ 1 = 0 from by decide, p0, p1, q0, q1]; decide
  · rw [show (2 : Int32) ^^^ 1 = 3 from by decide, p2, p3, q2, q3]; decide
  · rw [show (3 : Int32) ^^^ 1 = 2 from by decide, p2, p3, q2, q3]; decide
  · rw [show (4 : Int32) ^^^ 1 = 5 from by decide, p4, p5, q4, q5]; decide
  · rw [show (5 : Int32) ^^^ 1 = 4 from by decide, p4, p5, q4, q5]; decide
  · rw [show (6 : Int32) ^^^ 1 = 7 from by decide, p6, p7, q6, q7]; decide
  · rw [show (7 : Int32) ^^^ 1 = 6 from by decide, p6, p7, q6, q7]; decide
theorem own_pd1 : parseMethodDescriptor "(I)Lcom/example/portcullis/portcullis/core/MessageRules$Operator;" = some ⟨[.int], some (.object "com/example/portcullis/portcullis/core/MessageRules$Operator")⟩ := by decide +kernel
theorem own_pd0 : parseMethodDescriptor "()Z" = some ⟨[], some .boolean⟩ := by decide +kernel
theorem own_pn0 : plainName "com/example/portcullis/portcullis/core/OperatorIsRegexPinLaw" = true := by first | (simp [plainName, overriddenIn]; done) | decide +kernel
theorem own_ef0 (m : MethodId) (x0 : Int32) : entryFrame m #[(.int x0)] maxLocals = mkF m 0 #[.val (.int x0), .unset, .unset, .unset, .unset, .unset] [] := by first | (simp [entryFrame, mkF, argsToLocals, Value.category, maxLocals]; done) | rfl
def Q0 (Z : State) (p0 : Int32) (en : Nat → Addr) (h0 : Heap) (n0 : Nat) (v : Option Value) (h : Heap) (L : List Loc) : Prop := v = some (.int 1) ∧ Fr n0 L
set_option maxRecDepth 65536 in
set_option maxHeartbeats 40000000 in
theorem rm0 (l : Launch) (Z : State) (a0 : Array Value) (hw : ∀ d ∈ tables_1, d.before a0 Z = true) (ws : List Jvm.Cond) (p0 : Int32) (en : Nat → Addr) (h0 : Heap) (n0 : Nat) (Z0 : n0 ≤ h0.size) (HE : own_en Z en) (O0 : Old Z n0 h0) :
    MetFree l x (head1 (Jvm.Cond.code x code maxLocals ret :: ws) room_1) (fun a U => a = #[(.int p0)] ∧ Z.Warmed39 U.vm ∧ U.heap = h0) (fun _ _ _ _ _ => True) (fun _ U o U' => ∃ v L, o = .returned v ∧ Q0 Z p0 en h0 n0 v U'.heap L ∧ FrameEnd U o U' L 0 0) := by
  refine MetFree.of_bodySF (plainFor_of_name own_pn0) hisR ?_
  intro p e s m args below meth c s₁ Bd hml0 hP hK
  obtain ⟨rfl, hZ, hh⟩ := hP
  have hx := Bd.exec
  have hby := Bd.bytes
  have hml : c.maxLocals = 6 := hml0
  have hown : s.vm.findClass "com/example/portcullis/portcullis/core/OperatorIsRegexPinLaw" = some m.cls := findClass_of_methodNamed Bd.named
  have hnm := (name_of_methodNamed Bd.named Bd.method).1
  have X0 : Stand p l e room_1 s m #[(.int p0)] below meth c s₁ [] 0 0 := Stand.of_body Bd
  have e0 : s₁.heap = h0 := by rw [← hh, Bd.state]; rfl
  have N0 := Fr.nil n0
  have k0 : own_To p e below s₁ (mkF m 0 #[.val (.int p0), .unset, .unset, .unset, .unset, .unset] []) s₁ (entryFrame m #[(.int p0)] maxLocals) := fun t k => castTop (own_ef0 m p0) k
  have ki : own_To p e below s₁ (mkF m 0 #[.val (.int p0), .unset, .unset, .unset, .unset, .unset] []) s₁ (mkF m 0 #[.val (.int p0), .unset, .unset, .unset, .unset, .unset] []) := fun t q => q
  obtain ⟨_, _, ⟨T1, L1, kk1, n1⟩, -, X1, ⟨Lc1, hQ1, l1, y1, z1⟩, st1⟩ := Jvm.LawKit.callS X0 hx (y := (⟨"com/example/portcullis/portcullis/core/OperatorIsRegexPinLaw", "pick", "(I)Lcom/example/portcullis/portcullis/core/MessageRules$Operator;"⟩ : MethodName)) hown (mvT hZ (hw _ (List.mem_of_getElem? (i := 0) rfl))) (mvT hZ (hw _ (List.mem_of_getElem? (i := 1) rfl))) (mvT hZ (hw _ (List.mem_of_getElem? (i := 2) rfl))) (mvT hZ (hw _ (List.mem_of_getElem? (i := 3) rfl))) (by decide) (backOf (W := 0) (rm1 l Z a0 hw [] (p0 &&& (7 : Int32)) en h0 n0 Z0 HE O0) hZ (hw _ (List.mem_of_getElem? (i := 3) rfl)) (hw _ (List.mem_of_getElem? (i := 2) rfl)) (by decide) (by decide)) (g := (mkF m 6 #[.val (.int p0), .val (.int (p0 &&& (7 : Int32))), .unset, .unset, .unset, .unset] [(.int (p0 &&& (7 : Int32)))])) rfl (by rw [hml]; rfl) (argsL := [(.int (p0 &&& (7 : Int32)))]) (rest := []) (lenOf own_pd1 rfl) rfl (by show 2 * 0 + _ ≤ _; exact Nat.le_of_eq rfl) (hb hby at_6) (fun _ _ => ⟨rfl, e0, (by decide : 0 + 0 ≤ _), (by decide : 0 + 0 ≤ _)⟩)
  dsimp only [Pt.U, Pt.locs, Pt.cells, Pt.slots] at X1 l1 y1 z1 st1 hQ1
  subst l1 y1 z1
  obtain ⟨rfl, N1q, e1⟩ := hQ1
  have N1 := Fr.app N0 N1q
  have E1 := (own_pickE HE (p0 &&& (7 : Int32))).ext O0.2
  obtain ⟨_, _, ⟨T2, L2, kk2, n2⟩, -, X2, ⟨Lc2, hQ2, l2, y2, z2⟩, st2⟩ := Jvm.LawKit.callS X1 hx (y := (⟨"com/example/portcullis/portcullis/core/OperatorIsRegexPinLaw", "pick", "(I)Lcom/example/portcullis/portcullis/core/MessageRules$Operator;"⟩ : MethodName)) hown (mvT hZ (hw _ (List.mem_of_getElem? (i := 0) rfl))) (mvT hZ (hw _ (List.mem_of_getElem? (i := 1) rfl))) (mvT hZ (hw _ (List.mem_of_getElem? (i := 2) rfl))) (mvT hZ (hw _ (List.mem_of_getElem? (i := 3) rfl))) (by decide) (backOf (W := 0) (rm1 l Z a0 hw [] ((p0 &&& (7 : Int32)) ^^^ (1 : Int32)) en h0 n0 Z0 HE O0) hZ (hw _ (List.mem_of_getElem? (i := 3) rfl)) (hw _ (List.mem_of_getElem? (i := 2) rfl)) (by decide) (by decide)) (g := (mkF m 13 #[.val (.int p0), .val (.int (p0 &&& (7 : Int32))), .val (.ref (own_pick en (p0 &&& (7 : Int32)))), .unset, .unset, .unset] [(.int ((p0 &&& (7 : Int32)) ^^^ (1 : Int32)))])) rfl (by rw [hml]; rfl) (argsL := [(.int ((p0 &&& (7 : Int32)) ^^^ (1 : Int32)))]) (rest := []) (lenOf own_pd1 rfl) rfl (by show 2 * 0 + _ ≤ _; exact Nat.le_of_eq rfl) (hb hby at_13) (fun _ _ => ⟨rfl, e1, (by decide : 0 + 0 ≤ _), (by decide : 0 + 0 ≤ _)⟩)
  dsimp only [Pt.U, Pt.locs, Pt.cells, Pt.slots] at X2 l2 y2 z2 st2 hQ2
  subst l2 y2 z2
  obtain ⟨rfl, N2q, e2⟩ := hQ2
  have N2 := Fr.app N1 N2q
  have E2 := (own_pickE HE ((p0 &&& (7 : Int32)) ^^^ (1 : Int32))).ext O0.2
  have k3 : own_To p e below T2 (mkF m 20 #[.val (.int p0), .val (.int (p0 &&& (7 : Int32))), .val (.ref (own_pick en (p0 &&& (7 : Int32)))), .val (.ref (own_pick en ((p0 &&& (7 : Int32)) ^^^ (1 : Int32)))), .unset, .unset] [(.int (6 : Int32)), (.int (p0 &&& (7 : Int32)))]) s₁ (mkF m 0 #[.val (.int p0), .unset, .unset, .unset, .unset, .unset] []) := fun t q => ki t (by
    refine XS.iloadN X0.here hx rfl (hb hby at_0) rfl ?_
    show Steps p.tables e below (s₁.setTop (mkF m 1 #[.val (.int p0), .unset, .unset, .unset, .unset, .unset] [(.int p0)])) _
    refine XS.bipush X0.here hx rfl (hb hby at_1) ?_
    show Steps p.tables e below (s₁.setTop (mkF m 3 #[.val (.int p0), .unset, .unset, .unset, .unset, .unset] [(.int (7 : Int32)), (.int p0)])) _
    refine XS.iand X0.here hx rfl (hb hby at_3) rfl ?_
    show Steps p.tables e below (s₁.setTop (mkF m 4 #[.val (.int p0), .unset, .unset, .unset, .unset, .unset] [(.int (p0 &&& (7 : Int32)))])) _
    refine XS.istoreN X0.here hx rfl (hb hby at_4) rfl (l' := #[.val (.int p0), .val (.int (p0 &&& (7 : Int32))), .unset, .unset, .unset, .unset]) rfl ?_
    show Steps p.tables e below (s₁.setTop (mkF m 5 #[.val (.int p0), .val (.int (p0 &&& (7 : Int32))), .unset, .unset, .unset, .unset] [])) _
    refine XS.iloadN X0.here hx rfl (hb hby at_5) rfl ?_
    show Steps p.tables e below (s₁.setTop (mkF m 6 #[.val (.int p0), .val (.int (p0 &&& (7 : Int32))), .unset, .unset, .unset, .unset] [(.int (p0 &&& (7 : Int32)))])) _
    refine st1 _ ?_
    show Steps p.tables e below (T1.setTop (mkF m 9 #[.val (.int p0), .val (.int (p0 &&& (7 : Int32))), .unset, .unset, .unset, .unset] [(.ref (own_pick en (p0 &&& (7 : Int32))))])) _
    refine XS.astoreN X1.here hx rfl (hb hby at_9) rfl rfl (l' := #[.val (.int p0), .val (.int (p0 &&& (7 : Int32))), .val (.ref (own_pick en (p0 &&& (7 : Int32)))), .unset, .unset, .unset]) rfl ?_
    show Steps p.tables e below (T1.setTop (mkF m 10 #[.val (.int p0), .val (.int (p0 &&& (7 : Int32))), .val (.ref (own_pick en (p0 &&& (7 : Int32)))), .unset, .unset, .unset] [])) _
    refine XS.iloadN X1.here hx rfl (hb hby at_10) rfl ?_
    show Steps p.tables e below (T1.setTop (mkF m 11 #[.val (.int p0), .val (.int (p0 &&& (7 : Int32))), .val (.ref (own_pick en (p0 &&& (7 : Int32)))), .unset, .unset, .unset] [(.int (p0 &&& (7 : Int32)))])) _
    refine XS.iconst X1.here hx rfl (hb hby at_11) ?_
    show Steps p.tables e below (T1.setTop (mkF m 12 #[.val (.int p0), .val (.int (p0 &&& (7 : Int32))), .val (.ref (own_pick en (p0 &&& (7 : Int32)))), .unset, .unset, .unset] [(.int (1 : Int32)), (.int (p0 &&& (7 : Int32)))])) _
    refine XS.ixor X1.here hx rfl (hb hby at_12) rfl ?_
    show Steps p.tables e below (T1.setTop (mkF m 13 #[.val (.int p0), .val (.int (p0 &&& (7 : Int32))), .val (.ref (own_pick en (p0 &&& (7 : Int32)))), .unset, .unset, .unset] [(.int ((p0 &&& (7 : Int32)) ^^^ (1 : Int32)))])) _
    refine st2 _ ?_
    show Steps p.tables e below (T2.setTop (mkF m 16 #[.val (.int p0), .val (.int (p0 &&& (7 : Int32))), .val (.ref (own_pick en (p0 &&& (7 : Int32)))), .unset, .unset, .unset] [(.ref (own_pick en ((p0 &&& (7 : Int32)) ^^^ (1 : Int32))))])) _
    refine XS.astoreN X2.here hx rfl (hb hby at_16) rfl rfl (l' := #[.val (.int p0), .val (.int (p0 &&& (7 : Int32))), .val (.ref (own_pick en (p0 &&& (7 : Int32)))), .val (.ref (own_pick en ((p0 &&& (7 : Int32)) ^^^ (1 : Int32)))), .unset, .unset]) rfl ?_
    show Steps p.tables e below (T2.setTop (mkF m 17 #[.val (.int p0), .val (.int (p0 &&& (7 : Int32))), .val (.ref (own_pick en (p0 &&& (7 : Int32)))), .val (.ref (own_pick en ((p0 &&& (7 : Int32)) ^^^ (1 : Int32)))), .unset, .unset] [])) _
    refine XS.iloadN X2.here hx rfl (hb hby at_17) rfl ?_
    show Steps p.tables e below (T2.setTop (mkF m 18 #[.val (.int p0), .val (.int (p0 &&& (7 : Int32))), .val (.ref (own_pick en (p0 &&& (7 : Int32)))), .val (.ref (own_pick en ((p0 &&& (7 : Int32)) ^^^ (1 : Int32)))), .unset, .unset] [(.int (p0 &&& (7 : Int32)))])) _
    refine XS.bipush X2.here hx rfl (hb hby at_18) ?_
    show Steps p.tables e below (T2.setTop (mkF m 20 #[.val (.int p0), .val (.int (p0 &&& (7 : Int32))), .val (.ref (own_pick en (p0 &&& (7 : Int32)))), .val (.ref (own_pick en ((p0 &&& (7 : Int32)) ^^^ (1 : Int32)))), .unset, .unset] [(.int (6 : Int32)), (.int (p0 &&& (7 : Int32)))])) _
    exact q)
  obtain ⟨v6, hv6, k7⟩ : ∃ (v6 : Int32), (v6 = (if (p0 &&& (7 : Int32)) = (6 : Int32) then (1 : Int32) else (if (p0 &&& (7 : Int32)) = (7 : Int32) then (1 : Int32) else (0 : Int32)))) ∧ own_To p e below T2 (mkF m 34 #[.val (.int p0), .val (.int (p0 &&& (7 : Int32))), .val (.ref (own_pick en (p0 &&& (7 : Int32)))), .val (.ref (own_pick en ((p0 &&& (7 : Int32)) ^^^ (1 : Int32)))), .unset, .unset] [(.int v6)]) s₁ (mkF m 0 #[.val (.int p0), .unset, .unset, .unset, .unset, .unset] []) := by
    by_cases hm4 : (p0 &&& (7 : Int32)) = (6 : Int32)
    ·
      refine ⟨(1 : Int32), by rw [if_pos hm4], fun t q => k3 t (?_)⟩
      refine XS.icmpYes X2.here hx rfl (pc0 := 20) (pc' := 29) rfl (hb hby at_20) rfl (teq hm4).1 (by decide) (by decide) ?_
      show Steps p.tables e below (T2.setTop (mkF m 29 #[.val (.int p0), .val (.int (p0 &&& (7 : Int32))), .val (.ref (own_pick en (p0 &&& (7 : Int32)))), .val (.ref (own_pick en ((p0 &&& (7 : Int32)) ^^^ (1 : Int32)))), .unset, .unset] [])) _
      refine XS.iconst X2.here hx rfl (hb hby at_29) ?_
      show Steps p.tables e below (T2.setTop (mkF m 30 #[.val (.int p0), .val (.int (p0 &&& (7 : Int32))), .val (.ref (own_pick en (p0 &&& (7 : Int32)))), .val (.ref (own_pick en ((p0 &&& (7 : Int32)) ^^^ (1 : Int32)))), .unset, .unset] [(.int (1 : Int32))])) _
      refine XS.goto X2.here hx rfl (pc0 := 30) (pc' := 34) rfl (hb hby at_30) (by decide) (by decide) ?_
      show Steps p.tables e below (T2.setTop (mkF m 34 #[.val (.int p0), .val (.int (p0 &&& (7 : Int32))), .val (.ref (own_pick en (p0 &&& (7 : Int32)))), .val (.ref (own_pick en ((p0 &&& (7 : Int32)) ^^^ (1 : Int32)))), .unset, .unset] [(.int (1 : Int32))])) _
      exact q
    ·
      by_cases hm5 : (p0 &&& (7 : Int32)) = (7 : Int32)
      ·
        refine ⟨(1 : Int32), by rw [if_neg hm4, if_pos hm5], fun t q => k3 t (?_)⟩
        refine XS.icmpNo X2.here hx rfl (hb hby at_20) rfl (feq hm4).1 ?_
        show Steps p.tables e below (T2.setTop (mkF m 23 #[.val (.int p0), .val (.int (p0 &&& (7 : Int32))), .val (.ref (own_pick en (p0 &&& (7 : Int32)))), .val (.ref (own_pick en ((p0 &&& (7 : Int32)) ^^^ (1 : Int32)))), .unset, .unset] [])) _
        refine XS.iloadN X2.here hx rfl (hb hby at_23) rfl ?_
        show Steps p.tables e below (T2.setTop (mkF m 24 #[.val (.int p0), .val (.int (p0 &&& (7 : Int32))), .val (.ref (own_pick en (p0 &&& (7 : Int32)))), .val (.ref (own_pick en ((p0 &&& (7 : Int32)) ^^^ (1 : Int32)))), .unset, .unset] [(.int (p0 &&& (7 : Int32)))])) _
        refine XS.bipush X2.here hx rfl (hb hby at_24) ?_
        show Steps p.tables e below (T2.setTop (mkF m 26 #[.val (.int p0), .val (.int (p0 &&& (7 : Int32))), .val (.ref (own_pick en (p0 &&& (7 : Int32)))), .val (.ref (own_pick en ((p0 &&& (7 : Int32)) ^^^ (1 : Int32)))), .unset, .unset] [(.int (7 : Int32)), (.int (p0 &&& (7 : Int32)))])) _
        refine XS.icmpNo X2.here hx rfl (hb hby at_26) rfl (teq hm5).2 ?_
        show Steps p.tables e below (T2.setTop (mkF m 29 #[.val (.int p0), .val (.int (p0 &&& (7 : Int32))), .val (.ref (own_pick en (p0 &&& (7 : Int32)))), .val (.ref (own_pick en ((p0 &&& (7 : Int32)) ^^^ (1 : Int32)))), .unset, .unset] [])) _
        refine XS.iconst X2.here hx rfl (hb hby at_29) ?_
        show Steps p.tables e below (T2.setTop (mkF m 30 #[.val (.int p0), .val (.int (p0 &&& (7 : Int32))), .val (.ref (own_pick en (p0 &&& (7 : Int32)))), .val (.ref (own_pick en ((p0 &&& (7 : Int32)) ^^^ (1 : Int32)))), .unset, .unset] [(.int (1 : Int32))])) _
        refine XS.goto X2.here hx rfl (pc0 := 30) (pc' := 34) rfl (hb hby at_30) (by decide) (by decide) ?_
        show Steps p.tables e below (T2.setTop (mkF m 34 #[.val (.int p0), .val (.int (p0 &&& (7 : Int32))), .val (.ref (own_pick en (p0 &&& (7 : Int32)))), .val (.ref (own_pick en ((p0 &&& (7 : Int32)) ^^^ (1 : Int32)))), .unset, .unset] [(.int (1 : Int32))])) _
        exact q
      ·
        refine ⟨(0 : Int32), by rw [if_neg hm4, if_neg hm5], fun t q => k3 t (?_)⟩
        refine XS.icmpNo X2.here hx rfl (hb hby at_20) rfl (feq hm4).1 ?_
        show Steps p.tables e below (T2.setTop (mkF m 23 #[.val (.int p0), .val (.int (p0 &&& (7 : Int32))), .val (.ref (own_pick en (p0 &&& (7 : Int32)))), .val (.ref (own_pick en ((p0 &&& (7 : Int32)) ^^^ (1 : Int32)))), .unset, .unset] [])) _
        refine XS.iloadN X2.here hx rfl (hb hby at_23) rfl ?_
        show Steps p.tables e below (T2.setTop (mkF m 24 #[.val (.int p0), .val (.int (p0 &&& (7 : Int32))), .val (.ref (own_pick en (p0 &&& (7 : Int32)))), .val (.ref (own_pick en ((p0 &&& (7 : Int32)) ^^^ (1 : Int32)))), .unset, .unset] [(.int (p0 &&& (7 : Int32)))])) _
        refine XS.bipush X2.here hx rfl (hb hby at_24) ?_
        show Steps p.tables e below (T2.setTop (mkF m 26 #[.val (.int p0), .val (.int (p0 &&& (7 : Int32))), .val (.ref (own_pick en (p0 &&& (7 : Int32)))), .val (.ref (own_pick en ((p0 &&& (7 : Int32)) ^^^ (1 : Int32)))), .unset, .unset] [(.int (7 : Int32)), (.int (p0 &&& (7 : Int32)))])) _
        refine XS.icmpYes X2.here hx rfl (pc0 := 26) (pc' := 33) rfl (hb hby at_26) rfl (feq hm5).2 (by decide) (by decide) ?_
        show Steps p.tables e below (T2.setTop (mkF m 33 #[.val (.int p0), .val (.int (p0 &&& (7 : Int32))), .val (.ref (own_pick en (p0 &&& (7 : Int32)))), .val (.ref (own_pick en ((p0 &&& (7 : Int32)) ^^^ (1 : Int32)))), .unset, .unset] [])) _
        refine XS.iconst X2.here hx rfl (hb hby at_33) ?_
        show Steps p.tables e below (T2.setTop (mkF m 34 #[.val (.int p0), .val (.int (p0 &&& (7 : Int32))), .val (.ref (own_pick en (p0 &&& (7 : Int32)))), .val (.ref (own_pick en ((p0 &&& (7 : Int32)) ^^^ (1 : Int32)))), .unset, .unset] [(.int (0 : Int32))])) _
        exact q
  obtain ⟨cq8, kq8, q8a, q8b, q8c⟩ := isOf hZ e2 E1
  obtain ⟨_, _, ⟨T8, L8, kk8, n8⟩, -, X8, ⟨Lc8, hQ8, l8, y8, z8⟩, st8⟩ := X2.virtualBack hx (y := (⟨"com/example/portcullis/portcullis/core/MessageRules$Operator", "isRegex", "()Z"⟩ : MethodName)) (z := (⟨"com/example/portcullis/portcullis/core/MessageRules$Operator", "isRegex", "()Z"⟩ : MethodName)) hown (mvT hZ (hw _ (List.mem_of_getElem? (i := 9) rfl))) (mvT hZ (hw _ (List.mem_of_getElem? (i := 10) rfl))) (notFace_of_selects (args := #[]) (mvT hZ (hw _ (List.mem_of_getElem? (i := 12) rfl)))) (mvT hZ (hw _ (List.mem_of_getElem? (i := 12) rfl))) (mvT hZ (hw _ (List.mem_of_getElem? (i := 11) rfl))) (by decide) (backOf (W := 0) (rm2 l Z a0 hw [] (own_pick en (p0 &&& (7 : Int32))) en h0 n0 Z0 HE O0) hZ (hw _ (List.mem_of_getElem? (i := 13) rfl)) (hw _ (List.mem_of_getElem? (i := 5) rfl)) (by decide) (by decide)) q8a q8c (g := (mkF m 37 #[.val (.int p0), .val (.int (p0 &&& (7 : Int32))), .val (.ref (own_pick en (p0 &&& (7 : Int32)))), .val (.ref (own_pick en ((p0 &&& (7 : Int32)) ^^^ (1 : Int32)))), .val (.int v6), .unset] [(.ref (own_pick en (p0 &&& (7 : Int32))))])) rfl (by rw [hml]; rfl) (Steps.refl _) (argsL := []) (rest := []) (lenOf own_pd0 rfl) rfl (by show 2 * 0 + _ ≤ _; exact Nat.le_of_eq rfl) (hb hby at_37) (fun _ _ => ⟨rfl, e2, (by decide : 0 + 0 ≤ _), (by decide : 0 + 0 ≤ _)⟩)
  dsimp only [Pt.U, Pt.locs, Pt.cells, Pt.slots] at X8 l8 y8 z8 st8 hQ8
  subst l8 y8 z8
  obtain ⟨rfl, N8q, e8⟩ := hQ8
  have N8 := Fr.app N2 N8q
  obtain ⟨cq9, kq9, q9a, q9b, q9c⟩ := isOf hZ e8 E2
  obtain ⟨_, _, ⟨T9, L9, kk9, n9⟩, -, X9, ⟨Lc9, hQ9, l9, y9, z9⟩, st9⟩ := X8.virtualBack hx (y := (⟨"com/example/portcullis/portcullis/core/MessageRules$Operator", "isRegex", "()Z"⟩ : MethodName)) (z := (⟨"com/example/portcullis/portcullis/core/MessageRules$Operator", "isRegex", "()Z"⟩ : MethodName)) hown (mvT hZ (hw _ (List.mem_of_getElem? (i := 9) rfl))) (mvT hZ (hw _ (List.mem_of_getElem? (i := 10) rfl))) (notFace_of_selects (args := #[]) (mvT hZ (hw _ (List.mem_of_getElem? (i := 12) rfl)))) (mvT hZ (hw _ (List.mem_of_getElem? (i := 12) rfl))) (mvT hZ (hw _ (List.mem_of_getElem? (i := 11) rfl))) (by decide) (backOf (W := 0) (rm2 l Z a0 hw [] (own_pick en ((p0 &&& (7 : Int32)) ^^^ (1 : Int32))) en h0 n0 Z0 HE O0) hZ (hw _ (List.mem_of_getElem? (i := 13) rfl)) (hw _ (List.mem_of_getElem? (i := 5) rfl)) (by decide) (by decide)) q9a q9c (g := (mkF m 50 #[.val (.int p0), .val (.int (p0 &&& (7 : Int32))), .val (.ref (own_pick en (p0 &&& (7 : Int32)))), .val (.ref (own_pick en ((p0 &&& (7 : Int32)) ^^^ (1 : Int32)))), .val (.int v6), .val (.int (own_rx en (own_pick en (p0 &&& (7 : Int32)))))] [(.ref (own_pick en ((p0 &&& (7 : Int32)) ^^^ (1 : Int32))))])) rfl (by rw [hml]; rfl) (Steps.refl _) (argsL := []) (rest := []) (lenOf own_pd0 rfl) rfl (by show 2 * 0 + _ ≤ _; exact Nat.le_of_eq rfl) (hb hby at_50) (fun _ _ => ⟨rfl, e8, (by decide : 0 + 0 ≤ _), (by decide : 0 + 0 ≤ _)⟩)
  dsimp only [Pt.U, Pt.locs, Pt.cells, Pt.slots] at X9 l9 y9 z9 st9 hQ9
  subst l9 y9 z9
  obtain ⟨rfl, N9q, e9⟩ := hQ9
  have N9 := Fr.app N8 N9q
  have k10 : own_To p e below T9 (mkF m 63 #[.val (.int p0), .val (.int (p0 &&& (7 : Int32))), .val (.ref (own_pick en (p0 &&& (7 : Int32)))), .val (.ref (own_pick en ((p0 &&& (7 : Int32)) ^^^ (1 : Int32)))), .val (.int v6), .val (.int (own_rx en (own_pick en (p0 &&& (7 : Int32)))))] [(.int (1 : Int32))]) s₁ (mkF m 0 #[.val (.int p0), .unset, .unset, .unset, .unset, .unset] []) := fun t q => k7 t (by
    refine XS.istore X2.here hx rfl (hb hby at_34) rfl (l' := #[.val (.int p0), .val (.int (p0 &&& (7 : Int32))), .val (.ref (own_pick en (p0 &&& (7 : Int32)))), .val (.ref (own_pick en ((p0 &&& (7 : Int32)) ^^^ (1 : Int32)))), .val (.int v6), .unset]) rfl ?_
    show Steps p.tables e below (T2.setTop (mkF m 36 #[.val (.int p0), .val (.int (p0 &&& (7 : Int32))), .val (.ref (own_pick en (p0 &&& (7 : Int32)))), .val (.ref (own_pick en ((p0 &&& (7 : Int32)) ^^^ (1 : Int32)))), .val (.int v6), .unset] [])) _
    refine XS.aloadN X2.here hx rfl (hb hby at_36) rfl rfl ?_
    show Steps p.tables e below (T2.setTop (mkF m 37 #[.val (.int p0), .val (.int (p0 &&& (7 : Int32))), .val (.ref (own_pick en (p0 &&& (7 : Int32)))), .val (.ref (own_pick en ((p0 &&& (7 : Int32)) ^^^ (1 : Int32)))), .val (.int v6), .unset] [(.ref (own_pick en (p0 &&& (7 : Int32))))])) _
    refine st8.trans ?_
    show Steps p.tables e below (T8.setTop (mkF m 40 #[.val (.int p0), .val (.int (p0 &&& (7 : Int32))), .val (.ref (own_pick en (p0 &&& (7 : Int32)))), .val (.ref (own_pick en ((p0 &&& (7 : Int32)) ^^^ (1 : Int32)))), .val (.int v6), .unset] [(.int (own_rx en (own_pick en (p0 &&& (7 : Int32)))))])) _
    refine XS.istore X8.here hx rfl (hb hby at_40) rfl (l' := #[.val (.int p0), .val (.int (p0 &&& (7 : Int32))), .val (.ref (own_pick en (p0 &&& (7 : Int32)))), .val (.ref (own_pick en ((p0 &&& (7 : Int32)) ^^^ (1 : Int32)))), .val (.int v6), .val (.int (own_rx en (own_pick en (p0 &&& (7 : Int32)))))]) rfl ?_
    show Steps p.tables e below (T8.setTop (mkF m 42 #[.val (.int p0), .val (.int (p0 &&& (7 : Int32))), .val (.ref (own_pick en (p0 &&& (7 : Int32)))), .val (.ref (own_pick en ((p0 &&& (7 : Int32)) ^^^ (1 : Int32)))), .val (.int v6), .val (.int (own_rx en (own_pick en (p0 &&& (7 : Int32)))))] [])) _
    refine XS.iload X8.here hx rfl (hb hby at_42) rfl ?_
    show Steps p.tables e below (T8.setTop (mkF m 44 #[.val (.int p0), .val (.int (p0 &&& (7 : Int32))), .val (.ref (own_pick en (p0 &&& (7 : Int32)))), .val (.ref (own_pick en ((p0 &&& (7 : Int32)) ^^^ (1 : Int32)))), .val (.int v6), .val (.int (own_rx en (own_pick en (p0 &&& (7 : Int32)))))] [(.int (own_rx en (own_pick en (p0 &&& (7 : Int32)))))])) _
    refine XS.iload X8.here hx rfl (hb hby at_44) rfl ?_
    show Steps p.tables e below (T8.setTop (mkF m 46 #[.val (.int p0), .val (.int (p0 &&& (7 : Int32))), .val (.ref (own_pick en (p0 &&& (7 : Int32)))), .val (.ref (own_pick en ((p0 &&& (7 : Int32)) ^^^ (1 : Int32)))), .val (.int v6), .val (.int (own_rx en (own_pick en (p0 &&& (7 : Int32)))))] [(.int v6), (.int (own_rx en (own_pick en (p0 &&& (7 : Int32)))))])) _
    refine XS.icmpNo X8.here hx rfl (hb hby at_46) rfl (teq ((own_law HE p0).1.trans hv6.symm)).2 ?_
    show Steps p.tables e below (T8.setTop (mkF m 49 #[.val (.int p0), .val (.int (p0 &&& (7 : Int32))), .val (.ref (own_pick en (p0 &&& (7 : Int32)))), .val (.ref (own_pick en ((p0 &&& (7 : Int32)) ^^^ (1 : Int32)))), .val (.int v6), .val (.int (own_rx en (own_pick en (p0 &&& (7 : Int32)))))] [])) _
    refine XS.aloadN X8.here hx rfl (hb hby at_49) rfl rfl ?_
    show Steps p.tables e below (T8.setTop (mkF m 50 #[.val (.int p0), .val (.int (p0 &&& (7 : Int32))), .val (.ref (own_pick en (p0 &&& (7 : Int32)))), .val (.ref (own_pick en ((p0 &&& (7 : Int32)) ^^^ (1 : Int32)))), .val (.int v6), .val (.int (own_rx en (own_pick en (p0 &&& (7 : Int32)))))] [(.ref (own_pick en ((p0 &&& (7 : Int32)) ^^^ (1 : Int32))))])) _
    refine st9.trans ?_
    show Steps p.tables e below (T9.setTop (mkF m 53 #[.val (.int p0), .val (.int (p0 &&& (7 : Int32))), .val (.ref (own_pick en (p0 &&& (7 : Int32)))), .val (.ref (own_pick en ((p0 &&& (7 : Int32)) ^^^ (1 : Int32)))), .val (.int v6), .val (.int (own_rx en (own_pick en (p0 &&& (7 : Int32)))))] [(.int (own_rx en (own_pick en ((p0 &&& (7 : Int32)) ^^^ (1 : Int32)))))])) _
    refine XS.iload X9.here hx rfl (hb hby at_53) rfl ?_
    show Steps p.tables e below (T9.setTop (mkF m 55 #[.val (.int p0), .val (.int (p0 &&& (7 : Int32))), .val (.ref (own_pick en (p0 &&& (7 : Int32)))), .val (.ref (own_pick en ((p0 &&& (7 : Int32)) ^^^ (1 : Int32)))), .val (.int v6), .val (.int (own_rx en (own_pick en (p0 &&& (7 : Int32)))))] [(.int (own_rx en (own_pick en (p0 &&& (7 : Int32))))), (.int (own_rx en (own_pick en ((p0 &&& (7 : Int32)) ^^^ (1 : Int32)))))])) _
    refine XS.icmpNo X9.here hx rfl (hb hby at_55) rfl (teq (own_law HE p0).2).2 ?_
    show Steps p.tables e below (T9.setTop (mkF m 58 #[.val (.int p0), .val (.int (p0 &&& (7 : Int32))), .val (.ref (own_pick en (p0 &&& (7 : Int32)))), .val (.ref (own_pick en ((p0 &&& (7 : Int32)) ^^^ (1 : Int32)))), .val (.int v6), .val (.int (own_rx en (own_pick en (p0 &&& (7 : Int32)))))] [])) _
    refine XS.iconst X9.here hx rfl (hb hby at_58) ?_
    show Steps p.tables e below (T9.setTop (mkF m 59 #[.val (.int p0), .val (.int (p0 &&& (7 : Int32))), .val (.ref (own_pick en (p0 &&& (7 : Int32)))), .val (.ref (own_pick en ((p0 &&& (7 : Int32)) ^^^ (1 : Int32)))), .val (.int v6), .val (.int (own_rx en (own_pick en (p0 &&& (7 : Int32)))))] [(.int (1 : Int32))])) _
    refine XS.goto X9.here hx rfl (pc0 := 59) (pc' := 63) rfl (hb hby at_59) (by decide) (by decide) ?_
    show Steps p.tables e below (T9.setTop (mkF m 63 #[.val (.int p0), .val (.int (p0 &&& (7 : Int32))), .val (.ref (own_pick en (p0 &&& (7 : Int32)))), .val (.ref (own_pick en ((p0 &&& (7 : Int32)) ^^^ (1 : Int32)))), .val (.int v6), .val (.int (own_rx en (own_pick en (p0 &&& (7 : Int32)))))] [(.int (1 : Int32))])) _
    exact q)
  obtain ⟨fs, hr, hrun, hended, hW, hsame⟩ := X9.leave (v := some (.int (1 : Int32))) (fun h => by rw [Bd.returns] at h; cases h)
  refine ⟨_, _, k0 _ (k10 _ ?_), hrun, hended, _, _, rfl, ?_, ⟨_, rfl⟩, hW, hsame.mono (by decide) (by decide)⟩
  · show Steps p.tables e below (T9.setTop (mkF m 63 #[.val (.int p0), .val (.int (p0 &&& (7 : Int32))), .val (.ref (own_pick en (p0 &&& (7 : Int32)))), .val (.ref (own_pick en ((p0 &&& (7 : Int32)) ^^^ (1 : Int32)))), .val (.int v6), .val (.int (own_rx en (own_pick en (p0 &&& (7 : Int32)))))] [(.int (1 : Int32))])) _
    exact retN X9 hx (t := .boolean) Bd.returns (by simp) (hb hby at_63) hr
  · show Q0 Z p0 en h0 n0 _ T9.heap _
    rw [e9]
    exact ⟨rfl, N9⟩
theorem own_ord {s : State} {args : Array Value} {t : Term} {x : Addr} {k : Int32} (ev : t.eval args s none [] s = some (.ref x)) (h : (Jvm.Cond.eq (Term.field t "java/lang/Enum" "ordinal" "I") (Term.int k)).value args s none s [] = some true) : Fld s s.heap x "java/lang/Enum" "ordinal" "I" (.int k) :=
  Fld.start (by rw [← fld_at ev]; exact Cond.eq_int (by simp [Cond.holds, h]) (Term.int_eval k))
set_option maxRecDepth 65536 in
set_option maxHeartbeats 40000000 in
theorem comes_1 {Post : Tables → Env → Array Value → State → Outcome → State → Prop} (hpost : ∀ tb e args s v u, (limb_1_1.after args s (.returned v) u = true ∧ limb_1_2.after args s (.returned v) u = true ∧ True) → FrameEnd s (.returned v) u (Jvm.fieldLocs frame_1_writes args s ++ Jvm.arrayLocs frame_1_arrays args s ++ Jvm.staticLocs frame_1_statics s) 0 0 → Post tb e args s (.returned v) u) :
    ArmFor flags0 classFile x code maxLocals ret World_1 tables_1 room_1 Calls_1 rest_1 Pre_1 Post := by
  intro l hfl _ _ p e ha hc hk s m args below hf hA hF happ hP
  obtain ⟨hcalls, hrest, hpre⟩ := hP
  obtain ⟨-, -, -, hnamed, -, -, -, hat⟩ := (Spec.applies_iff hf).mp happ
  obtain ⟨hg, hn⟩ := and_e (Cond.before_iff.mp (show (Jvm.Cond.and given_1 narrow_1).before args s = true from hpre))
  obtain ⟨hgc, hg0⟩ := and_e hg
  obtain ⟨w0, rfl⟩ : ∃ w0 : Value, args = #[w0] := by
    have hs : args.size = 1 := by simpa [Cond.value, given_1] using hgc
    obtain ⟨L⟩ := args
    match L, hs with
    | [w0], _ => exact ⟨w0, rfl⟩
  have hw := fun d (hd : d ∈ tables_1) => atoms_spec (ws := Jvm.Cond.code x code maxLocals ret :: tables_1) hat d (List.mem_cons_of_mem _ hd)
  have hfit : Fit s := fun {y c} hc i hi => by
    obtain ⟨ha, rfl⟩ := Array.getElem?_eq_some_iff.mp hc
    have q := List.all_eq_true.mp ((Array.all_eq_true_iff_forall_mem.mp hF) _ (Array.getElem_mem ha)) i (List.mem_range.mpr hi)
    simpa [Array.getElem?_eq_getElem hi] using q
  obtain ⟨i0, ei0⟩ := is_v hg0
  obtain rfl : w0 = (.int i0) := Option.some.inj ei0
  obtain ⟨c0, hn0⟩ := and_e hn
  obtain ⟨c1, hn1⟩ := and_e hn0
  obtain ⟨c2, hn2⟩ := and_e hn1
  obtain ⟨c3, hn3⟩ := and_e hn2
  obtain ⟨c4, hn4⟩ := and_e hn3
  obtain ⟨c5, hn5⟩ := and_e hn4
  obtain ⟨c6, hn6⟩ := and_e hn5
  obtain ⟨c7, hn7⟩ := and_e hn6
  obtain ⟨c8, hn8⟩ := and_e hn7
  obtain ⟨c9, hn9⟩ := and_e hn8
  obtain ⟨c10, hn10⟩ := and_e hn9
  obtain ⟨c11, hn11⟩ := and_e hn10
  obtain ⟨c12, hn12⟩ := and_e hn11
  obtain ⟨c13, hn13⟩ := and_e hn12
  obtain ⟨c14, hn14⟩ := and_e hn13
  obtain ⟨e0, v0⟩ := exa_v c0
  have x0 := Exa.start v0 c0
  have s0 := Sta.start v0 (Or.inr ⟨(hw _ (List.mem_of_getElem? (i := 5) rfl)), (hw _ (List.mem_of_getElem? (i := 6) rfl))⟩)
  have o0 := own_ord v0 c3
  obtain ⟨e1, v1⟩ := exa_v c1
  have x1 := Exa.start v1 c1
  have s1 := Sta.start v1 (Or.inr ⟨(hw _ (List.mem_of_getElem? (i := 5) rfl)), (hw _ (List.mem_of_getElem? (i := 8) rfl))⟩)
  have o1 := own_ord v1 c7
  obtain ⟨e2, v2⟩ := exa_v c9
  have x2 := Exa.start v2 c9
  have s2 := Sta.start v2 (Or.inr ⟨(hw _ (List.mem_of_getElem? (i := 5) rfl)), (hw _ (List.mem_of_getElem? (i := 21) rfl))⟩)
  have o2 := own_ord v2 c11
  obtain ⟨e3, v3⟩ := exa_v c8
  have x3 := Exa.start v3 c8
  have s3 := Sta.start v3 (Or.inr ⟨(hw _ (List.mem_of_getElem? (i := 5) rfl)), (hw _ (List.mem_of_getElem? (i := 19) rfl))⟩)
  have o3 := own_ord v3 c10
  obtain ⟨e4, v4⟩ := exa_v c12
  have x4 := Exa.start v4 c12
  have s4 := Sta.start v4 (Or.inr ⟨(hw _ (List.mem_of_getElem? (i := 5) rfl)), (hw _ (List.mem_of_getElem? (i := 25) rfl))⟩)
  have o4 := own_ord v4 c14
  obtain ⟨e5, v5⟩ := exa_v c13
  have x5 := Exa.start v5 c13
  have s5 := Sta.start v5 (Or.inr ⟨(hw _ (List.mem_of_getElem? (i := 5) rfl)), (hw _ (List.mem_of_getElem? (i := 27) rfl))⟩)
  have o5 := own_ord v5 hn14
  obtain ⟨e6, v6⟩ := exa_v c2
  have x6 := Exa.start v6 c2
  have s6 := Sta.start v6 (Or.inr ⟨(hw _ (List.mem_of_getElem? (i := 5) rfl)), (hw _ (List.mem_of_getElem? (i := 15) rfl))⟩)
  have o6 := own_ord v6 c4
  obtain ⟨e7, v7⟩ := exa_v c5
  have x7 := Exa.start v7 c5
  have s7 := Sta.start v7 (Or.inr ⟨(hw _ (List.mem_of_getElem? (i := 5) rfl)), (hw _ (List.mem_of_getElem? (i := 17) rfl))⟩)
  have o7 := own_ord v7 c6
  have HE : own_en s (fun i => match i with | 0 => e0 | 1 => e1 | 2 => e2 | 3 => e3 | 4 => e4 | 5 => e5 | 6 => e6 | _ => e7) := ⟨⟨s0, s1, s2, s3, s4, s5, s6, s7⟩, fun i hi => match i, hi with | 0, _ => x0 | 1, _ => x1 | 2, _ => x2 | 3, _ => x3 | 4, _ => x4 | 5, _ => x5 | 6, _ => x6 | 7, _ => x7, fun i hi => match i, hi with | 0, _ => o0 | 1, _ => o1 | 2, _ => o2 | 3, _ => o3 | 4, _ => o4 | 5, _ => o5 | 6, _ => o6 | 7, _ => o7⟩
  obtain ⟨n, o, h1, h2, h3, _, L, rfl, ⟨rfl, N⟩, hq⟩ := rm0 l s _ hw tables_1 i0 _ s.heap s.heap.size (Nat.le_refl _) HE (Old.start s) p e ha hc hk s m _ below hf ((Spec.applies_iff_loose hf).mp happ).1 ⟨rfl, State.Warmed39.refl s, rfl⟩ trivial
  refine ⟨n, _, h1, h2, h3, hpost _ _ _ _ _ _ ⟨Cond.after_iff.mpr rfl, Cond.after_iff.mpr (eq_i res_at (Term.int_eval (1)) rfl), trivial⟩ ⟨hq.1, hq.2.1, (hq.2.2.sift fun y hy => Or.inr (N y hy)).mono (by decide) (by decide)⟩⟩
theorem main_1_1 : Claimed_1_1 := comes_1 fun _ _ _ _ _ _ h hF => ⟨h.1, hF⟩
theorem main_1_2 : Claimed_1_2 := comes_1 fun _ _ _ _ _ _ h hF => ⟨h.2.1, hF⟩
end Jvm.Pilot.@@N@@
namespace Jvm.Pilot.@@N@@
open Jvm Jvm.ClassFile Sem Op Lib Jvm.Free Jvm.Stand Jvm.Pilot.@@N@@.Jvm.D
/-! MADE BY PROGRAM (witnessworld.py) out of the Statement's table words and the real class files: 12 classes; the members and pool entries that the words name. The judged class is class 1, her method 2. -/
namespace start1
open Jvm.ClassFile
def u (s : String) : CpInfo := .utf8 (stringToUtf16 s)
/-- a pool by its gaps: so many unusable entries, then the entry; so many at the end -/
def gap : Nat → List CpInfo → List CpInfo
  | 0, r => r
  | n + 1, r => .unusable :: gap n r
def poolList (es : List (Nat × CpInfo)) (last : Nat) : List CpInfo := es.foldr (fun e r => gap e.1 (e.2 :: r)) (gap last [])
def pool (es : List (Nat × CpInfo)) (last : Nat) : Array CpInfo := ⟨poolList es last⟩
def fileOf (pool : Array CpInfo) (this : Nat) (attrs : Array Attribute := #[]) (ms : Array MethodInfo := #[]) (fl : Nat := 33) (sup : Nat := 0) (ifs : Array Nat := #[]) (fds : Array FieldInfo := #[]) : ClassFile where
  minorVersion := 0
  majorVersion := 65
  constantPool := pool
  accessFlags := fl
  thisClass := this
  superClass := sup
  interfaces := ifs
  fields := fds
  methods := ms
  attributes := attrs
def plain (name : String) (sup : Option ClassId) : Class where
  name := name
  kind := .ordinary
  loader := none
  accessFlags := 33
  super := sup
  interfaces := #[]
  cf := none
  fields := #[]
  methods := #[]
  instanceTypes := #[]
  staticTypes := #[]
  resolved := #[]
  callSites := []
  init := .initialized
  statics := none
  mirror := none

def pool0 : Array CpInfo := pool [(5, u "<init>"), (0, u "()V"), (1, .class_ 10), (1, u "java/lang/Object")] 113

def k0m0 : Method := { name := "<init>", desc := "()V", sig := { parameters := [], returnType := none }, accessFlags := 1, code := none }
/-- java/lang/Object -/
def k0 : Class := { plain "java/lang/Object" none with
  accessFlags := 33
  interfaces := #[]
  cf := some (fileOf pool0 8 #[] #[{ accessFlags := 1, nameIndex := 5, descriptorIndex := 6, attributes := #[] }] 33 0 #[] #[])
  fields := #[]
  methods := #[k0m0]
  instanceTypes := #[]
  staticTypes := #[]
  resolved := Array.replicate 124 none
  statics := none }

def pool1 : Array CpInfo := pool [(2, .class_ 4), (1, u "java/lang/Object"), (0, u "<init>"), (0, u "()V"), (0, .fieldref 8 9), (0, .class_ 10), (0, .nameAndType 11 12), (0, u "com/example/portcullis/portcullis/core/MessageRules$Operator"), (0, u "EQUAL"), (0, u "Lcom/example/portcullis/portcullis/core/MessageRules$Operator;"), (0, .fieldref 8 14), (0, .nameAndType 15 12), (0, u "NOT_EQUAL"), (0, .fieldref 8 17), (0, .nameAndType 18 12), (0, u "BEGINS_WITH"), (0, .fieldref 8 20), (0, .nameAndType 21 12), (0, u "DOES_NOT_BEGIN_WITH"), (0, .fieldref 8 23), (0, .nameAndType 24 12), (0, u "CONTAINS"), (0, .fieldref 8 26), (0, .nameAndType 27 12), (0, u "DOES_NOT_CONTAIN"), (0, .fieldref 8 29), (0, .nameAndType 30 12), (0, u "MATCHES_REGEX"), (0, .fieldref 8 32), (0, .nameAndType 33 12), (0, u "DOES_NOT_MATCH_REGEX"), (0, .methodref 35 36), (0, .class_ 37), (0, .nameAndType 38 39), (0, u "com/example/portcullis/portcullis/core/OperatorIsRegexPinLaw"), (0, u "pick"), (0, u "(I)Lcom/example/portcullis/portcullis/core/MessageRules$Operator;"), (0, .methodref 8 41), (0, .nameAndType 42 43), (0, u "isRegex"), (0, u "()Z"), (3, u "law"), (0, u "(I)Z")] 6

def k1m0 : Method := { name := "<init>", desc := "()V", sig := { parameters := [], returnType := none }, accessFlags := 2, code := none }
def k1c1 : Code := { maxStack := 2, maxLocals := 1, code := method_2_code, exceptionTable := #[], attributes := #[] }
def k1m1 : Method := { name := "pick", desc := "(I)Lcom/example/portcullis/portcullis/core/MessageRules$Operator;", sig := { parameters := [.int], returnType := some (.object "com/example/portcullis/portcullis/core/MessageRules$Operator") }, accessFlags := 10, code := some k1c1 }
def k1c2 : Code := { maxStack := 2, maxLocals := 6, code := code, exceptionTable := #[], attributes := #[] }
def k1m2 : Method := { name := "law", desc := "(I)Z", sig := { parameters := [.int], returnType := some .boolean }, accessFlags := 9, code := some k1c2 }
/-- com/example/portcullis/portcullis/core/OperatorIsRegexPinLaw -/
def k1 : Class := { plain "com/example/portcullis/portcullis/core/OperatorIsRegexPinLaw" (some 0) with
  accessFlags := 49
  interfaces := #[]
  cf := some (fileOf pool1 35 #[] #[{ accessFlags := 2, nameIndex := 5, descriptorIndex := 6, attributes := #[] }, { accessFlags := 10, nameIndex := 38, descriptorIndex := 39, attributes := #[] }, { accessFlags := 9, nameIndex := 47, descriptorIndex := 48, attributes := #[] }] 49 2 #[] #[])
  fields := #[]
  methods := #[k1m0, k1m1, k1m2]
  instanceTypes := #[]
  staticTypes := #[]
  resolved := Array.replicate 55 none
  statics := none }

def pool2 : Array CpInfo := pool [(1, .class_ 2), (0, u "java/lang/constant/Constable"), (0, .class_ 4), (0, u "java/lang/Object")] 6

/-- java/lang/constant/Constable -/
def k2 : Class := { plain "java/lang/constant/Constable" (some 0) with
  accessFlags := 1537
  interfaces := #[]
  cf := some (fileOf pool2 1 #[] #[] 1537 3 #[] #[])
  fields := #[]
  methods := #[]
  instanceTypes := #[]
  staticTypes := #[]
  resolved := Array.replicate 11 none
  statics := none }

def pool3 : Array CpInfo := pool [(1, .class_ 2), (0, u "java/lang/Comparable"), (0, .class_ 4), (0, u "java/lang/Object")] 7

/-- java/lang/Comparable -/
def k3 : Class := { plain "java/lang/Comparable" (some 0) with
  accessFlags := 1537
  interfaces := #[]
  cf := some (fileOf pool3 1 #[] #[] 1537 3 #[] #[])
  fields := #[]
  methods := #[]
  instanceTypes := #[]
  staticTypes := #[]
  resolved := Array.replicate 12 none
  statics := none }

def pool4 : Array CpInfo := pool [(1, .class_ 2), (0, u "java/io/Serializable"), (0, .class_ 4), (0, u "java/lang/Object")] 2

/-- java/io/Serializable -/
def k4 : Class := { plain "java/io/Serializable" (some 0) with
  accessFlags := 1537
  interfaces := #[]
  cf := some (fileOf pool4 1 #[] #[] 1537 3 #[] #[])
  fields := #[]
  methods := #[]
  instanceTypes := #[]
  staticTypes := #[]
  resolved := Array.replicate 7 none
  statics := none }

def pool5 : Array CpInfo := pool [(2, .class_ 4), (1, u "java/lang/Enum"), (0, u "name"), (0, u "Ljava/lang/String;"), (2, u "ordinal"), (0, u "I"), (1, .class_ 14), (1, u "java/lang/Object"), (4, u "hash"), (86, .class_ 108), (1, u "java/lang/Enum$EnumDesc"), (2, .class_ 112), (0, u "java/lang/constant/Constable"), (0, .class_ 114), (0, u "java/lang/Comparable"), (0, .class_ 116), (0, u "java/io/Serializable")] 87

/-- java/lang/Enum -/
def k5 : Class := { plain "java/lang/Enum" (some 0) with
  accessFlags := 1057
  interfaces := #[2, 3, 4]
  cf := some (fileOf pool5 2 #[.nestMembers #[106]] #[] 1057 12 #[111, 113, 115] #[{ accessFlags := 18, nameIndex := 5, descriptorIndex := 6, attributes := #[] }, { accessFlags := 18, nameIndex := 9, descriptorIndex := 10, attributes := #[] }, { accessFlags := 2, nameIndex := 19, descriptorIndex := 10, attributes := #[] }])
  fields := #[{ name := "name", type := (.object "java/lang/String"), accessFlags := 18, slot := 0, constantValue := 0 }, { name := "ordinal", type := .int, accessFlags := 18, slot := 1, constantValue := 0 }, { name := "hash", type := .int, accessFlags := 2, slot := 2, constantValue := 0 }]
  methods := #[]
  instanceTypes := #[(.object "java/lang/String"), .int, .int]
  staticTypes := #[]
  resolved := Array.replicate 204 none
  statics := none }

def pool6 : Array CpInfo := pool [(1, .class_ 2), (0, u "com/example/portcullis/portcullis/core/MessageRules$Operator"), (2, u "EQUAL"), (0, u "Lcom/example/portcullis/portcullis/core/MessageRules$Operator;"), (2, u "NOT_EQUAL"), (2, u "BEGINS_WITH"), (2, u "DOES_NOT_BEGIN_WITH"), (2, u "CONTAINS"), (2, u "DOES_NOT_CONTAIN"), (0, .fieldref 1 23), (0, .nameAndType 24 6), (0, u "MATCHES_REGEX"), (0, .fieldref 1 26), (0, .nameAndType 27 6), (0, u "DOES_NOT_MATCH_REGEX"), (2, u "$VALUES"), (0, u "[Lcom/example/portcullis/portcullis/core/MessageRules$Operator;"), (6, .class_ 40), (1, u "java/lang/Enum"), (8, u "negative"), (0, u "Z"), (23, u "()Z"), (0, u "isRegex"), (7, .class_ 84), (0, u "com/example/portcullis/portcullis/core/MessageRules")] 2

def k6c0 : Code := { maxStack := 2, maxLocals := 1, code := prog_21_method_5_code, exceptionTable := #[], attributes := #[] }
def k6m0 : Method := { name := "isRegex", desc := "()Z", sig := { parameters := [], returnType := some .boolean }, accessFlags := 0, code := some k6c0 }
/-- com/example/portcullis/portcullis/core/MessageRules$Operator -/
def k6 : Class := { plain "com/example/portcullis/portcullis/core/MessageRules$Operator" (some 5) with
  accessFlags := 16433
  interfaces := #[]
  cf := some (fileOf pool6 1 #[.nestHost 83] #[{ accessFlags := 0, nameIndex := 75, descriptorIndex := 74, attributes := #[] }] 16433 38 #[] #[{ accessFlags := 16409, nameIndex := 5, descriptorIndex := 6, attributes := #[] }, { accessFlags := 16409, nameIndex := 9, descriptorIndex := 6, attributes := #[] }, { accessFlags := 16409, nameIndex := 12, descriptorIndex := 6, attributes := #[] }, { accessFlags := 16409, nameIndex := 15, descriptorIndex := 6, attributes := #[] }, { accessFlags := 16409, nameIndex := 18, descriptorIndex := 6, attributes := #[] }, { accessFlags := 16409, nameIndex := 21, descriptorIndex := 6, attributes := #[] }, { accessFlags := 16409, nameIndex := 24, descriptorIndex := 6, attributes := #[] }, { accessFlags := 16409, nameIndex := 27, descriptorIndex := 6, attributes := #[] }, { accessFlags := 18, nameIndex := 49, descriptorIndex := 50, attributes := #[] }, { accessFlags := 4122, nameIndex := 30, descriptorIndex := 31, attributes := #[] }])
  fields := #[{ name := "EQUAL", type := (.object "com/example/portcullis/portcullis/core/MessageRules$Operator"), accessFlags := 16409, slot := 0, constantValue := 0 }, { name := "NOT_EQUAL", type := (.object "com/example/portcullis/portcullis/core/MessageRules$Operator"), accessFlags := 16409, slot := 1, constantValue := 0 }, { name := "BEGINS_WITH", type := (.object "com/example/portcullis/portcullis/core/MessageRules$Operator"), accessFlags := 16409, slot := 2, constantValue := 0 }, { name := "DOES_NOT_BEGIN_WITH", type := (.object "com/example/portcullis/portcullis/core/MessageRules$Operator"), accessFlags := 16409, slot := 3, constantValue := 0 }, { name := "CONTAINS", type := (.object "com/example/portcullis/portcullis/core/MessageRules$Operator"), accessFlags := 16409, slot := 4, constantValue := 0 }, { name := "DOES_NOT_CONTAIN", type := (.object "com/example/portcullis/portcullis/core/MessageRules$Operator"), accessFlags := 16409, slot := 5, constantValue := 0 }, { name := "MATCHES_REGEX", type := (.object "com/example/portcullis/portcullis/core/MessageRules$Operator"), accessFlags := 16409, slot := 6, constantValue := 0 }, { name := "DOES_NOT_MATCH_REGEX", type := (.object "com/example/portcullis/portcullis/core/MessageRules$Operator"), accessFlags := 16409, slot := 7, constantValue := 0 }, { name := "negative", type := .boolean, accessFlags := 18, slot := 3, constantValue := 0 }, { name := "$VALUES", type := (.array (.object "com/example/portcullis/portcullis/core/MessageRules$Operator")), accessFlags := 4122, slot := 8, constantValue := 0 }]
  methods := #[k6m0]
  instanceTypes := #[(.object "java/lang/String"), .int, .int, .boolean]
  staticTypes := #[(.object "com/example/portcullis/portcullis/core/MessageRules$Operator"), (.object "com/example/portcullis/portcullis/core/MessageRules$Operator"), (.object "com/example/portcullis/portcullis/core/MessageRules$Operator"), (.object "com/example/portcullis/portcullis/core/MessageRules$Operator"), (.object "com/example/portcullis/portcullis/core/MessageRules$Operator"), (.object "com/example/portcullis/portcullis/core/MessageRules$Operator"), (.object "com/example/portcullis/portcullis/core/MessageRules$Operator"), (.object "com/example/portcullis/portcullis/core/MessageRules$Operator"), (.array (.object "com/example/portcullis/portcullis/core/MessageRules$Operator"))]
  resolved := Array.replicate 87 none
  statics := some 0 }

def pool7 : Array CpInfo := pool [(1, u "java/lang/Cloneable"), (0, .class_ 1), (0, u "java/lang/Object"), (0, .class_ 3)] 3

/-- java/lang/Cloneable -/
def k7 : Class := { plain "java/lang/Cloneable" (some 0) with
  accessFlags := 1537
  interfaces := #[]
  cf := some (fileOf pool7 2 #[] #[] 1537 4 #[] #[])
  fields := #[]
  methods := #[]
  instanceTypes := #[]
  staticTypes := #[]
  resolved := Array.replicate 8 none
  statics := none }

/-- the primitive byte -/
def k8 : Class := { plain "byte" none with kind := .primitive 'B', accessFlags := 0x411 }
/-- [B -/
def k9 : Class := { plain "[B" (some 0) with kind := .array 8 .byte, interfaces := #[7, 4], accessFlags := 1041 }

/-- the primitive int -/
def k10 : Class := { plain "int" none with kind := .primitive 'I', accessFlags := 0x411 }
/-- [I -/
def k11 : Class := { plain "[I" (some 0) with kind := .array 10 .int, interfaces := #[7, 4], accessFlags := 1041 }

def heap : Heap := #[{ cls := 6, slots := #[.ref 1, .ref 2, .ref 3, .ref 4, .ref 5, .ref 6, .ref 7, .ref 8, .null], vm := .statics 6 },
  { cls := 6, slots := #[.null, .int 0, .int 0, .int 0], vm := .none },
  { cls := 6, slots := #[.null, .int 1, .int 0, .int 0], vm := .none },
  { cls := 6, slots := #[.null, .int 2, .int 0, .int 0], vm := .none },
  { cls := 6, slots := #[.null, .int 3, .int 0, .int 0], vm := .none },
  { cls := 6, slots := #[.null, .int 4, .int 0, .int 0], vm := .none },
  { cls := 6, slots := #[.null, .int 5, .int 0, .int 0], vm := .none },
  { cls := 6, slots := #[.null, .int 6, .int 0, .int 0], vm := .none },
  { cls := 6, slots := #[.null, .int 7, .int 0, .int 0], vm := .none }]
def classes : Array Class := #[k0, k1, k2, k3, k4, k5, k6, k7, k8, k9, k10, k11]
def interned : List (Array UInt16 × Addr) := []
def slotsUsed : Nat := 41
def theMethod : MethodId := ⟨1, 2⟩
def args0 : Array Value := #[.int 3]
def aboutOver (below : List Frame) : State where
  vm := { classes := classes, interned := interned.toArray }
  heap := heap
  slotsUsed := slotsUsed
  threads := #[{ frames := .invoking theMethod args0 :: below }]
def below0 : List Frame := [.native { method := ⟨0, 0⟩, args := #[] }]
def about1 : State := aboutOver below0
def p0 : Program := .bare "" "" ""
def e0 : Env := launch0.env 0 0 0
theorem w_frames : about1.frames = Frame.invoking theMethod args0 :: below0 := rfl
set_option maxRecDepth 65536 in
theorem w_args : argsFit about1.vm theMethod args0 = true := by decide +kernel
set_option maxRecDepth 65536 in
theorem w_heap : heapFits about1 = true := by decide +kernel
set_option maxRecDepth 65536 in
theorem w_runnable : about1.curStatus? = some .runnable := by decide +kernel
set_option maxRecDepth 65536 in
theorem w_alone : about1.alone = true := by decide +kernel
set_option maxRecDepth 65536 in
theorem w_named : about1.methodNamed? x = some theMethod := by decide +kernel
set_option maxRecDepth 65536 in
theorem w_hears : about1.hears theMethod below0 = true := by decide +kernel
set_option maxRecDepth 65536 in
theorem w_ripe : about1.ripe theMethod args0 below0 = true := by decide +kernel
theorem w_running : about1.status = .running := rfl
set_option maxRecDepth 65536 in
theorem w_room : about1.hasRoom e0.platform room_1 = true :=
  launch0.hasRoom_least _ room_1 (by decide +kernel) (by decide +kernel) (by decide +kernel) (by decide +kernel) (by decide +kernel) (by decide +kernel)
theorem allAtoms_all (ts : List Jvm.Cond) (a : Array Jvm.Value) (st : Jvm.State) : (allAtoms ts).before a st = ts.all (fun c => c.before a st) := by
  induction ts with
  | nil => rfl
  | cons c t ih =>
    show (Jvm.Cond.and c (allAtoms t)).before a st = _
    rw [Jvm.Cond.before_and, ih, List.all_cons]
def words1 : List Jvm.Cond := Jvm.Cond.code x code maxLocals ret :: tables_1
/-- a 'code' word, met by the world's own term for the bytes: nothing is compared byte by byte -/
theorem code_word {y : MethodName} {bytes : ByteArray} {mx : Nat} {rt : Option FieldType} {a : Array Value} {s : State} {m : MethodId} {meth : Method} {c : Code} (h1 : s.methodNamed? y = some m) (h2 : s.vm.method? m = some meth) (h3 : meth.code = some c) (h4 : c.code = bytes)
    (h5 : (c.maxLocals == mx && c.exceptionTable.isEmpty && decide (c.maxStack ≤ mostOperands) && decide (meth.sig.returnType = rt) && !meth.locks && decide (parseMethodDescriptor y.desc = some meth.sig)) = true) : (Jvm.Cond.code y bytes mx rt).before a s = true := by
  simp only [Bool.and_eq_true, beq_iff_eq, Bool.not_eq_true', decide_eq_true_eq] at h5
  obtain ⟨⟨⟨⟨⟨g1, g2⟩, g3⟩, g4⟩, g5⟩, g6⟩ := h5
  simp [Cond.before, Cond.holds, Cond.value, h1, h2, h3, h4, g1, g2, g3, g4, g5, g6]
def isCode : Jvm.Cond → Bool
  | .code _ _ _ _ => true
  | _ => false
theorem all_split {L : List Jvm.Cond} {P : Jvm.Cond → Bool} (h1 : L.all (fun c => isCode c || P c) = true) (h2 : ∀ c ∈ L.filter isCode, P c = true) : L.all P = true := by
  refine List.all_eq_true.mpr fun c hc => ?_
  have h := List.all_eq_true.mp h1 c hc
  rcases Bool.eq_false_or_eq_true (isCode c) with hi | hi
  · exact h2 c (List.mem_filter.mpr ⟨hc, hi⟩)
  · simpa [hi] using h
set_option maxRecDepth 65536 in
theorem w_c0 : (Jvm.Cond.code x code maxLocals ret).before args0 about1 = true := code_word (m := ⟨1, 2⟩) (meth := k1m2) (c := k1c2) (by decide +kernel) rfl rfl rfl (by decide +kernel)
set_option maxRecDepth 65536 in
theorem w_c1 : (Jvm.Cond.code ({ cls := "com/example/portcullis/portcullis/core/OperatorIsRegexPinLaw", name := "pick", desc := "(I)Lcom/example/portcullis/portcullis/core/MessageRules$Operator;" } : Jvm.MethodName) method_2_code (1 : Nat) (Option.some (Jvm.ClassFile.FieldType.object "com/example/portcullis/portcullis/core/MessageRules$Operator"))).before args0 about1 = true := code_word (m := ⟨1, 1⟩) (meth := k1m1) (c := k1c1) (by decide +kernel) rfl rfl rfl (by decide +kernel)
set_option maxRecDepth 65536 in
theorem w_c2 : (Jvm.Cond.code ({ cls := "com/example/portcullis/portcullis/core/MessageRules$Operator", name := "isRegex", desc := "()Z" } : Jvm.MethodName) prog_21_method_5_code (1 : Nat) (Option.some Jvm.ClassFile.FieldType.boolean)).before args0 about1 = true := code_word (m := ⟨6, 0⟩) (meth := k6m0) (c := k6c0) (by decide +kernel) rfl rfl rfl (by decide +kernel)
def codes1 : List Jvm.Cond := [Jvm.Cond.code x code maxLocals ret, Jvm.Cond.code ({ cls := "com/example/portcullis/portcullis/core/OperatorIsRegexPinLaw", name := "pick", desc := "(I)Lcom/example/portcullis/portcullis/core/MessageRules$Operator;" } : Jvm.MethodName) method_2_code (1 : Nat) (Option.some (Jvm.ClassFile.FieldType.object "com/example/portcullis/portcullis/core/MessageRules$Operator")), Jvm.Cond.code ({ cls := "com/example/portcullis/portcullis/core/MessageRules$Operator", name := "isRegex", desc := "()Z" } : Jvm.MethodName) prog_21_method_5_code (1 : Nat) (Option.some Jvm.ClassFile.FieldType.boolean)]
set_option maxRecDepth 65536 in
theorem codes_eq : words1.filter isCode = codes1 := rfl
theorem w_codes : ∀ c ∈ words1.filter isCode, c.before args0 about1 = true := by
  rw [codes_eq]
  intro c hc
  simp only [codes1, List.mem_cons, List.not_mem_nil, or_false] at hc
  rcases hc with rfl | rfl | rfl
  · exact w_c0
  · exact w_c1
  · exact w_c2
set_option maxRecDepth 65536 in
theorem w_t1 : (words1.take 24).all (fun c => isCode c || c.before args0 about1) = true := by decide +kernel
set_option maxRecDepth 65536 in
theorem w_t2 : (words1.drop 24).all (fun c => isCode c || c.before args0 about1) = true := by decide +kernel
theorem w_tables : (allAtoms (Jvm.Cond.code x code maxLocals ret :: tables_1)).before args0 about1 = true := by
  rw [allAtoms_all]
  show words1.all (fun c => c.before args0 about1) = true
  refine all_split ?_ w_codes
  rw [← List.take_append_drop 24 words1, List.all_append, w_t1, w_t2]
  rfl
set_option maxRecDepth 65536 in
theorem w_case : (Jvm.Cond.and given_1 narrow_1).before args0 about1 = true := by decide +kernel
theorem w_applies : (headSpec (Jvm.Cond.code x code maxLocals ret :: tables_1) room_1).applies x e0.platform about1 = true :=
  (Spec.applies_iff w_frames).mpr ⟨w_running, w_runnable, w_alone, w_named, w_hears, w_ripe, w_room, w_tables⟩
theorem atStart : AtStart classFile x code maxLocals ret World_1 tables_1 room_1 Calls_1 rest_1 Pre_1 launch0 p0 e0 about1 theMethod args0 below0 :=
  ⟨lists_1, trivial, launch0.admits_env _ _ _, launch0.least_env, fairChoices_fair.cas, fairChoices_fair.clock, w_frames, w_args, w_heap, w_applies, trivial, trivial, w_case⟩
end start1
theorem witness_1 : WitnessClaimed_1 := ⟨start1.p0, start1.e0, start1.about1, start1.theMethod, start1.args0, start1.below0, start1.atStart⟩
end Jvm.Pilot.@@N@@
