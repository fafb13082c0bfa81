import JvmDerived
import JvmDerived.Pilot.@@N@@Statement
import JvmDerived.Pilot.@@N@@Code
set_option linter.unusedVariables false
set_option linter.unusedSimpArgs false

namespace Jvm.Pilot.@@N@@
open Jvm Jvm.ClassFile Sem Op Lib Jvm.Free Jvm.Stand Jvm.LawKit Jvm.RoadKit Bundle Jvm.Pilot.@@N@@.Jvm.D
/-- from every end that the second place reaches the first does -/
abbrev own_To (p : Program) (e : Env) (below : List Frame) (T' : State) (f' : JFrame) (T : State) (f : JFrame) : Prop := ∀ t, Steps p.tables e below (T'.setTop f') t → Steps p.tables e below (T.setTop f) t
theorem own_nb {v : Int32} (h : v = 0 ∨ v = 1) : nar .boolean v = v := by rcases h with rfl | rfl <;> decide
def own_F1 (p : Int32) : Int32 := if p = (32 : Int32) then (1 : Int32) else if p = (9 : Int32) then (1 : Int32) else (0 : Int32)
theorem own_F1b (p : Int32) : own_F1 p = 0 ∨ own_F1 p = 1 := by
  unfold own_F1; split
  · exact Or.inr rfl
  · split
    · exact Or.inr rfl
    · exact Or.inl rfl
theorem own_law (x : Int32) : own_F1 ((x &&& (255 : Int32)).toInt8.toInt32) = if (x &&& (255 : Int32)) = (9 : Int32) then (1 : Int32) else if (x &&& (255 : Int32)) = (32 : Int32) then (1 : Int32) else (0 : Int32) := by
  have h1 := c_mask x 255 8 (by decide) (by decide)
  have h2 := c_i2b (x &&& (255 : Int32))
  generalize (x &&& (255 : Int32)) = u at *
  have e1 : (u.toInt8.toInt32 = 32) ↔ (u = 32) := by
    rw [← Int32.toInt_inj, ← Int32.toInt_inj, show (32 : Int32).toInt = 32 from rfl]; omega
  have e2 : (u.toInt8.toInt32 = 9) ↔ (u = 9) := by
    rw [← Int32.toInt_inj, ← Int32.toInt_inj, show (9 : Int32).toInt = 9 from rfl]; omega
  unfold own_F1
  simp only [e1, e2]
  by_cases a : u = 9
  · subst a; decide
  · simp only [a, if_false]
theorem own_d1_0 : decode prog_43_method_24_code 0 = .ok (.iload_n 0, 1) := by decide +kernel
theorem own_d1_1 : decode prog_43_method_24_code 1 = .ok (.bipush 32, 2) := by decide +kernel
theorem own_d1_3 : decode prog_43_method_24_code 3 = .ok (.if_icmp .eq 9, 3) := by decide +kernel
theorem own_d1_6 : decode prog_43_method_24_code 6 = .ok (.iload_n 0, 1) := by decide +kernel
theorem own_d1_7 : decode prog_43_method_24_code 7 = .ok (.bipush 9, 2) := by decide +kernel
theorem own_d1_9 : decode prog_43_method_24_code 9 = .ok (.if_icmp .ne 7, 3) := by decide +kernel
theorem own_d1_12 : decode prog_43_method_24_code 12 = .ok (.iconst 1, 1) := by decide +kernel
theorem own_d1_13 : decode prog_43_method_24_code 13 = .ok (.goto 4, 3) := by decide +kernel
theorem own_d1_16 : decode prog_43_method_24_code 16 = .ok (.iconst 0, 1) := by decide +kernel
theorem own_d1_17 : decode prog_43_method_24_code 17 = .ok (.ireturn, 1) := by decide +kernel
theorem own_pn1 : plainName "org/tokenlatch/server/RequestHead" = true := by first | (simp [plainName, overriddenIn]; done) | decide +kernel
theorem own_ef1 (m : MethodId) (x0 : Int32) : entryFrame m #[(.int x0)] 1 = mkF m 0 #[.val (.int x0)] [] := by first | (simp [entryFrame, mkF, argsToLocals, Value.category]; done) | rfl
def Q1 (Z : State) (p0 : Int32) (h0 : Heap) (n0 : Nat) (v : Option Value) (h : Heap) (L : List Loc) : Prop := v = some (.int (own_F1 p0)) ∧ Fr n0 L ∧ h = h0
set_option maxRecDepth 65536 in
set_option maxHeartbeats 40000000 in
theorem rm1 (l : Launch) (Z : State) (a0 : Array Value) (hw : ∀ d ∈ tables_1, d.before a0 Z = true) (ws : List Jvm.Cond) (p0 : Int32) (h0 : Heap) (n0 : Nat) (Z0 : n0 ≤ h0.size) :
    MetFree l (⟨"org/tokenlatch/server/RequestHead", "isBlank", "(B)Z"⟩ : MethodName) (head1 (Jvm.Cond.code (⟨"org/tokenlatch/server/RequestHead", "isBlank", "(B)Z"⟩ : MethodName) prog_43_method_24_code 1 (some .boolean) :: ws) ({ frames := 0, cells := 0, slots := 0, locals := 0 } : Room)) (fun a U => a = #[(.int p0)] ∧ Z.Warmed39 U.vm ∧ U.heap = h0) (fun _ _ _ _ _ => True) (fun _ U o U' => ∃ v L, o = .returned v ∧ Q1 Z p0 h0 n0 v U'.heap L ∧ FrameEnd U o U' L ({ frames := 0, cells := 0, slots := 0, locals := 0 } : Room).cells ({ frames := 0, cells := 0, slots := 0, locals := 0 } : Room).slots) := by
  refine MetFree.of_bodySF (plainFor_of_name own_pn1) hisR ?_
  intro p e s m args below meth c s₁ Bd hml0 hP hK
  obtain ⟨rfl, hZ, hh⟩ := hP
  have hx := Bd.exec
  have hby := Bd.bytes
  have hml : c.maxLocals = 1 := hml0
  have hown : s.vm.findClass "org/tokenlatch/server/RequestHead" = some m.cls := findClass_of_methodNamed Bd.named
  have hnm := (name_of_methodNamed Bd.named Bd.method).1
  have X0 : Stand p l e ({ frames := 0, cells := 0, slots := 0, locals := 0 } : Room) s m #[(.int p0)] below meth c s₁ [] 0 0 := Stand.of_body Bd
  have e0 : s₁.heap = h0 := by rw [← hh, Bd.state]; rfl
  have N0 := Fr.nil n0
  have k0 : own_To p e below s₁ (mkF m 0 #[.val (.int p0)] []) s₁ (entryFrame m #[(.int p0)] 1) := fun t k => castTop (own_ef1 m p0) k
  have ki : own_To p e below s₁ (mkF m 0 #[.val (.int p0)] []) s₁ (mkF m 0 #[.val (.int p0)] []) := fun t q => q
  obtain ⟨v3, hv3, k4⟩ : ∃ (v3 : Int32), (v3 = (if p0 = (32 : Int32) then (1 : Int32) else (if p0 = (9 : Int32) then (1 : Int32) else (0 : Int32)))) ∧ own_To p e below s₁ (mkF m 17 #[.val (.int p0)] [(.int v3)]) s₁ (mkF m 0 #[.val (.int p0)] []) := by
    by_cases hm1 : p0 = (32 : Int32)
    ·
      refine ⟨(1 : Int32), by rw [if_pos hm1], fun t q => ki t (?_)⟩
      refine XS.iloadN X0.here hx rfl (hb hby own_d1_0) rfl ?_
      show Steps p.tables e below (s₁.setTop (mkF m 1 #[.val (.int p0)] [(.int p0)])) _
      refine XS.bipush X0.here hx rfl (hb hby own_d1_1) ?_
      show Steps p.tables e below (s₁.setTop (mkF m 3 #[.val (.int p0)] [(.int (32 : Int32)), (.int p0)])) _
      refine XS.icmpYes X0.here hx rfl (pc0 := 3) (pc' := 12) rfl (hb hby own_d1_3) rfl (teq hm1).1 (by decide) (by decide) ?_
      show Steps p.tables e below (s₁.setTop (mkF m 12 #[.val (.int p0)] [])) _
      refine XS.iconst X0.here hx rfl (hb hby own_d1_12) ?_
      show Steps p.tables e below (s₁.setTop (mkF m 13 #[.val (.int p0)] [(.int (1 : Int32))])) _
      refine XS.goto X0.here hx rfl (pc0 := 13) (pc' := 17) rfl (hb hby own_d1_13) (by decide) (by decide) ?_
      show Steps p.tables e below (s₁.setTop (mkF m 17 #[.val (.int p0)] [(.int (1 : Int32))])) _
      exact q
    ·
      by_cases hm2 : p0 = (9 : Int32)
      ·
        refine ⟨(1 : Int32), by rw [if_neg hm1, if_pos hm2], fun t q => ki t (?_)⟩
        refine XS.iloadN X0.here hx rfl (hb hby own_d1_0) rfl ?_
        show Steps p.tables e below (s₁.setTop (mkF m 1 #[.val (.int p0)] [(.int p0)])) _
        refine XS.bipush X0.here hx rfl (hb hby own_d1_1) ?_
        show Steps p.tables e below (s₁.setTop (mkF m 3 #[.val (.int p0)] [(.int (32 : Int32)), (.int p0)])) _
        refine XS.icmpNo X0.here hx rfl (hb hby own_d1_3) rfl (feq hm1).1 ?_
        show Steps p.tables e below (s₁.setTop (mkF m 6 #[.val (.int p0)] [])) _
        refine XS.iloadN X0.here hx rfl (hb hby own_d1_6) rfl ?_
        show Steps p.tables e below (s₁.setTop (mkF m 7 #[.val (.int p0)] [(.int p0)])) _
        refine XS.bipush X0.here hx rfl (hb hby own_d1_7) ?_
        show Steps p.tables e below (s₁.setTop (mkF m 9 #[.val (.int p0)] [(.int (9 : Int32)), (.int p0)])) _
        refine XS.icmpNo X0.here hx rfl (hb hby own_d1_9) rfl (teq hm2).2 ?_
        show Steps p.tables e below (s₁.setTop (mkF m 12 #[.val (.int p0)] [])) _
        refine XS.iconst X0.here hx rfl (hb hby own_d1_12) ?_
        show Steps p.tables e below (s₁.setTop (mkF m 13 #[.val (.int p0)] [(.int (1 : Int32))])) _
        refine XS.goto X0.here hx rfl (pc0 := 13) (pc' := 17) rfl (hb hby own_d1_13) (by decide) (by decide) ?_
        show Steps p.tables e below (s₁.setTop (mkF m 17 #[.val (.int p0)] [(.int (1 : Int32))])) _
        exact q
      ·
        refine ⟨(0 : Int32), by rw [if_neg hm1, if_neg hm2], fun t q => ki t (?_)⟩
        refine XS.iloadN X0.here hx rfl (hb hby own_d1_0) rfl ?_
        show Steps p.tables e below (s₁.setTop (mkF m 1 #[.val (.int p0)] [(.int p0)])) _
        refine XS.bipush X0.here hx rfl (hb hby own_d1_1) ?_
        show Steps p.tables e below (s₁.setTop (mkF m 3 #[.val (.int p0)] [(.int (32 : Int32)), (.int p0)])) _
        refine XS.icmpNo X0.here hx rfl (hb hby own_d1_3) rfl (feq hm1).1 ?_
        show Steps p.tables e below (s₁.setTop (mkF m 6 #[.val (.int p0)] [])) _
        refine XS.iloadN X0.here hx rfl (hb hby own_d1_6) rfl ?_
        show Steps p.tables e below (s₁.setTop (mkF m 7 #[.val (.int p0)] [(.int p0)])) _
        refine XS.bipush X0.here hx rfl (hb hby own_d1_7) ?_
        show Steps p.tables e below (s₁.setTop (mkF m 9 #[.val (.int p0)] [(.int (9 : Int32)), (.int p0)])) _
        refine XS.icmpYes X0.here hx rfl (pc0 := 9) (pc' := 16) rfl (hb hby own_d1_9) rfl (feq hm2).2 (by decide) (by decide) ?_
        show Steps p.tables e below (s₁.setTop (mkF m 16 #[.val (.int p0)] [])) _
        refine XS.iconst X0.here hx rfl (hb hby own_d1_16) ?_
        show Steps p.tables e below (s₁.setTop (mkF m 17 #[.val (.int p0)] [(.int (0 : Int32))])) _
        exact q
  have hn : nar .boolean v3 = own_F1 p0 := by rw [hv3]; exact own_nb (own_F1b p0)
  obtain ⟨fs, hr, hrun, hended, hW, hsame⟩ := X0.leave (v := some (.int (nar .boolean v3))) (fun h => by rw [Bd.returns] at h; cases h)
  refine ⟨_, _, k0 _ (k4 _ ?_), hrun, hended, _, _, rfl, ?_, ⟨_, rfl⟩, hW, hsame.mono (by decide) (by decide)⟩
  · show Steps p.tables e below (s₁.setTop (mkF m 17 #[.val (.int p0)] [(.int v3)])) _
    exact retN X0 hx (t := .boolean) Bd.returns (by simp) (hb hby own_d1_17) hr
  · show Q1 Z p0 h0 n0 _ s₁.heap _
    rw [e0]
    exact ⟨by rw [hn], N0, rfl⟩
theorem own_pd0 : parseMethodDescriptor "(B)Z" = some ⟨[.byte], some .boolean⟩ := by decide +kernel
theorem own_pn0 : plainName "org/tokenlatch/server/RequestHeadIsBlankPinLaw" = true := by first | (simp [plainName, overriddenIn]; done) | decide +kernel
theorem own_ef0 (m : MethodId) (x0 : Int32) : entryFrame m #[(.int x0)] maxLocals = mkF m 0 #[.val (.int x0), .unset, .unset, .unset, .unset, .unset, .unset] [] := by first | (simp [entryFrame, mkF, argsToLocals, Value.category, maxLocals]; done) | rfl
def Q0 (Z : State) (p0 : Int32) (h0 : Heap) (n0 : Nat) (v : Option Value) (h : Heap) (L : List Loc) : Prop := v = some (.int 1) ∧ Fr n0 L
set_option maxRecDepth 65536 in
set_option maxHeartbeats 40000000 in
theorem rm0 (l : Launch) (Z : State) (a0 : Array Value) (hw : ∀ d ∈ tables_1, d.before a0 Z = true) (ws : List Jvm.Cond) (p0 : Int32) (h0 : Heap) (n0 : Nat) (Z0 : n0 ≤ h0.size) :
    MetFree l x (head1 (Jvm.Cond.code x code maxLocals ret :: ws) room_1) (fun a U => a = #[(.int p0)] ∧ Z.Warmed39 U.vm ∧ U.heap = h0) (fun _ _ _ _ _ => True) (fun _ U o U' => ∃ v L, o = .returned v ∧ Q0 Z p0 h0 n0 v U'.heap L ∧ FrameEnd U o U' L 0 0) := by
  refine MetFree.of_bodySF (plainFor_of_name own_pn0) hisR ?_
  intro p e s m args below meth c s₁ Bd hml0 hP hK
  obtain ⟨rfl, hZ, hh⟩ := hP
  have hx := Bd.exec
  have hby := Bd.bytes
  have hml : c.maxLocals = 7 := hml0
  have hown : s.vm.findClass "org/tokenlatch/server/RequestHeadIsBlankPinLaw" = some m.cls := findClass_of_methodNamed Bd.named
  have hnm := (name_of_methodNamed Bd.named Bd.method).1
  have X0 : Stand p l e room_1 s m #[(.int p0)] below meth c s₁ [] 0 0 := Stand.of_body Bd
  have e0 : s₁.heap = h0 := by rw [← hh, Bd.state]; rfl
  have N0 := Fr.nil n0
  have k0 : own_To p e below s₁ (mkF m 0 #[.val (.int p0), .unset, .unset, .unset, .unset, .unset, .unset] []) s₁ (entryFrame m #[(.int p0)] maxLocals) := fun t k => castTop (own_ef0 m p0) k
  have ki : own_To p e below s₁ (mkF m 0 #[.val (.int p0), .unset, .unset, .unset, .unset, .unset, .unset] []) s₁ (mkF m 0 #[.val (.int p0), .unset, .unset, .unset, .unset, .unset, .unset] []) := fun t q => q
  have k1 : own_To p e below s₁ (mkF m 12 #[.val (.int p0), .val (.int (p0 &&& (255 : Int32))), .val (.int ((p0 &&& (255 : Int32)).toInt8.toInt32)), .unset, .unset, .unset, .unset] [(.int (9 : Int32)), (.int (p0 &&& (255 : Int32)))]) s₁ (mkF m 0 #[.val (.int p0), .unset, .unset, .unset, .unset, .unset, .unset] []) := fun t q => ki t (by
    refine XS.iloadN X0.here hx rfl (hb hby at_0) rfl ?_
    show Steps p.tables e below (s₁.setTop (mkF m 1 #[.val (.int p0), .unset, .unset, .unset, .unset, .unset, .unset] [(.int p0)])) _
    refine XS.sipush X0.here hx rfl (hb hby at_1) ?_
    show Steps p.tables e below (s₁.setTop (mkF m 4 #[.val (.int p0), .unset, .unset, .unset, .unset, .unset, .unset] [(.int (255 : Int32)), (.int p0)])) _
    refine XS.iand X0.here hx rfl (hb hby at_4) rfl ?_
    show Steps p.tables e below (s₁.setTop (mkF m 5 #[.val (.int p0), .unset, .unset, .unset, .unset, .unset, .unset] [(.int (p0 &&& (255 : Int32)))])) _
    refine XS.istoreN X0.here hx rfl (hb hby at_5) rfl (l' := #[.val (.int p0), .val (.int (p0 &&& (255 : Int32))), .unset, .unset, .unset, .unset, .unset]) rfl ?_
    show Steps p.tables e below (s₁.setTop (mkF m 6 #[.val (.int p0), .val (.int (p0 &&& (255 : Int32))), .unset, .unset, .unset, .unset, .unset] [])) _
    refine XS.iloadN X0.here hx rfl (hb hby at_6) rfl ?_
    show Steps p.tables e below (s₁.setTop (mkF m 7 #[.val (.int p0), .val (.int (p0 &&& (255 : Int32))), .unset, .unset, .unset, .unset, .unset] [(.int (p0 &&& (255 : Int32)))])) _
    refine XS.i2b X0.here hx rfl (hb hby at_7) rfl ?_
    show Steps p.tables e below (s₁.setTop (mkF m 8 #[.val (.int p0), .val (.int (p0 &&& (255 : Int32))), .unset, .unset, .unset, .unset, .unset] [(.int ((p0 &&& (255 : Int32)).toInt8.toInt32))])) _
    refine XS.istoreN X0.here hx rfl (hb hby at_8) rfl (l' := #[.val (.int p0), .val (.int (p0 &&& (255 : Int32))), .val (.int ((p0 &&& (255 : Int32)).toInt8.toInt32)), .unset, .unset, .unset, .unset]) rfl ?_
    show Steps p.tables e below (s₁.setTop (mkF m 9 #[.val (.int p0), .val (.int (p0 &&& (255 : Int32))), .val (.int ((p0 &&& (255 : Int32)).toInt8.toInt32)), .unset, .unset, .unset, .unset] [])) _
    refine XS.iloadN X0.here hx rfl (hb hby at_9) rfl ?_
    show Steps p.tables e below (s₁.setTop (mkF m 10 #[.val (.int p0), .val (.int (p0 &&& (255 : Int32))), .val (.int ((p0 &&& (255 : Int32)).toInt8.toInt32)), .unset, .unset, .unset, .unset] [(.int (p0 &&& (255 : Int32)))])) _
    refine XS.bipush X0.here hx rfl (hb hby at_10) ?_
    show Steps p.tables e below (s₁.setTop (mkF m 12 #[.val (.int p0), .val (.int (p0 &&& (255 : Int32))), .val (.int ((p0 &&& (255 : Int32)).toInt8.toInt32)), .unset, .unset, .unset, .unset] [(.int (9 : Int32)), (.int (p0 &&& (255 : Int32)))])) _
    exact q)
  obtain ⟨v4, hv4, k5⟩ : ∃ (v4 : Int32), (v4 = (if (p0 &&& (255 : Int32)) = (9 : Int32) then (1 : Int32) else (if (p0 &&& (255 : Int32)) = (32 : Int32) then (1 : Int32) else (0 : Int32)))) ∧ own_To p e below s₁ (mkF m 26 #[.val (.int p0), .val (.int (p0 &&& (255 : Int32))), .val (.int ((p0 &&& (255 : Int32)).toInt8.toInt32)), .unset, .unset, .unset, .unset] [(.int v4)]) s₁ (mkF m 0 #[.val (.int p0), .unset, .unset, .unset, .unset, .unset, .unset] []) := by
    by_cases hm2 : (p0 &&& (255 : Int32)) = (9 : Int32)
    ·
      refine ⟨(1 : Int32), by rw [if_pos hm2], fun t q => k1 t (?_)⟩
      refine XS.icmpYes X0.here hx rfl (pc0 := 12) (pc' := 21) rfl (hb hby at_12) rfl (teq hm2).1 (by decide) (by decide) ?_
      show Steps p.tables e below (s₁.setTop (mkF m 21 #[.val (.int p0), .val (.int (p0 &&& (255 : Int32))), .val (.int ((p0 &&& (255 : Int32)).toInt8.toInt32)), .unset, .unset, .unset, .unset] [])) _
      refine XS.iconst X0.here hx rfl (hb hby at_21) ?_
      show Steps p.tables e below (s₁.setTop (mkF m 22 #[.val (.int p0), .val (.int (p0 &&& (255 : Int32))), .val (.int ((p0 &&& (255 : Int32)).toInt8.toInt32)), .unset, .unset, .unset, .unset] [(.int (1 : Int32))])) _
      refine XS.goto X0.here hx rfl (pc0 := 22) (pc' := 26) rfl (hb hby at_22) (by decide) (by decide) ?_
      show Steps p.tables e below (s₁.setTop (mkF m 26 #[.val (.int p0), .val (.int (p0 &&& (255 : Int32))), .val (.int ((p0 &&& (255 : Int32)).toInt8.toInt32)), .unset, .unset, .unset, .unset] [(.int (1 : Int32))])) _
      exact q
    ·
      by_cases hm3 : (p0 &&& (255 : Int32)) = (32 : Int32)
      ·
        refine ⟨(1 : Int32), by rw [if_neg hm2, if_pos hm3], fun t q => k1 t (?_)⟩
        refine XS.icmpNo X0.here hx rfl (hb hby at_12) rfl (feq hm2).1 ?_
        show Steps p.tables e below (s₁.setTop (mkF m 15 #[.val (.int p0), .val (.int (p0 &&& (255 : Int32))), .val (.int ((p0 &&& (255 : Int32)).toInt8.toInt32)), .unset, .unset, .unset, .unset] [])) _
        refine XS.iloadN X0.here hx rfl (hb hby at_15) rfl ?_
        show Steps p.tables e below (s₁.setTop (mkF m 16 #[.val (.int p0), .val (.int (p0 &&& (255 : Int32))), .val (.int ((p0 &&& (255 : Int32)).toInt8.toInt32)), .unset, .unset, .unset, .unset] [(.int (p0 &&& (255 : Int32)))])) _
        refine XS.bipush X0.here hx rfl (hb hby at_16) ?_
        show Steps p.tables e below (s₁.setTop (mkF m 18 #[.val (.int p0), .val (.int (p0 &&& (255 : Int32))), .val (.int ((p0 &&& (255 : Int32)).toInt8.toInt32)), .unset, .unset, .unset, .unset] [(.int (32 : Int32)), (.int (p0 &&& (255 : Int32)))])) _
        refine XS.icmpNo X0.here hx rfl (hb hby at_18) rfl (teq hm3).2 ?_
        show Steps p.tables e below (s₁.setTop (mkF m 21 #[.val (.int p0), .val (.int (p0 &&& (255 : Int32))), .val (.int ((p0 &&& (255 : Int32)).toInt8.toInt32)), .unset, .unset, .unset, .unset] [])) _
        refine XS.iconst X0.here hx rfl (hb hby at_21) ?_
        show Steps p.tables e below (s₁.setTop (mkF m 22 #[.val (.int p0), .val (.int (p0 &&& (255 : Int32))), .val (.int ((p0 &&& (255 : Int32)).toInt8.toInt32)), .unset, .unset, .unset, .unset] [(.int (1 : Int32))])) _
        refine XS.goto X0.here hx rfl (pc0 := 22) (pc' := 26) rfl (hb hby at_22) (by decide) (by decide) ?_
        show Steps p.tables e below (s₁.setTop (mkF m 26 #[.val (.int p0), .val (.int (p0 &&& (255 : Int32))), .val (.int ((p0 &&& (255 : Int32)).toInt8.toInt32)), .unset, .unset, .unset, .unset] [(.int (1 : Int32))])) _
        exact q
      ·
        refine ⟨(0 : Int32), by rw [if_neg hm2, if_neg hm3], fun t q => k1 t (?_)⟩
        refine XS.icmpNo X0.here hx rfl (hb hby at_12) rfl (feq hm2).1 ?_
        show Steps p.tables e below (s₁.setTop (mkF m 15 #[.val (.int p0), .val (.int (p0 &&& (255 : Int32))), .val (.int ((p0 &&& (255 : Int32)).toInt8.toInt32)), .unset, .unset, .unset, .unset] [])) _
        refine XS.iloadN X0.here hx rfl (hb hby at_15) rfl ?_
        show Steps p.tables e below (s₁.setTop (mkF m 16 #[.val (.int p0), .val (.int (p0 &&& (255 : Int32))), .val (.int ((p0 &&& (255 : Int32)).toInt8.toInt32)), .unset, .unset, .unset, .unset] [(.int (p0 &&& (255 : Int32)))])) _
        refine XS.bipush X0.here hx rfl (hb hby at_16) ?_
        show Steps p.tables e below (s₁.setTop (mkF m 18 #[.val (.int p0), .val (.int (p0 &&& (255 : Int32))), .val (.int ((p0 &&& (255 : Int32)).toInt8.toInt32)), .unset, .unset, .unset, .unset] [(.int (32 : Int32)), (.int (p0 &&& (255 : Int32)))])) _
        refine XS.icmpYes X0.here hx rfl (pc0 := 18) (pc' := 25) rfl (hb hby at_18) rfl (feq hm3).2 (by decide) (by decide) ?_
        show Steps p.tables e below (s₁.setTop (mkF m 25 #[.val (.int p0), .val (.int (p0 &&& (255 : Int32))), .val (.int ((p0 &&& (255 : Int32)).toInt8.toInt32)), .unset, .unset, .unset, .unset] [])) _
        refine XS.iconst X0.here hx rfl (hb hby at_25) ?_
        show Steps p.tables e below (s₁.setTop (mkF m 26 #[.val (.int p0), .val (.int (p0 &&& (255 : Int32))), .val (.int ((p0 &&& (255 : Int32)).toInt8.toInt32)), .unset, .unset, .unset, .unset] [(.int (0 : Int32))])) _
        exact q
  obtain ⟨_, _, ⟨T6, L6, kk6, n6⟩, -, X6, ⟨Lc6, hQ6, l6, y6, z6⟩, st6⟩ := Jvm.LawKit.callS X0 hx (y := (⟨"org/tokenlatch/server/RequestHead", "isBlank", "(B)Z"⟩ : MethodName)) hown (mvT hZ (hw _ (List.mem_of_getElem? (i := 0) rfl))) (mvT hZ (hw _ (List.mem_of_getElem? (i := 1) rfl))) (mvT hZ (hw _ (List.mem_of_getElem? (i := 2) rfl))) (mvT hZ (hw _ (List.mem_of_getElem? (i := 3) rfl))) (by decide) (backOf (W := 0) (rm1 l Z a0 hw [] ((p0 &&& (255 : Int32)).toInt8.toInt32) h0 n0 Z0) hZ (hw _ (List.mem_of_getElem? (i := 3) rfl)) (hw _ (List.mem_of_getElem? (i := 2) rfl)) (by decide) (by decide)) (g := (mkF m 28 #[.val (.int p0), .val (.int (p0 &&& (255 : Int32))), .val (.int ((p0 &&& (255 : Int32)).toInt8.toInt32)), .val (.int v4), .unset, .unset, .unset] [(.int ((p0 &&& (255 : Int32)).toInt8.toInt32))])) rfl (by rw [hml]; rfl) (argsL := [(.int ((p0 &&& (255 : Int32)).toInt8.toInt32))]) (rest := []) (lenOf own_pd0 rfl) rfl (by show 2 * 0 + _ ≤ _; exact Nat.le_of_eq rfl) (hb hby at_28) (fun _ _ => ⟨rfl, e0, (by decide : 0 + 0 ≤ _), (by decide : 0 + 0 ≤ _)⟩)
  dsimp only [Pt.U, Pt.locs, Pt.cells, Pt.slots] at X6 l6 y6 z6 st6 hQ6
  subst l6 y6 z6
  obtain ⟨rfl, N6q, e6⟩ := hQ6
  have N6 := Fr.app N0 N6q
  obtain ⟨_, _, ⟨T7, L7, kk7, n7⟩, -, X7, ⟨Lc7, hQ7, l7, y7, z7⟩, st7⟩ := Jvm.LawKit.callS X6 hx (y := (⟨"org/tokenlatch/server/RequestHead", "isBlank", "(B)Z"⟩ : MethodName)) hown (mvT hZ (hw _ (List.mem_of_getElem? (i := 0) rfl))) (mvT hZ (hw _ (List.mem_of_getElem? (i := 1) rfl))) (mvT hZ (hw _ (List.mem_of_getElem? (i := 2) rfl))) (mvT hZ (hw _ (List.mem_of_getElem? (i := 3) rfl))) (by decide) (backOf (W := 0) (rm1 l Z a0 hw [] (9 : Int32) h0 n0 Z0) hZ (hw _ (List.mem_of_getElem? (i := 3) rfl)) (hw _ (List.mem_of_getElem? (i := 2) rfl)) (by decide) (by decide)) (g := (mkF m 44 #[.val (.int p0), .val (.int (p0 &&& (255 : Int32))), .val (.int ((p0 &&& (255 : Int32)).toInt8.toInt32)), .val (.int v4), .val (.int (1 : Int32)), .unset, .unset] [(.int (9 : Int32))])) rfl (by rw [hml]; rfl) (argsL := [(.int (9 : Int32))]) (rest := []) (lenOf own_pd0 rfl) rfl (by show 2 * 0 + _ ≤ _; exact Nat.le_of_eq rfl) (hb hby at_44) (fun _ _ => ⟨rfl, e6, (by decide : 0 + 0 ≤ _), (by decide : 0 + 0 ≤ _)⟩)
  dsimp only [Pt.U, Pt.locs, Pt.cells, Pt.slots] at X7 l7 y7 z7 st7 hQ7
  subst l7 y7 z7
  obtain ⟨rfl, N7q, e7⟩ := hQ7
  have N7 := Fr.app N6 N7q
  obtain ⟨_, _, ⟨T8, L8, kk8, n8⟩, -, X8, ⟨Lc8, hQ8, l8, y8, z8⟩, st8⟩ := Jvm.LawKit.callS X7 hx (y := (⟨"org/tokenlatch/server/RequestHead", "isBlank", "(B)Z"⟩ : MethodName)) hown (mvT hZ (hw _ (List.mem_of_getElem? (i := 0) rfl))) (mvT hZ (hw _ (List.mem_of_getElem? (i := 1) rfl))) (mvT hZ (hw _ (List.mem_of_getElem? (i := 2) rfl))) (mvT hZ (hw _ (List.mem_of_getElem? (i := 3) rfl))) (by decide) (backOf (W := 0) (rm1 l Z a0 hw [] (32 : Int32) h0 n0 Z0) hZ (hw _ (List.mem_of_getElem? (i := 3) rfl)) (hw _ (List.mem_of_getElem? (i := 2) rfl)) (by decide) (by decide)) (g := (mkF m 51 #[.val (.int p0), .val (.int (p0 &&& (255 : Int32))), .val (.int ((p0 &&& (255 : Int32)).toInt8.toInt32)), .val (.int v4), .val (.int (1 : Int32)), .val (.int (own_F1 (9 : Int32))), .unset] [(.int (32 : Int32))])) rfl (by rw [hml]; rfl) (argsL := [(.int (32 : Int32))]) (rest := []) (lenOf own_pd0 rfl) rfl (by show 2 * 0 + _ ≤ _; exact Nat.le_of_eq rfl) (hb hby at_51) (fun _ _ => ⟨rfl, e7, (by decide : 0 + 0 ≤ _), (by decide : 0 + 0 ≤ _)⟩)
  dsimp only [Pt.U, Pt.locs, Pt.cells, Pt.slots] at X8 l8 y8 z8 st8 hQ8
  subst l8 y8 z8
  obtain ⟨rfl, N8q, e8⟩ := hQ8
  have N8 := Fr.app N7 N8q
  have k9 : own_To p e below T8 (mkF m 76 #[.val (.int p0), .val (.int (p0 &&& (255 : Int32))), .val (.int ((p0 &&& (255 : Int32)).toInt8.toInt32)), .val (.int v4), .val (.int (1 : Int32)), .val (.int (own_F1 (9 : Int32))), .val (.int (own_F1 (32 : Int32)))] [(.int (1 : Int32))]) s₁ (mkF m 0 #[.val (.int p0), .unset, .unset, .unset, .unset, .unset, .unset] []) := fun t q => k5 t (by
    refine XS.istoreN X0.here hx rfl (hb hby at_26) rfl (l' := #[.val (.int p0), .val (.int (p0 &&& (255 : Int32))), .val (.int ((p0 &&& (255 : Int32)).toInt8.toInt32)), .val (.int v4), .unset, .unset, .unset]) rfl ?_
    show Steps p.tables e below (s₁.setTop (mkF m 27 #[.val (.int p0), .val (.int (p0 &&& (255 : Int32))), .val (.int ((p0 &&& (255 : Int32)).toInt8.toInt32)), .val (.int v4), .unset, .unset, .unset] [])) _
    refine XS.iloadN X0.here hx rfl (hb hby at_27) rfl ?_
    show Steps p.tables e below (s₁.setTop (mkF m 28 #[.val (.int p0), .val (.int (p0 &&& (255 : Int32))), .val (.int ((p0 &&& (255 : Int32)).toInt8.toInt32)), .val (.int v4), .unset, .unset, .unset] [(.int ((p0 &&& (255 : Int32)).toInt8.toInt32))])) _
    refine st6 _ ?_
    show Steps p.tables e below (T6.setTop (mkF m 31 #[.val (.int p0), .val (.int (p0 &&& (255 : Int32))), .val (.int ((p0 &&& (255 : Int32)).toInt8.toInt32)), .val (.int v4), .unset, .unset, .unset] [(.int (own_F1 ((p0 &&& (255 : Int32)).toInt8.toInt32)))])) _
    refine XS.iloadN X6.here hx rfl (hb hby at_31) rfl ?_
    show Steps p.tables e below (T6.setTop (mkF m 32 #[.val (.int p0), .val (.int (p0 &&& (255 : Int32))), .val (.int ((p0 &&& (255 : Int32)).toInt8.toInt32)), .val (.int v4), .unset, .unset, .unset] [(.int v4), (.int (own_F1 ((p0 &&& (255 : Int32)).toInt8.toInt32)))])) _
    refine XS.icmpNo X6.here hx rfl (hb hby at_32) rfl (teq ((own_law p0).trans hv4.symm)).2 ?_
    show Steps p.tables e below (T6.setTop (mkF m 35 #[.val (.int p0), .val (.int (p0 &&& (255 : Int32))), .val (.int ((p0 &&& (255 : Int32)).toInt8.toInt32)), .val (.int v4), .unset, .unset, .unset] [])) _
    refine XS.iconst X6.here hx rfl (hb hby at_35) ?_
    show Steps p.tables e below (T6.setTop (mkF m 36 #[.val (.int p0), .val (.int (p0 &&& (255 : Int32))), .val (.int ((p0 &&& (255 : Int32)).toInt8.toInt32)), .val (.int v4), .unset, .unset, .unset] [(.int (1 : Int32))])) _
    refine XS.goto X6.here hx rfl (pc0 := 36) (pc' := 40) rfl (hb hby at_36) (by decide) (by decide) ?_
    show Steps p.tables e below (T6.setTop (mkF m 40 #[.val (.int p0), .val (.int (p0 &&& (255 : Int32))), .val (.int ((p0 &&& (255 : Int32)).toInt8.toInt32)), .val (.int v4), .unset, .unset, .unset] [(.int (1 : Int32))])) _
    refine XS.istore X6.here hx rfl (hb hby at_40) rfl (l' := #[.val (.int p0), .val (.int (p0 &&& (255 : Int32))), .val (.int ((p0 &&& (255 : Int32)).toInt8.toInt32)), .val (.int v4), .val (.int (1 : Int32)), .unset, .unset]) rfl ?_
    show Steps p.tables e below (T6.setTop (mkF m 42 #[.val (.int p0), .val (.int (p0 &&& (255 : Int32))), .val (.int ((p0 &&& (255 : Int32)).toInt8.toInt32)), .val (.int v4), .val (.int (1 : Int32)), .unset, .unset] [])) _
    refine XS.bipush X6.here hx rfl (hb hby at_42) ?_
    show Steps p.tables e below (T6.setTop (mkF m 44 #[.val (.int p0), .val (.int (p0 &&& (255 : Int32))), .val (.int ((p0 &&& (255 : Int32)).toInt8.toInt32)), .val (.int v4), .val (.int (1 : Int32)), .unset, .unset] [(.int (9 : Int32))])) _
    refine st7 _ ?_
    show Steps p.tables e below (T7.setTop (mkF m 47 #[.val (.int p0), .val (.int (p0 &&& (255 : Int32))), .val (.int ((p0 &&& (255 : Int32)).toInt8.toInt32)), .val (.int v4), .val (.int (1 : Int32)), .unset, .unset] [(.int (own_F1 (9 : Int32)))])) _
    refine XS.istore X7.here hx rfl (hb hby at_47) rfl (l' := #[.val (.int p0), .val (.int (p0 &&& (255 : Int32))), .val (.int ((p0 &&& (255 : Int32)).toInt8.toInt32)), .val (.int v4), .val (.int (1 : Int32)), .val (.int (own_F1 (9 : Int32))), .unset]) rfl ?_
    show Steps p.tables e below (T7.setTop (mkF m 49 #[.val (.int p0), .val (.int (p0 &&& (255 : Int32))), .val (.int ((p0 &&& (255 : Int32)).toInt8.toInt32)), .val (.int v4), .val (.int (1 : Int32)), .val (.int (own_F1 (9 : Int32))), .unset] [])) _
    refine XS.bipush X7.here hx rfl (hb hby at_49) ?_
    show Steps p.tables e below (T7.setTop (mkF m 51 #[.val (.int p0), .val (.int (p0 &&& (255 : Int32))), .val (.int ((p0 &&& (255 : Int32)).toInt8.toInt32)), .val (.int v4), .val (.int (1 : Int32)), .val (.int (own_F1 (9 : Int32))), .unset] [(.int (32 : Int32))])) _
    refine st8 _ ?_
    show Steps p.tables e below (T8.setTop (mkF m 54 #[.val (.int p0), .val (.int (p0 &&& (255 : Int32))), .val (.int ((p0 &&& (255 : Int32)).toInt8.toInt32)), .val (.int v4), .val (.int (1 : Int32)), .val (.int (own_F1 (9 : Int32))), .unset] [(.int (own_F1 (32 : Int32)))])) _
    refine XS.istore X8.here hx rfl (hb hby at_54) rfl (l' := #[.val (.int p0), .val (.int (p0 &&& (255 : Int32))), .val (.int ((p0 &&& (255 : Int32)).toInt8.toInt32)), .val (.int v4), .val (.int (1 : Int32)), .val (.int (own_F1 (9 : Int32))), .val (.int (own_F1 (32 : Int32)))]) rfl ?_
    show Steps p.tables e below (T8.setTop (mkF m 56 #[.val (.int p0), .val (.int (p0 &&& (255 : Int32))), .val (.int ((p0 &&& (255 : Int32)).toInt8.toInt32)), .val (.int v4), .val (.int (1 : Int32)), .val (.int (own_F1 (9 : Int32))), .val (.int (own_F1 (32 : Int32)))] [])) _
    refine XS.iload X8.here hx rfl (hb hby at_56) rfl ?_
    show Steps p.tables e below (T8.setTop (mkF m 58 #[.val (.int p0), .val (.int (p0 &&& (255 : Int32))), .val (.int ((p0 &&& (255 : Int32)).toInt8.toInt32)), .val (.int v4), .val (.int (1 : Int32)), .val (.int (own_F1 (9 : Int32))), .val (.int (own_F1 (32 : Int32)))] [(.int (1 : Int32))])) _
    refine XS.ifNo X8.here hx rfl (hb hby at_58) rfl ((if0 _ _).trans (feq (by decide)).1) ?_
    show Steps p.tables e below (T8.setTop (mkF m 61 #[.val (.int p0), .val (.int (p0 &&& (255 : Int32))), .val (.int ((p0 &&& (255 : Int32)).toInt8.toInt32)), .val (.int v4), .val (.int (1 : Int32)), .val (.int (own_F1 (9 : Int32))), .val (.int (own_F1 (32 : Int32)))] [])) _
    refine XS.iload X8.here hx rfl (hb hby at_61) rfl ?_
    show Steps p.tables e below (T8.setTop (mkF m 63 #[.val (.int p0), .val (.int (p0 &&& (255 : Int32))), .val (.int ((p0 &&& (255 : Int32)).toInt8.toInt32)), .val (.int v4), .val (.int (1 : Int32)), .val (.int (own_F1 (9 : Int32))), .val (.int (own_F1 (32 : Int32)))] [(.int (own_F1 (9 : Int32)))])) _
    refine XS.ifNo X8.here hx rfl (hb hby at_63) rfl ((if0 _ _).trans (feq (by decide)).1) ?_
    show Steps p.tables e below (T8.setTop (mkF m 66 #[.val (.int p0), .val (.int (p0 &&& (255 : Int32))), .val (.int ((p0 &&& (255 : Int32)).toInt8.toInt32)), .val (.int v4), .val (.int (1 : Int32)), .val (.int (own_F1 (9 : Int32))), .val (.int (own_F1 (32 : Int32)))] [])) _
    refine XS.iload X8.here hx rfl (hb hby at_66) rfl ?_
    show Steps p.tables e below (T8.setTop (mkF m 68 #[.val (.int p0), .val (.int (p0 &&& (255 : Int32))), .val (.int ((p0 &&& (255 : Int32)).toInt8.toInt32)), .val (.int v4), .val (.int (1 : Int32)), .val (.int (own_F1 (9 : Int32))), .val (.int (own_F1 (32 : Int32)))] [(.int (own_F1 (32 : Int32)))])) _
    refine XS.ifNo X8.here hx rfl (hb hby at_68) rfl ((if0 _ _).trans (feq (by decide)).1) ?_
    show Steps p.tables e below (T8.setTop (mkF m 71 #[.val (.int p0), .val (.int (p0 &&& (255 : Int32))), .val (.int ((p0 &&& (255 : Int32)).toInt8.toInt32)), .val (.int v4), .val (.int (1 : Int32)), .val (.int (own_F1 (9 : Int32))), .val (.int (own_F1 (32 : Int32)))] [])) _
    refine XS.iconst X8.here hx rfl (hb hby at_71) ?_
    show Steps p.tables e below (T8.setTop (mkF m 72 #[.val (.int p0), .val (.int (p0 &&& (255 : Int32))), .val (.int ((p0 &&& (255 : Int32)).toInt8.toInt32)), .val (.int v4), .val (.int (1 : Int32)), .val (.int (own_F1 (9 : Int32))), .val (.int (own_F1 (32 : Int32)))] [(.int (1 : Int32))])) _
    refine XS.goto X8.here hx rfl (pc0 := 72) (pc' := 76) rfl (hb hby at_72) (by decide) (by decide) ?_
    show Steps p.tables e below (T8.setTop (mkF m 76 #[.val (.int p0), .val (.int (p0 &&& (255 : Int32))), .val (.int ((p0 &&& (255 : Int32)).toInt8.toInt32)), .val (.int v4), .val (.int (1 : Int32)), .val (.int (own_F1 (9 : Int32))), .val (.int (own_F1 (32 : Int32)))] [(.int (1 : Int32))])) _
    exact q)
  obtain ⟨fs, hr, hrun, hended, hW, hsame⟩ := X8.leave (v := some (.int (1 : Int32))) (fun h => by rw [Bd.returns] at h; cases h)
  refine ⟨_, _, k0 _ (k9 _ ?_), hrun, hended, _, _, rfl, ?_, ⟨_, rfl⟩, hW, hsame.mono (by decide) (by decide)⟩
  · show Steps p.tables e below (T8.setTop (mkF m 76 #[.val (.int p0), .val (.int (p0 &&& (255 : Int32))), .val (.int ((p0 &&& (255 : Int32)).toInt8.toInt32)), .val (.int v4), .val (.int (1 : Int32)), .val (.int (own_F1 (9 : Int32))), .val (.int (own_F1 (32 : Int32)))] [(.int (1 : Int32))])) _
    exact retN X8 hx (t := .boolean) Bd.returns (by simp) (hb hby at_76) hr
  · show Q0 Z p0 h0 n0 _ T8.heap _
    rw [e8]
    exact ⟨rfl, N8⟩
set_option maxRecDepth 65536 in
set_option maxHeartbeats 40000000 in
theorem comes_1 {Post : Tables → Env → Array Value → State → Outcome → State → Prop} (hpost : ∀ tb e args s v u, (limb_1_1.after args s (.returned v) u = true ∧ limb_1_2.after args s (.returned v) u = true ∧ True) → FrameEnd s (.returned v) u (Jvm.fieldLocs frame_1_writes args s ++ Jvm.arrayLocs frame_1_arrays args s ++ Jvm.staticLocs frame_1_statics s) 0 0 → Post tb e args s (.returned v) u) :
    ArmFor flags0 classFile x code maxLocals ret World_1 tables_1 room_1 Calls_1 rest_1 Pre_1 Post := by
  intro l hfl _ _ p e ha hc hk s m args below hf hA hF happ hP
  obtain ⟨hcalls, hrest, hpre⟩ := hP
  obtain ⟨-, -, -, hnamed, -, -, -, hat⟩ := (Spec.applies_iff hf).mp happ
  obtain ⟨hg, hn⟩ := and_e (Cond.before_iff.mp (show (Jvm.Cond.and given_1 narrow_1).before args s = true from hpre))
  obtain ⟨hgc, hg0⟩ := and_e hg
  obtain ⟨w0, rfl⟩ : ∃ w0 : Value, args = #[w0] := by
    have hs : args.size = 1 := by simpa [Cond.value, given_1] using hgc
    obtain ⟨L⟩ := args
    match L, hs with
    | [w0], _ => exact ⟨w0, rfl⟩
  have hw := fun d (hd : d ∈ tables_1) => atoms_spec (ws := Jvm.Cond.code x code maxLocals ret :: tables_1) hat d (List.mem_cons_of_mem _ hd)
  have hfit : Fit s := fun {y c} hc i hi => by
    obtain ⟨ha, rfl⟩ := Array.getElem?_eq_some_iff.mp hc
    have q := List.all_eq_true.mp ((Array.all_eq_true_iff_forall_mem.mp hF) _ (Array.getElem_mem ha)) i (List.mem_range.mpr hi)
    simpa [Array.getElem?_eq_getElem hi] using q
  obtain ⟨i0, ei0⟩ := is_v hg0
  obtain rfl : w0 = (.int i0) := Option.some.inj ei0
  obtain ⟨n, o, h1, h2, h3, _, L, rfl, ⟨rfl, N⟩, hq⟩ := rm0 l s _ hw tables_1 i0 s.heap s.heap.size (Nat.le_refl _) p e ha hc hk s m _ below hf ((Spec.applies_iff_loose hf).mp happ).1 ⟨rfl, State.Warmed39.refl s, rfl⟩ trivial
  refine ⟨n, _, h1, h2, h3, hpost _ _ _ _ _ _ ⟨Cond.after_iff.mpr rfl, Cond.after_iff.mpr (eq_i res_at (Term.int_eval (1)) rfl), trivial⟩ ⟨hq.1, hq.2.1, (hq.2.2.sift fun y hy => Or.inr (N y hy)).mono (by decide) (by decide)⟩⟩
theorem main_1_1 : Claimed_1_1 := comes_1 fun _ _ _ _ _ _ h hF => ⟨h.1, hF⟩
theorem main_1_2 : Claimed_1_2 := comes_1 fun _ _ _ _ _ _ h hF => ⟨h.2.1, hF⟩
end Jvm.Pilot.@@N@@
namespace Jvm.Pilot.@@N@@
open Jvm Jvm.ClassFile Sem Op Lib Jvm.Free Jvm.Stand Jvm.Pilot.@@N@@.Jvm.D
/-! MADE BY PROGRAM (witnessworld.py) out of the Statement's table words and the real class files: 7 classes; the members and pool entries that the words name. The judged class is class 1, her method 1. -/
namespace start1
open Jvm.ClassFile
def u (s : String) : CpInfo := .utf8 (stringToUtf16 s)
/-- a pool by its gaps: so many unusable entries, then the entry; so many at the end -/
def gap : Nat → List CpInfo → List CpInfo
  | 0, r => r
  | n + 1, r => .unusable :: gap n r
def poolList (es : List (Nat × CpInfo)) (last : Nat) : List CpInfo := es.foldr (fun e r => gap e.1 (e.2 :: r)) (gap last [])
def pool (es : List (Nat × CpInfo)) (last : Nat) : Array CpInfo := ⟨poolList es last⟩
def fileOf (pool : Array CpInfo) (this : Nat) (attrs : Array Attribute := #[]) (ms : Array MethodInfo := #[]) (fl : Nat := 33) (sup : Nat := 0) (ifs : Array Nat := #[]) (fds : Array FieldInfo := #[]) : ClassFile where
  minorVersion := 0
  majorVersion := 65
  constantPool := pool
  accessFlags := fl
  thisClass := this
  superClass := sup
  interfaces := ifs
  fields := fds
  methods := ms
  attributes := attrs
def plain (name : String) (sup : Option ClassId) : Class where
  name := name
  kind := .ordinary
  loader := none
  accessFlags := 33
  super := sup
  interfaces := #[]
  cf := none
  fields := #[]
  methods := #[]
  instanceTypes := #[]
  staticTypes := #[]
  resolved := #[]
  callSites := []
  init := .initialized
  statics := none
  mirror := none

def pool0 : Array CpInfo := pool [(5, u "<init>"), (0, u "()V"), (1, .class_ 10), (1, u "java/lang/Object")] 113

def k0m0 : Method := { name := "<init>", desc := "()V", sig := { parameters := [], returnType := none }, accessFlags := 1, code := none }
/-- java/lang/Object -/
def k0 : Class := { plain "java/lang/Object" none with
  accessFlags := 33
  interfaces := #[]
  cf := some (fileOf pool0 8 #[] #[{ accessFlags := 1, nameIndex := 5, descriptorIndex := 6, attributes := #[] }] 33 0 #[] #[])
  fields := #[]
  methods := #[k0m0]
  instanceTypes := #[]
  staticTypes := #[]
  resolved := Array.replicate 124 none
  statics := none }

def pool1 : Array CpInfo := pool [(2, .class_ 4), (1, u "java/lang/Object"), (0, u "<init>"), (0, u "()V"), (0, .methodref 8 9), (0, .class_ 10), (0, .nameAndType 11 12), (0, u "org/tokenlatch/server/RequestHead"), (0, u "isBlank"), (0, u "(B)Z"), (0, .class_ 14), (0, u "org/tokenlatch/server/RequestHeadIsBlankPinLaw"), (2, u "law"), (0, u "(I)Z")] 3

def k1m0 : Method := { name := "<init>", desc := "()V", sig := { parameters := [], returnType := none }, accessFlags := 1, code := none }
def k1c1 : Code := { maxStack := 2, maxLocals := 7, code := code, exceptionTable := #[], attributes := #[] }
def k1m1 : Method := { name := "law", desc := "(I)Z", sig := { parameters := [.int], returnType := some .boolean }, accessFlags := 9, code := some k1c1 }
/-- org/tokenlatch/server/RequestHeadIsBlankPinLaw -/
def k1 : Class := { plain "org/tokenlatch/server/RequestHeadIsBlankPinLaw" (some 0) with
  accessFlags := 49
  interfaces := #[]
  cf := some (fileOf pool1 13 #[] #[{ accessFlags := 1, nameIndex := 5, descriptorIndex := 6, attributes := #[] }, { accessFlags := 9, nameIndex := 17, descriptorIndex := 18, attributes := #[] }] 49 2 #[] #[])
  fields := #[]
  methods := #[k1m0, k1m1]
  instanceTypes := #[]
  staticTypes := #[]
  resolved := Array.replicate 22 none
  statics := none }

def pool2 : Array CpInfo := pool [(2, .class_ 4), (1, u "java/lang/Object"), (3, .class_ 10), (1, u "org/tokenlatch/server/RequestHead"), (0, u "method"), (0, u "Ljava/lang/String;"), (2, u "path"), (2, u "query"), (2, u "http10"), (0, u "Z"), (2, u "names"), (0, u "Ljava/util/List;"), (2, u "values"), (0, .class_ 31), (0, u "org/tokenlatch/server/RequestHead$Fields"), (39, u "keepAlive"), (2, u "chunked"), (2, u "contentLength"), (0, u "J"), (2, u "expectsContinue"), (121, u "Lorg/tokenlatch/model/AsciiSet;"), (13, u "DIGITS"), (11, u "TARGET"), (32, u "isBlank"), (0, u "(B)Z"), (2, u "HEX_DIGITS"), (5, u "REG_NAME"), (33, u "MAX_BYTES"), (0, u "I"), (2, u "MAX_FIELDS"), (1, u "HEADER_FIELDS_TOO_LARGE"), (1, u "URI_TOO_LONG"), (1, u "EXPECTATION_FAILED"), (27, .class_ 345), (0, u "org/tokenlatch/server/RequestHead$Reader")] 3

def k2c0 : Code := { maxStack := 2, maxLocals := 1, code := prog_43_method_24_code, exceptionTable := #[], attributes := #[] }
def k2m0 : Method := { name := "isBlank", desc := "(B)Z", sig := { parameters := [.byte], returnType := some .boolean }, accessFlags := 8, code := some k2c0 }
/-- org/tokenlatch/server/RequestHead -/
def k2 : Class := { plain "org/tokenlatch/server/RequestHead" (some 0) with
  accessFlags := 48
  interfaces := #[]
  cf := some (fileOf pool2 8 #[.nestMembers #[30, 344]] #[{ accessFlags := 8, nameIndex := 262, descriptorIndex := 263, attributes := #[] }] 48 2 #[] #[{ accessFlags := 24, nameIndex := 306, descriptorIndex := 307, attributes := #[] }, { accessFlags := 24, nameIndex := 310, descriptorIndex := 307, attributes := #[] }, { accessFlags := 26, nameIndex := 312, descriptorIndex := 307, attributes := #[] }, { accessFlags := 26, nameIndex := 314, descriptorIndex := 307, attributes := #[] }, { accessFlags := 26, nameIndex := 316, descriptorIndex := 307, attributes := #[] }, { accessFlags := 26, nameIndex := 229, descriptorIndex := 203, attributes := #[] }, { accessFlags := 26, nameIndex := 272, descriptorIndex := 203, attributes := #[] }, { accessFlags := 26, nameIndex := 217, descriptorIndex := 203, attributes := #[] }, { accessFlags := 26, nameIndex := 266, descriptorIndex := 203, attributes := #[] }, { accessFlags := 18, nameIndex := 11, descriptorIndex := 12, attributes := #[] }, { accessFlags := 18, nameIndex := 15, descriptorIndex := 12, attributes := #[] }, { accessFlags := 18, nameIndex := 18, descriptorIndex := 12, attributes := #[] }, { accessFlags := 18, nameIndex := 21, descriptorIndex := 22, attributes := #[] }, { accessFlags := 18, nameIndex := 25, descriptorIndex := 26, attributes := #[] }, { accessFlags := 18, nameIndex := 29, descriptorIndex := 26, attributes := #[] }, { accessFlags := 2, nameIndex := 77, descriptorIndex := 78, attributes := #[] }, { accessFlags := 2, nameIndex := 74, descriptorIndex := 22, attributes := #[] }, { accessFlags := 2, nameIndex := 81, descriptorIndex := 22, attributes := #[] }, { accessFlags := 2, nameIndex := 71, descriptorIndex := 22, attributes := #[] }])
  fields := #[{ name := "MAX_BYTES", type := .int, accessFlags := 24, slot := 0, constantValue := 0 }, { name := "MAX_FIELDS", type := .int, accessFlags := 24, slot := 1, constantValue := 0 }, { name := "HEADER_FIELDS_TOO_LARGE", type := .int, accessFlags := 26, slot := 2, constantValue := 0 }, { name := "URI_TOO_LONG", type := .int, accessFlags := 26, slot := 3, constantValue := 0 }, { name := "EXPECTATION_FAILED", type := .int, accessFlags := 26, slot := 4, constantValue := 0 }, { name := "TARGET", type := (.object "org/tokenlatch/model/AsciiSet"), accessFlags := 26, slot := 5, constantValue := 0 }, { name := "REG_NAME", type := (.object "org/tokenlatch/model/AsciiSet"), accessFlags := 26, slot := 6, constantValue := 0 }, { name := "DIGITS", type := (.object "org/tokenlatch/model/AsciiSet"), accessFlags := 26, slot := 7, constantValue := 0 }, { name := "HEX_DIGITS", type := (.object "org/tokenlatch/model/AsciiSet"), accessFlags := 26, slot := 8, constantValue := 0 }, { name := "method", type := (.object "java/lang/String"), accessFlags := 18, slot := 0, constantValue := 0 }, { name := "path", type := (.object "java/lang/String"), accessFlags := 18, slot := 1, constantValue := 0 }, { name := "query", type := (.object "java/lang/String"), accessFlags := 18, slot := 2, constantValue := 0 }, { name := "http10", type := .boolean, accessFlags := 18, slot := 3, constantValue := 0 }, { name := "names", type := (.object "java/util/List"), accessFlags := 18, slot := 4, constantValue := 0 }, { name := "values", type := (.object "java/util/List"), accessFlags := 18, slot := 5, constantValue := 0 }, { name := "contentLength", type := .long, accessFlags := 2, slot := 6, constantValue := 0 }, { name := "chunked", type := .boolean, accessFlags := 2, slot := 7, constantValue := 0 }, { name := "expectsContinue", type := .boolean, accessFlags := 2, slot := 8, constantValue := 0 }, { name := "keepAlive", type := .boolean, accessFlags := 2, slot := 9, constantValue := 0 }]
  methods := #[k2m0]
  instanceTypes := #[(.object "java/lang/String"), (.object "java/lang/String"), (.object "java/lang/String"), .boolean, (.object "java/util/List"), (.object "java/util/List"), .long, .boolean, .boolean, .boolean]
  staticTypes := #[.int, .int, .int, .int, .int, (.object "org/tokenlatch/model/AsciiSet"), (.object "org/tokenlatch/model/AsciiSet"), (.object "org/tokenlatch/model/AsciiSet"), (.object "org/tokenlatch/model/AsciiSet")]
  resolved := Array.replicate 349 none
  statics := none }

def pool3 : Array CpInfo := pool [(1, u "java/lang/Cloneable"), (0, .class_ 1), (0, u "java/lang/Object"), (0, .class_ 3)] 3

/-- java/lang/Cloneable -/
def k3 : Class := { plain "java/lang/Cloneable" (some 0) with
  accessFlags := 1537
  interfaces := #[]
  cf := some (fileOf pool3 2 #[] #[] 1537 4 #[] #[])
  fields := #[]
  methods := #[]
  instanceTypes := #[]
  staticTypes := #[]
  resolved := Array.replicate 8 none
  statics := none }

def pool4 : Array CpInfo := pool [(1, u "java/io/Serializable"), (0, .class_ 1), (0, u "java/lang/Object"), (0, .class_ 3)] 3

/-- java/io/Serializable -/
def k4 : Class := { plain "java/io/Serializable" (some 0) with
  accessFlags := 1537
  interfaces := #[]
  cf := some (fileOf pool4 2 #[] #[] 1537 4 #[] #[])
  fields := #[]
  methods := #[]
  instanceTypes := #[]
  staticTypes := #[]
  resolved := Array.replicate 8 none
  statics := none }

/-- the primitive byte -/
def k5 : Class := { plain "byte" none with kind := .primitive 'B', accessFlags := 0x411 }
/-- [B -/
def k6 : Class := { plain "[B" (some 0) with kind := .array 5 .byte, interfaces := #[3, 4], accessFlags := 1041 }

def heap : Heap := #[]
def classes : Array Class := #[k0, k1, k2, k3, k4, k5, k6]
def interned : List (Array UInt16 × Addr) := []
def slotsUsed : Nat := 0
def theMethod : MethodId := ⟨1, 1⟩
def args0 : Array Value := #[.int 5]
def aboutOver (below : List Frame) : State where
  vm := { classes := classes, interned := interned.toArray }
  heap := heap
  slotsUsed := slotsUsed
  threads := #[{ frames := .invoking theMethod args0 :: below }]
def below0 : List Frame := [.native { method := ⟨0, 0⟩, args := #[] }]
def about1 : State := aboutOver below0
def p0 : Program := .bare "" "" ""
def e0 : Env := launch0.env 0 0 0
theorem w_frames : about1.frames = Frame.invoking theMethod args0 :: below0 := rfl
set_option maxRecDepth 65536 in
theorem w_args : argsFit about1.vm theMethod args0 = true := by decide +kernel
set_option maxRecDepth 65536 in
theorem w_heap : heapFits about1 = true := by decide +kernel
set_option maxRecDepth 65536 in
theorem w_runnable : about1.curStatus? = some .runnable := by decide +kernel
set_option maxRecDepth 65536 in
theorem w_alone : about1.alone = true := by decide +kernel
set_option maxRecDepth 65536 in
theorem w_named : about1.methodNamed? x = some theMethod := by decide +kernel
set_option maxRecDepth 65536 in
theorem w_hears : about1.hears theMethod below0 = true := by decide +kernel
set_option maxRecDepth 65536 in
theorem w_ripe : about1.ripe theMethod args0 below0 = true := by decide +kernel
theorem w_running : about1.status = .running := rfl
set_option maxRecDepth 65536 in
theorem w_room : about1.hasRoom e0.platform room_1 = true :=
  launch0.hasRoom_least _ room_1 (by decide +kernel) (by decide +kernel) (by decide +kernel) (by decide +kernel) (by decide +kernel) (by decide +kernel)
theorem allAtoms_all (ts : List Jvm.Cond) (a : Array Jvm.Value) (st : Jvm.State) : (allAtoms ts).before a st = ts.all (fun c => c.before a st) := by
  induction ts with
  | nil => rfl
  | cons c t ih =>
    show (Jvm.Cond.and c (allAtoms t)).before a st = _
    rw [Jvm.Cond.before_and, ih, List.all_cons]
def words1 : List Jvm.Cond := Jvm.Cond.code x code maxLocals ret :: tables_1
/-- a 'code' word, met by the world's own term for the bytes: nothing is compared byte by byte -/
theorem code_word {y : MethodName} {bytes : ByteArray} {mx : Nat} {rt : Option FieldType} {a : Array Value} {s : State} {m : MethodId} {meth : Method} {c : Code} (h1 : s.methodNamed? y = some m) (h2 : s.vm.method? m = some meth) (h3 : meth.code = some c) (h4 : c.code = bytes)
    (h5 : (c.maxLocals == mx && c.exceptionTable.isEmpty && decide (c.maxStack ≤ mostOperands) && decide (meth.sig.returnType = rt) && !meth.locks && decide (parseMethodDescriptor y.desc = some meth.sig)) = true) : (Jvm.Cond.code y bytes mx rt).before a s = true := by
  simp only [Bool.and_eq_true, beq_iff_eq, Bool.not_eq_true', decide_eq_true_eq] at h5
  obtain ⟨⟨⟨⟨⟨g1, g2⟩, g3⟩, g4⟩, g5⟩, g6⟩ := h5
  simp [Cond.before, Cond.holds, Cond.value, h1, h2, h3, h4, g1, g2, g3, g4, g5, g6]
def isCode : Jvm.Cond → Bool
  | .code _ _ _ _ => true
  | _ => false
theorem all_split {L : List Jvm.Cond} {P : Jvm.Cond → Bool} (h1 : L.all (fun c => isCode c || P c) = true) (h2 : ∀ c ∈ L.filter isCode, P c = true) : L.all P = true := by
  refine List.all_eq_true.mpr fun c hc => ?_
  have h := List.all_eq_true.mp h1 c hc
  rcases Bool.eq_false_or_eq_true (isCode c) with hi | hi
  · exact h2 c (List.mem_filter.mpr ⟨hc, hi⟩)
  · simpa [hi] using h
set_option maxRecDepth 65536 in
theorem w_c0 : (Jvm.Cond.code x code maxLocals ret).before args0 about1 = true := code_word (m := ⟨1, 1⟩) (meth := k1m1) (c := k1c1) (by decide +kernel) rfl rfl rfl (by decide +kernel)
set_option maxRecDepth 65536 in
theorem w_c1 : (Jvm.Cond.code ({ cls := "org/tokenlatch/server/RequestHead", name := "isBlank", desc := "(B)Z" } : Jvm.MethodName) prog_43_method_24_code (1 : Nat) (Option.some Jvm.ClassFile.FieldType.boolean)).before args0 about1 = true := code_word (m := ⟨2, 0⟩) (meth := k2m0) (c := k2c0) (by decide +kernel) rfl rfl rfl (by decide +kernel)
def codes1 : List Jvm.Cond := [Jvm.Cond.code x code maxLocals ret, Jvm.Cond.code ({ cls := "org/tokenlatch/server/RequestHead", name := "isBlank", desc := "(B)Z" } : Jvm.MethodName) prog_43_method_24_code (1 : Nat) (Option.some Jvm.ClassFile.FieldType.boolean)]
set_option maxRecDepth 65536 in
theorem codes_eq : words1.filter isCode = codes1 := rfl
theorem w_codes : ∀ c ∈ words1.filter isCode, c.before args0 about1 = true := by
  rw [codes_eq]
  intro c hc
  simp only [codes1, List.mem_cons, List.not_mem_nil, or_false] at hc
  rcases hc with rfl | rfl
  · exact w_c0
  · exact w_c1
set_option maxRecDepth 65536 in
theorem w_t1 : words1.all (fun c => isCode c || c.before args0 about1) = true := by decide +kernel
theorem w_tables : (allAtoms (Jvm.Cond.code x code maxLocals ret :: tables_1)).before args0 about1 = true := by
  rw [allAtoms_all]
  show words1.all (fun c => c.before args0 about1) = true
  refine all_split ?_ w_codes
  rw [w_t1]
set_option maxRecDepth 65536 in
theorem w_case : (Jvm.Cond.and given_1 narrow_1).before args0 about1 = true := by decide +kernel
theorem w_applies : (headSpec (Jvm.Cond.code x code maxLocals ret :: tables_1) room_1).applies x e0.platform about1 = true :=
  (Spec.applies_iff w_frames).mpr ⟨w_running, w_runnable, w_alone, w_named, w_hears, w_ripe, w_room, w_tables⟩
theorem atStart : AtStart classFile x code maxLocals ret World_1 tables_1 room_1 Calls_1 rest_1 Pre_1 launch0 p0 e0 about1 theMethod args0 below0 :=
  ⟨lists_1, trivial, launch0.admits_env _ _ _, launch0.least_env, fairChoices_fair.cas, fairChoices_fair.clock, w_frames, w_args, w_heap, w_applies, trivial, trivial, w_case⟩
end start1
theorem witness_1 : WitnessClaimed_1 := ⟨start1.p0, start1.e0, start1.about1, start1.theMethod, start1.args0, start1.below0, start1.atStart⟩
end Jvm.Pilot.@@N@@
