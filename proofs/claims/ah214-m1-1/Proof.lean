import JvmDerived
import JvmDerived.Pilot.@@N@@Statement
import JvmDerived.Pilot.@@N@@Code
set_option linter.unusedVariables false
set_option linter.unusedSimpArgs false

namespace Jvm.Pilot.@@N@@
open Jvm Jvm.ClassFile Sem Op Lib Jvm.Free Jvm.Stand Jvm.LawKit Jvm.RoadKit Bundle Jvm.Pilot.@@N@@.Jvm.D
/-- from every end that the second place reaches the first does -/
abbrev own_To (p : Program) (e : Env) (below : List Frame) (T' : State) (f' : JFrame) (T : State) (f : JFrame) : Prop := ∀ t, Steps p.tables e below (T'.setTop f') t → Steps p.tables e below (T.setTop f) t
/-- the places written so far, by a name -/
theorem own_fold {p : Program} {l : Launch} {e : Env} {R : Room} {s : State} {m : MethodId} {args : Array Value} {below : List Frame} {meth : Method} {c : Code} {T : State} {locs : List Loc} {cells slots n0 : Nat} (X : Stand p l e R s m args below meth c T locs cells slots) (N : Fr n0 locs) : ∃ L, Fr n0 L ∧ Stand p l e R s m args below meth c T L cells slots := ⟨locs, N, X⟩
def own_EL : List (String × Nat) := consts_1
theorem own_EW (Z : State) (a0 : Array Value) (hw : ∀ d ∈ tables_1, d.before a0 Z = true) : EW Z a0 own_EL := (EW.cons (hw _ (List.mem_of_getElem? (i := 15) rfl)) (by decide) (EW.cons (hw _ (List.mem_of_getElem? (i := 72) rfl)) (by decide) (EW.cons (hw _ (List.mem_of_getElem? (i := 34) rfl)) (by decide) (EW.cons (hw _ (List.mem_of_getElem? (i := 23) rfl)) (by decide) EW.nil))))
theorem own_base {p : Program} {l : Launch} {e : Env} {R : Room} {s : State} {m : MethodId} {args : Array Value} {below : List Frame} {meth : Method} {c : Code} {T : State} {locs : List Loc} {cells slots : Nat} (X : Stand p l e R s m args below meth c T locs cells slots) : Stand p l e R (s.setVm s.vm) m args below meth c T locs cells slots := X
theorem own_again {p : Program} {l : Launch} {e : Env} {R : Room} {s : State} {vm1 vm2 : Vm} {m : MethodId} {args : Array Value} {below : List Frame} {meth : Method} {c : Code} {T : State} {locs : List Loc} {cells slots : Nat} (X : Stand p l e R ((s.setVm vm1).setVm vm2) m args below meth c T locs cells slots) : Stand p l e R (s.setVm vm2) m args below meth c T locs cells slots := X
def own_code : Nat → Int32 := fun i => match i with | 0 => 400 | 1 => 400 | 2 => 400 | 3 => 400 | 4 => 400 | 5 => 400 | 6 => 400 | 7 => 400 | 8 => 403 | 9 => 400 | 10 => 403 | 11 => 403 | 12 => 403 | 13 => 403 | 14 => 400 | 15 => 405 | 16 => 413 | _ => 500
/-- the eighteen constants -/
def own_en (Z : State) (en : Nat → Addr) : Prop := (Sta Z Z.heap "com/example/issuer/issuer/protocol/ErrorCode" "VALIDATION_ERROR" "Lcom/example/issuer/issuer/protocol/ErrorCode;" (.ref (en 0)) ∧ Sta Z Z.heap "com/example/issuer/issuer/protocol/ErrorCode" "INVALID_PARAMETER_VALUE" "Lcom/example/issuer/issuer/protocol/ErrorCode;" (.ref (en 1)) ∧ Sta Z Z.heap "com/example/issuer/issuer/protocol/ErrorCode" "MALFORMED_POLICY_DOCUMENT" "Lcom/example/issuer/issuer/protocol/ErrorCode;" (.ref (en 2)) ∧ Sta Z Z.heap "com/example/issuer/issuer/protocol/ErrorCode" "PACKED_POLICY_TOO_LARGE" "Lcom/example/issuer/issuer/protocol/ErrorCode;" (.ref (en 3)) ∧ Sta Z Z.heap "com/example/issuer/issuer/protocol/ErrorCode" "MISSING_ACTION" "Lcom/example/issuer/issuer/protocol/ErrorCode;" (.ref (en 4)) ∧ Sta Z Z.heap "com/example/issuer/issuer/protocol/ErrorCode" "INVALID_ACTION" "Lcom/example/issuer/issuer/protocol/ErrorCode;" (.ref (en 5)) ∧ Sta Z Z.heap "com/example/issuer/issuer/protocol/ErrorCode" "INVALID_IDENTITY_TOKEN" "Lcom/example/issuer/issuer/protocol/ErrorCode;" (.ref (en 6)) ∧ Sta Z Z.heap "com/example/issuer/issuer/protocol/ErrorCode" "EXPIRED_TOKEN_EXCEPTION" "Lcom/example/issuer/issuer/protocol/ErrorCode;" (.ref (en 7)) ∧ Sta Z Z.heap "com/example/issuer/issuer/protocol/ErrorCode" "MISSING_AUTHENTICATION_TOKEN" "Lcom/example/issuer/issuer/protocol/ErrorCode;" (.ref (en 8)) ∧ Sta Z Z.heap "com/example/issuer/issuer/protocol/ErrorCode" "INCOMPLETE_SIGNATURE" "Lcom/example/issuer/issuer/protocol/ErrorCode;" (.ref (en 9)) ∧ Sta Z Z.heap "com/example/issuer/issuer/protocol/ErrorCode" "INVALID_CLIENT_TOKEN_ID" "Lcom/example/issuer/issuer/protocol/ErrorCode;" (.ref (en 10)) ∧ Sta Z Z.heap "com/example/issuer/issuer/protocol/ErrorCode" "EXPIRED_TOKEN" "Lcom/example/issuer/issuer/protocol/ErrorCode;" (.ref (en 11)) ∧ Sta Z Z.heap "com/example/issuer/issuer/protocol/ErrorCode" "SIGNATURE_DOES_NOT_MATCH" "Lcom/example/issuer/issuer/protocol/ErrorCode;" (.ref (en 12)) ∧ Sta Z Z.heap "com/example/issuer/issuer/protocol/ErrorCode" "ACCESS_DENIED" "Lcom/example/issuer/issuer/protocol/ErrorCode;" (.ref (en 13)) ∧ Sta Z Z.heap "com/example/issuer/issuer/protocol/ErrorCode" "INVALID_REQUEST" "Lcom/example/issuer/issuer/protocol/ErrorCode;" (.ref (en 14)) ∧ Sta Z Z.heap "com/example/issuer/issuer/protocol/ErrorCode" "METHOD_NOT_ALLOWED" "Lcom/example/issuer/issuer/protocol/ErrorCode;" (.ref (en 15)) ∧ Sta Z Z.heap "com/example/issuer/issuer/protocol/ErrorCode" "REQUEST_TOO_LARGE" "Lcom/example/issuer/issuer/protocol/ErrorCode;" (.ref (en 16)) ∧ Sta Z Z.heap "com/example/issuer/issuer/protocol/ErrorCode" "INTERNAL_FAILURE" "Lcom/example/issuer/issuer/protocol/ErrorCode;" (.ref (en 17))) ∧ ∀ i, i < 18 → Exa Z Z.heap (en i) "com/example/issuer/issuer/protocol/ErrorCode" ∧ Fld Z Z.heap (en i) "com/example/issuer/issuer/protocol/ErrorCode" "httpStatus" "I" (.int (own_code i))
theorem own_d1_0 : decode method_2_code 0 = .ok (.iload_n 0, 1) := by decide +kernel
theorem own_d1_1 : decode method_2_code 1 = .ok (.ifCond .ne 7, 3) := by decide +kernel
theorem own_d1_4 : decode method_2_code 4 = .ok (.getstatic 7, 3) := by decide +kernel
theorem own_d1_7 : decode method_2_code 7 = .ok (.areturn, 1) := by decide +kernel
theorem own_d1_8 : decode method_2_code 8 = .ok (.iload_n 0, 1) := by decide +kernel
theorem own_d1_9 : decode method_2_code 9 = .ok (.iconst 1, 1) := by decide +kernel
theorem own_d1_10 : decode method_2_code 10 = .ok (.if_icmp .ne 7, 3) := by decide +kernel
theorem own_d1_13 : decode method_2_code 13 = .ok (.getstatic 13, 3) := by decide +kernel
theorem own_d1_16 : decode method_2_code 16 = .ok (.areturn, 1) := by decide +kernel
theorem own_d1_17 : decode method_2_code 17 = .ok (.iload_n 0, 1) := by decide +kernel
theorem own_d1_18 : decode method_2_code 18 = .ok (.iconst 2, 1) := by decide +kernel
theorem own_d1_19 : decode method_2_code 19 = .ok (.if_icmp .ne 7, 3) := by decide +kernel
theorem own_d1_22 : decode method_2_code 22 = .ok (.getstatic 16, 3) := by decide +kernel
theorem own_d1_25 : decode method_2_code 25 = .ok (.areturn, 1) := by decide +kernel
theorem own_d1_26 : decode method_2_code 26 = .ok (.iload_n 0, 1) := by decide +kernel
theorem own_d1_27 : decode method_2_code 27 = .ok (.iconst 3, 1) := by decide +kernel
theorem own_d1_28 : decode method_2_code 28 = .ok (.if_icmp .ne 7, 3) := by decide +kernel
theorem own_d1_31 : decode method_2_code 31 = .ok (.getstatic 19, 3) := by decide +kernel
theorem own_d1_34 : decode method_2_code 34 = .ok (.areturn, 1) := by decide +kernel
theorem own_d1_35 : decode method_2_code 35 = .ok (.iload_n 0, 1) := by decide +kernel
theorem own_d1_36 : decode method_2_code 36 = .ok (.iconst 4, 1) := by decide +kernel
theorem own_d1_37 : decode method_2_code 37 = .ok (.if_icmp .ne 7, 3) := by decide +kernel
theorem own_d1_40 : decode method_2_code 40 = .ok (.getstatic 22, 3) := by decide +kernel
theorem own_d1_43 : decode method_2_code 43 = .ok (.areturn, 1) := by decide +kernel
theorem own_d1_44 : decode method_2_code 44 = .ok (.iload_n 0, 1) := by decide +kernel
theorem own_d1_45 : decode method_2_code 45 = .ok (.iconst 5, 1) := by decide +kernel
theorem own_d1_46 : decode method_2_code 46 = .ok (.if_icmp .ne 7, 3) := by decide +kernel
theorem own_d1_49 : decode method_2_code 49 = .ok (.getstatic 25, 3) := by decide +kernel
theorem own_d1_52 : decode method_2_code 52 = .ok (.areturn, 1) := by decide +kernel
theorem own_d1_53 : decode method_2_code 53 = .ok (.iload_n 0, 1) := by decide +kernel
theorem own_d1_54 : decode method_2_code 54 = .ok (.bipush 6, 2) := by decide +kernel
theorem own_d1_56 : decode method_2_code 56 = .ok (.if_icmp .ne 7, 3) := by decide +kernel
theorem own_d1_59 : decode method_2_code 59 = .ok (.getstatic 28, 3) := by decide +kernel
theorem own_d1_62 : decode method_2_code 62 = .ok (.areturn, 1) := by decide +kernel
theorem own_d1_63 : decode method_2_code 63 = .ok (.iload_n 0, 1) := by decide +kernel
theorem own_d1_64 : decode method_2_code 64 = .ok (.bipush 7, 2) := by decide +kernel
theorem own_d1_66 : decode method_2_code 66 = .ok (.if_icmp .ne 7, 3) := by decide +kernel
theorem own_d1_69 : decode method_2_code 69 = .ok (.getstatic 31, 3) := by decide +kernel
theorem own_d1_72 : decode method_2_code 72 = .ok (.areturn, 1) := by decide +kernel
theorem own_d1_73 : decode method_2_code 73 = .ok (.iload_n 0, 1) := by decide +kernel
theorem own_d1_74 : decode method_2_code 74 = .ok (.bipush 8, 2) := by decide +kernel
theorem own_d1_76 : decode method_2_code 76 = .ok (.if_icmp .ne 7, 3) := by decide +kernel
theorem own_d1_79 : decode method_2_code 79 = .ok (.getstatic 34, 3) := by decide +kernel
theorem own_d1_82 : decode method_2_code 82 = .ok (.areturn, 1) := by decide +kernel
theorem own_d1_83 : decode method_2_code 83 = .ok (.iload_n 0, 1) := by decide +kernel
theorem own_d1_84 : decode method_2_code 84 = .ok (.bipush 9, 2) := by decide +kernel
theorem own_d1_86 : decode method_2_code 86 = .ok (.if_icmp .ne 7, 3) := by decide +kernel
theorem own_d1_89 : decode method_2_code 89 = .ok (.getstatic 37, 3) := by decide +kernel
theorem own_d1_92 : decode method_2_code 92 = .ok (.areturn, 1) := by decide +kernel
theorem own_d1_93 : decode method_2_code 93 = .ok (.iload_n 0, 1) := by decide +kernel
theorem own_d1_94 : decode method_2_code 94 = .ok (.bipush 10, 2) := by decide +kernel
theorem own_d1_96 : decode method_2_code 96 = .ok (.if_icmp .ne 7, 3) := by decide +kernel
theorem own_d1_99 : decode method_2_code 99 = .ok (.getstatic 40, 3) := by decide +kernel
theorem own_d1_102 : decode method_2_code 102 = .ok (.areturn, 1) := by decide +kernel
theorem own_d1_103 : decode method_2_code 103 = .ok (.iload_n 0, 1) := by decide +kernel
theorem own_d1_104 : decode method_2_code 104 = .ok (.bipush 11, 2) := by decide +kernel
theorem own_d1_106 : decode method_2_code 106 = .ok (.if_icmp .ne 7, 3) := by decide +kernel
theorem own_d1_109 : decode method_2_code 109 = .ok (.getstatic 43, 3) := by decide +kernel
theorem own_d1_112 : decode method_2_code 112 = .ok (.areturn, 1) := by decide +kernel
theorem own_d1_113 : decode method_2_code 113 = .ok (.iload_n 0, 1) := by decide +kernel
theorem own_d1_114 : decode method_2_code 114 = .ok (.bipush 12, 2) := by decide +kernel
theorem own_d1_116 : decode method_2_code 116 = .ok (.if_icmp .ne 7, 3) := by decide +kernel
theorem own_d1_119 : decode method_2_code 119 = .ok (.getstatic 46, 3) := by decide +kernel
theorem own_d1_122 : decode method_2_code 122 = .ok (.areturn, 1) := by decide +kernel
theorem own_d1_123 : decode method_2_code 123 = .ok (.iload_n 0, 1) := by decide +kernel
theorem own_d1_124 : decode method_2_code 124 = .ok (.bipush 13, 2) := by decide +kernel
theorem own_d1_126 : decode method_2_code 126 = .ok (.if_icmp .ne 7, 3) := by decide +kernel
theorem own_d1_129 : decode method_2_code 129 = .ok (.getstatic 49, 3) := by decide +kernel
theorem own_d1_132 : decode method_2_code 132 = .ok (.areturn, 1) := by decide +kernel
theorem own_d1_133 : decode method_2_code 133 = .ok (.iload_n 0, 1) := by decide +kernel
theorem own_d1_134 : decode method_2_code 134 = .ok (.bipush 14, 2) := by decide +kernel
theorem own_d1_136 : decode method_2_code 136 = .ok (.if_icmp .ne 7, 3) := by decide +kernel
theorem own_d1_139 : decode method_2_code 139 = .ok (.getstatic 52, 3) := by decide +kernel
theorem own_d1_142 : decode method_2_code 142 = .ok (.areturn, 1) := by decide +kernel
theorem own_d1_143 : decode method_2_code 143 = .ok (.iload_n 0, 1) := by decide +kernel
theorem own_d1_144 : decode method_2_code 144 = .ok (.bipush 15, 2) := by decide +kernel
theorem own_d1_146 : decode method_2_code 146 = .ok (.if_icmp .ne 7, 3) := by decide +kernel
theorem own_d1_149 : decode method_2_code 149 = .ok (.getstatic 55, 3) := by decide +kernel
theorem own_d1_152 : decode method_2_code 152 = .ok (.areturn, 1) := by decide +kernel
theorem own_d1_153 : decode method_2_code 153 = .ok (.iload_n 0, 1) := by decide +kernel
theorem own_d1_154 : decode method_2_code 154 = .ok (.bipush 16, 2) := by decide +kernel
theorem own_d1_156 : decode method_2_code 156 = .ok (.if_icmp .ne 7, 3) := by decide +kernel
theorem own_d1_159 : decode method_2_code 159 = .ok (.getstatic 58, 3) := by decide +kernel
theorem own_d1_162 : decode method_2_code 162 = .ok (.areturn, 1) := by decide +kernel
theorem own_d1_163 : decode method_2_code 163 = .ok (.getstatic 61, 3) := by decide +kernel
theorem own_d1_166 : decode method_2_code 166 = .ok (.areturn, 1) := by decide +kernel
theorem own_pn1 : plainName "com/example/issuer/issuer/protocol/ErrorCodeGetTypePinLaw" = true := by first | (simp [plainName, overriddenIn]; done) | decide +kernel
theorem own_ef1 (m : MethodId) (x0 : Int32) : entryFrame m #[(.int x0)] 1 = mkF m 0 #[.val (.int x0)] [] := by first | (simp [entryFrame, mkF, argsToLocals, Value.category]; done) | rfl
def own_pick (en : Nat → Addr) (p0 : Int32) : Addr := (if p0 = (0 : Int32) then (en 0) else (if p0 = (1 : Int32) then (en 1) else (if p0 = (2 : Int32) then (en 2) else (if p0 = (3 : Int32) then (en 3) else (if p0 = (4 : Int32) then (en 4) else (if p0 = (5 : Int32) then (en 5) else (if p0 = (6 : Int32) then (en 6) else (if p0 = (7 : Int32) then (en 7) else (if p0 = (8 : Int32) then (en 8) else (if p0 = (9 : Int32) then (en 9) else (if p0 = (10 : Int32) then (en 10) else (if p0 = (11 : Int32) then (en 11) else (if p0 = (12 : Int32) then (en 12) else (if p0 = (13 : Int32) then (en 13) else (if p0 = (14 : Int32) then (en 14) else (if p0 = (15 : Int32) then (en 15) else (if p0 = (16 : Int32) then (en 16) else (en 17))))))))))))))))))
def Q1 (Z : State) (p0 : Int32) (en : Nat → Addr) (h0 : Heap) (n0 : Nat) (v : Option Value) (h : Heap) (L : List Loc) : Prop := v = some (.ref (own_pick en p0)) ∧ Fr n0 L ∧ h = h0
set_option maxRecDepth 65536 in
set_option maxHeartbeats 40000000 in
theorem rm1 (l : Launch) (Z : State) (a0 : Array Value) (hw : ∀ d ∈ tables_1, d.before a0 Z = true) (ws : List Jvm.Cond) (p0 : Int32) (en : Nat → Addr) (h0 : Heap) (n0 : Nat) (Z0 : n0 ≤ h0.size) (HE : own_en Z en) (O0 : Old Z n0 h0) :
    MetFree l (⟨"com/example/issuer/issuer/protocol/ErrorCodeGetTypePinLaw", "pick", "(I)Lcom/example/issuer/issuer/protocol/ErrorCode;"⟩ : MethodName) (head1 (Jvm.Cond.code (⟨"com/example/issuer/issuer/protocol/ErrorCodeGetTypePinLaw", "pick", "(I)Lcom/example/issuer/issuer/protocol/ErrorCode;"⟩ : MethodName) method_2_code 1 (some (.object "com/example/issuer/issuer/protocol/ErrorCode")) :: ws) ({ frames := 0, cells := 0, slots := 0, locals := 0 } : Room)) (fun a U => a = #[(.int p0)] ∧ Z.Warmed39 U.vm ∧ U.heap = h0) (fun _ _ _ _ _ => True) (fun _ U o U' => ∃ v L, o = .returned v ∧ Q1 Z p0 en h0 n0 v U'.heap L ∧ FrameEnd U o U' L ({ frames := 0, cells := 0, slots := 0, locals := 0 } : Room).cells ({ frames := 0, cells := 0, slots := 0, locals := 0 } : Room).slots) := by
  refine MetFree.of_bodySF (plainFor_of_name own_pn1) hisR ?_
  intro p e s m args below meth c s₁ Bd hml0 hP hK
  obtain ⟨rfl, hZ, hh⟩ := hP
  have hx := Bd.exec
  have hby := Bd.bytes
  have hml : c.maxLocals = 1 := hml0
  have hown : s.vm.findClass "com/example/issuer/issuer/protocol/ErrorCodeGetTypePinLaw" = some m.cls := findClass_of_methodNamed Bd.named
  have hnm := (name_of_methodNamed Bd.named Bd.method).1
  have X0 : Stand p l e ({ frames := 0, cells := 0, slots := 0, locals := 0 } : Room) s m #[(.int p0)] below meth c s₁ [] 0 0 := Stand.of_body Bd
  have e0 : s₁.heap = h0 := by rw [← hh, Bd.state]; rfl
  have N0 := Fr.nil n0
  have k0 : own_To p e below s₁ (mkF m 0 #[.val (.int p0)] []) s₁ (entryFrame m #[(.int p0)] 1) := fun t k => castTop (own_ef1 m p0) k
  have ki : own_To p e below s₁ (mkF m 0 #[.val (.int p0)] []) s₁ (mkF m 0 #[.val (.int p0)] []) := fun t q => q
  have k1 : own_To p e below s₁ (mkF m 1 #[.val (.int p0)] [(.int p0)]) s₁ (mkF m 0 #[.val (.int p0)] []) := fun t q => ki t (by
    refine XS.iloadN X0.here hx rfl (hb hby own_d1_0) rfl ?_
    show Steps p.tables e below (s₁.setTop (mkF m 1 #[.val (.int p0)] [(.int p0)])) _
    exact q)
  by_cases hc2 : p0 = (0 : Int32)
  ·
    obtain ⟨T3, X3, e3, st3⟩ := getS2 X0 hx hZ hown (host := "") (Or.inl (hw _ (List.mem_of_getElem? (i := 5) rfl))) Via.refl e0 (HE.1.1.ext O0.2) (g := (mkF m 4 #[.val (.int p0)] [])) rfl (hb hby own_d1_4)
    have k4 : own_To p e below T3 (mkF m 7 #[.val (.int p0)] [(.ref (en 0))]) s₁ (mkF m 0 #[.val (.int p0)] []) := fun t q => k1 t (by
      refine XS.ifNo X0.here hx rfl (hb hby own_d1_1) rfl ((if0 _ _).trans (teq hc2).2) ?_
      show Steps p.tables e below (s₁.setTop (mkF m 4 #[.val (.int p0)] [])) _
      refine st3 _ ?_
      show Steps p.tables e below (T3.setTop (mkF m 7 #[.val (.int p0)] [(.ref (en 0))])) _
      exact q)
    obtain ⟨fs, hr, hrun, hended, hW, hsame⟩ := X3.leave (v := some (.ref (en 0))) (fun h => by rw [Bd.returns] at h; cases h)
    refine ⟨_, _, k0 _ (k4 _ ?_), hrun, hended, _, _, rfl, ?_, ⟨_, rfl⟩, hW, hsame.mono (by decide) (by decide)⟩
    · show Steps p.tables e below (T3.setTop (mkF m 7 #[.val (.int p0)] [(.ref (en 0))])) _
      exact retOut X3 hx Bd.returns rfl (Or.inr (Or.inr (Or.inr (Or.inr ⟨rfl, rfl, rfl⟩)))) (hb hby own_d1_7) hr
    · show Q1 Z p0 en h0 n0 _ T3.heap _
      rw [e3]
      exact ⟨by rw [own_pick, if_pos hc2], N0, rfl⟩
  ·
    have k5 : own_To p e below s₁ (mkF m 10 #[.val (.int p0)] [(.int (1 : Int32)), (.int p0)]) s₁ (mkF m 0 #[.val (.int p0)] []) := fun t q => k1 t (by
      refine XS.ifYes X0.here hx rfl (pc0 := 1) (pc' := 8) rfl (hb hby own_d1_1) rfl ((if0 _ _).trans (feq hc2).2) (by decide) (by decide) ?_
      show Steps p.tables e below (s₁.setTop (mkF m 8 #[.val (.int p0)] [])) _
      refine XS.iloadN X0.here hx rfl (hb hby own_d1_8) rfl ?_
      show Steps p.tables e below (s₁.setTop (mkF m 9 #[.val (.int p0)] [(.int p0)])) _
      refine XS.iconst X0.here hx rfl (hb hby own_d1_9) ?_
      show Steps p.tables e below (s₁.setTop (mkF m 10 #[.val (.int p0)] [(.int (1 : Int32)), (.int p0)])) _
      exact q)
    by_cases hc6 : p0 = (1 : Int32)
    ·
      obtain ⟨T7, X7, e7, st7⟩ := getS2 X0 hx hZ hown (host := "") (Or.inl (hw _ (List.mem_of_getElem? (i := 48) rfl))) Via.refl e0 (HE.1.2.1.ext O0.2) (g := (mkF m 13 #[.val (.int p0)] [])) rfl (hb hby own_d1_13)
      have k8 : own_To p e below T7 (mkF m 16 #[.val (.int p0)] [(.ref (en 1))]) s₁ (mkF m 0 #[.val (.int p0)] []) := fun t q => k5 t (by
        refine XS.icmpNo X0.here hx rfl (hb hby own_d1_10) rfl (teq hc6).2 ?_
        show Steps p.tables e below (s₁.setTop (mkF m 13 #[.val (.int p0)] [])) _
        refine st7 _ ?_
        show Steps p.tables e below (T7.setTop (mkF m 16 #[.val (.int p0)] [(.ref (en 1))])) _
        exact q)
      obtain ⟨fs, hr, hrun, hended, hW, hsame⟩ := X7.leave (v := some (.ref (en 1))) (fun h => by rw [Bd.returns] at h; cases h)
      refine ⟨_, _, k0 _ (k8 _ ?_), hrun, hended, _, _, rfl, ?_, ⟨_, rfl⟩, hW, hsame.mono (by decide) (by decide)⟩
      · show Steps p.tables e below (T7.setTop (mkF m 16 #[.val (.int p0)] [(.ref (en 1))])) _
        exact retOut X7 hx Bd.returns rfl (Or.inr (Or.inr (Or.inr (Or.inr ⟨rfl, rfl, rfl⟩)))) (hb hby own_d1_16) hr
      · show Q1 Z p0 en h0 n0 _ T7.heap _
        rw [e7]
        exact ⟨by rw [own_pick, if_neg hc2, if_pos hc6], N0, rfl⟩
    ·
      have k9 : own_To p e below s₁ (mkF m 19 #[.val (.int p0)] [(.int (2 : Int32)), (.int p0)]) s₁ (mkF m 0 #[.val (.int p0)] []) := fun t q => k5 t (by
        refine XS.icmpYes X0.here hx rfl (pc0 := 10) (pc' := 17) rfl (hb hby own_d1_10) rfl (feq hc6).2 (by decide) (by decide) ?_
        show Steps p.tables e below (s₁.setTop (mkF m 17 #[.val (.int p0)] [])) _
        refine XS.iloadN X0.here hx rfl (hb hby own_d1_17) rfl ?_
        show Steps p.tables e below (s₁.setTop (mkF m 18 #[.val (.int p0)] [(.int p0)])) _
        refine XS.iconst X0.here hx rfl (hb hby own_d1_18) ?_
        show Steps p.tables e below (s₁.setTop (mkF m 19 #[.val (.int p0)] [(.int (2 : Int32)), (.int p0)])) _
        exact q)
      by_cases hc10 : p0 = (2 : Int32)
      ·
        obtain ⟨T11, X11, e11, st11⟩ := getS2 X0 hx hZ hown (host := "") (Or.inl (hw _ (List.mem_of_getElem? (i := 46) rfl))) Via.refl e0 (HE.1.2.2.1.ext O0.2) (g := (mkF m 22 #[.val (.int p0)] [])) rfl (hb hby own_d1_22)
        have k12 : own_To p e below T11 (mkF m 25 #[.val (.int p0)] [(.ref (en 2))]) s₁ (mkF m 0 #[.val (.int p0)] []) := fun t q => k9 t (by
          refine XS.icmpNo X0.here hx rfl (hb hby own_d1_19) rfl (teq hc10).2 ?_
          show Steps p.tables e below (s₁.setTop (mkF m 22 #[.val (.int p0)] [])) _
          refine st11 _ ?_
          show Steps p.tables e below (T11.setTop (mkF m 25 #[.val (.int p0)] [(.ref (en 2))])) _
          exact q)
        obtain ⟨fs, hr, hrun, hended, hW, hsame⟩ := X11.leave (v := some (.ref (en 2))) (fun h => by rw [Bd.returns] at h; cases h)
        refine ⟨_, _, k0 _ (k12 _ ?_), hrun, hended, _, _, rfl, ?_, ⟨_, rfl⟩, hW, hsame.mono (by decide) (by decide)⟩
        · show Steps p.tables e below (T11.setTop (mkF m 25 #[.val (.int p0)] [(.ref (en 2))])) _
          exact retOut X11 hx Bd.returns rfl (Or.inr (Or.inr (Or.inr (Or.inr ⟨rfl, rfl, rfl⟩)))) (hb hby own_d1_25) hr
        · show Q1 Z p0 en h0 n0 _ T11.heap _
          rw [e11]
          exact ⟨by rw [own_pick, if_neg hc2, if_neg hc6, if_pos hc10], N0, rfl⟩
      ·
        have k13 : own_To p e below s₁ (mkF m 28 #[.val (.int p0)] [(.int (3 : Int32)), (.int p0)]) s₁ (mkF m 0 #[.val (.int p0)] []) := fun t q => k9 t (by
          refine XS.icmpYes X0.here hx rfl (pc0 := 19) (pc' := 26) rfl (hb hby own_d1_19) rfl (feq hc10).2 (by decide) (by decide) ?_
          show Steps p.tables e below (s₁.setTop (mkF m 26 #[.val (.int p0)] [])) _
          refine XS.iloadN X0.here hx rfl (hb hby own_d1_26) rfl ?_
          show Steps p.tables e below (s₁.setTop (mkF m 27 #[.val (.int p0)] [(.int p0)])) _
          refine XS.iconst X0.here hx rfl (hb hby own_d1_27) ?_
          show Steps p.tables e below (s₁.setTop (mkF m 28 #[.val (.int p0)] [(.int (3 : Int32)), (.int p0)])) _
          exact q)
        by_cases hc14 : p0 = (3 : Int32)
        ·
          obtain ⟨T15, X15, e15, st15⟩ := getS2 X0 hx hZ hown (host := "") (Or.inl (hw _ (List.mem_of_getElem? (i := 44) rfl))) Via.refl e0 (HE.1.2.2.2.1.ext O0.2) (g := (mkF m 31 #[.val (.int p0)] [])) rfl (hb hby own_d1_31)
          have k16 : own_To p e below T15 (mkF m 34 #[.val (.int p0)] [(.ref (en 3))]) s₁ (mkF m 0 #[.val (.int p0)] []) := fun t q => k13 t (by
            refine XS.icmpNo X0.here hx rfl (hb hby own_d1_28) rfl (teq hc14).2 ?_
            show Steps p.tables e below (s₁.setTop (mkF m 31 #[.val (.int p0)] [])) _
            refine st15 _ ?_
            show Steps p.tables e below (T15.setTop (mkF m 34 #[.val (.int p0)] [(.ref (en 3))])) _
            exact q)
          obtain ⟨fs, hr, hrun, hended, hW, hsame⟩ := X15.leave (v := some (.ref (en 3))) (fun h => by rw [Bd.returns] at h; cases h)
          refine ⟨_, _, k0 _ (k16 _ ?_), hrun, hended, _, _, rfl, ?_, ⟨_, rfl⟩, hW, hsame.mono (by decide) (by decide)⟩
          · show Steps p.tables e below (T15.setTop (mkF m 34 #[.val (.int p0)] [(.ref (en 3))])) _
            exact retOut X15 hx Bd.returns rfl (Or.inr (Or.inr (Or.inr (Or.inr ⟨rfl, rfl, rfl⟩)))) (hb hby own_d1_34) hr
          · show Q1 Z p0 en h0 n0 _ T15.heap _
            rw [e15]
            exact ⟨by rw [own_pick, if_neg hc2, if_neg hc6, if_neg hc10, if_pos hc14], N0, rfl⟩
        ·
          have k17 : own_To p e below s₁ (mkF m 37 #[.val (.int p0)] [(.int (4 : Int32)), (.int p0)]) s₁ (mkF m 0 #[.val (.int p0)] []) := fun t q => k13 t (by
            refine XS.icmpYes X0.here hx rfl (pc0 := 28) (pc' := 35) rfl (hb hby own_d1_28) rfl (feq hc14).2 (by decide) (by decide) ?_
            show Steps p.tables e below (s₁.setTop (mkF m 35 #[.val (.int p0)] [])) _
            refine XS.iloadN X0.here hx rfl (hb hby own_d1_35) rfl ?_
            show Steps p.tables e below (s₁.setTop (mkF m 36 #[.val (.int p0)] [(.int p0)])) _
            refine XS.iconst X0.here hx rfl (hb hby own_d1_36) ?_
            show Steps p.tables e below (s₁.setTop (mkF m 37 #[.val (.int p0)] [(.int (4 : Int32)), (.int p0)])) _
            exact q)
          by_cases hc18 : p0 = (4 : Int32)
          ·
            obtain ⟨T19, X19, e19, st19⟩ := getS2 X0 hx hZ hown (host := "") (Or.inl (hw _ (List.mem_of_getElem? (i := 54) rfl))) Via.refl e0 (HE.1.2.2.2.2.1.ext O0.2) (g := (mkF m 40 #[.val (.int p0)] [])) rfl (hb hby own_d1_40)
            have k20 : own_To p e below T19 (mkF m 43 #[.val (.int p0)] [(.ref (en 4))]) s₁ (mkF m 0 #[.val (.int p0)] []) := fun t q => k17 t (by
              refine XS.icmpNo X0.here hx rfl (hb hby own_d1_37) rfl (teq hc18).2 ?_
              show Steps p.tables e below (s₁.setTop (mkF m 40 #[.val (.int p0)] [])) _
              refine st19 _ ?_
              show Steps p.tables e below (T19.setTop (mkF m 43 #[.val (.int p0)] [(.ref (en 4))])) _
              exact q)
            obtain ⟨fs, hr, hrun, hended, hW, hsame⟩ := X19.leave (v := some (.ref (en 4))) (fun h => by rw [Bd.returns] at h; cases h)
            refine ⟨_, _, k0 _ (k20 _ ?_), hrun, hended, _, _, rfl, ?_, ⟨_, rfl⟩, hW, hsame.mono (by decide) (by decide)⟩
            · show Steps p.tables e below (T19.setTop (mkF m 43 #[.val (.int p0)] [(.ref (en 4))])) _
              exact retOut X19 hx Bd.returns rfl (Or.inr (Or.inr (Or.inr (Or.inr ⟨rfl, rfl, rfl⟩)))) (hb hby own_d1_43) hr
            · show Q1 Z p0 en h0 n0 _ T19.heap _
              rw [e19]
              exact ⟨by rw [own_pick, if_neg hc2, if_neg hc6, if_neg hc10, if_neg hc14, if_pos hc18], N0, rfl⟩
          ·
            have k21 : own_To p e below s₁ (mkF m 46 #[.val (.int p0)] [(.int (5 : Int32)), (.int p0)]) s₁ (mkF m 0 #[.val (.int p0)] []) := fun t q => k17 t (by
              refine XS.icmpYes X0.here hx rfl (pc0 := 37) (pc' := 44) rfl (hb hby own_d1_37) rfl (feq hc18).2 (by decide) (by decide) ?_
              show Steps p.tables e below (s₁.setTop (mkF m 44 #[.val (.int p0)] [])) _
              refine XS.iloadN X0.here hx rfl (hb hby own_d1_44) rfl ?_
              show Steps p.tables e below (s₁.setTop (mkF m 45 #[.val (.int p0)] [(.int p0)])) _
              refine XS.iconst X0.here hx rfl (hb hby own_d1_45) ?_
              show Steps p.tables e below (s₁.setTop (mkF m 46 #[.val (.int p0)] [(.int (5 : Int32)), (.int p0)])) _
              exact q)
            by_cases hc22 : p0 = (5 : Int32)
            ·
              obtain ⟨T23, X23, e23, st23⟩ := getS2 X0 hx hZ hown (host := "") (Or.inl (hw _ (List.mem_of_getElem? (i := 75) rfl))) Via.refl e0 (HE.1.2.2.2.2.2.1.ext O0.2) (g := (mkF m 49 #[.val (.int p0)] [])) rfl (hb hby own_d1_49)
              have k24 : own_To p e below T23 (mkF m 52 #[.val (.int p0)] [(.ref (en 5))]) s₁ (mkF m 0 #[.val (.int p0)] []) := fun t q => k21 t (by
                refine XS.icmpNo X0.here hx rfl (hb hby own_d1_46) rfl (teq hc22).2 ?_
                show Steps p.tables e below (s₁.setTop (mkF m 49 #[.val (.int p0)] [])) _
                refine st23 _ ?_
                show Steps p.tables e below (T23.setTop (mkF m 52 #[.val (.int p0)] [(.ref (en 5))])) _
                exact q)
              obtain ⟨fs, hr, hrun, hended, hW, hsame⟩ := X23.leave (v := some (.ref (en 5))) (fun h => by rw [Bd.returns] at h; cases h)
              refine ⟨_, _, k0 _ (k24 _ ?_), hrun, hended, _, _, rfl, ?_, ⟨_, rfl⟩, hW, hsame.mono (by decide) (by decide)⟩
              · show Steps p.tables e below (T23.setTop (mkF m 52 #[.val (.int p0)] [(.ref (en 5))])) _
                exact retOut X23 hx Bd.returns rfl (Or.inr (Or.inr (Or.inr (Or.inr ⟨rfl, rfl, rfl⟩)))) (hb hby own_d1_52) hr
              · show Q1 Z p0 en h0 n0 _ T23.heap _
                rw [e23]
                exact ⟨by rw [own_pick, if_neg hc2, if_neg hc6, if_neg hc10, if_neg hc14, if_neg hc18, if_pos hc22], N0, rfl⟩
            ·
              have k25 : own_To p e below s₁ (mkF m 56 #[.val (.int p0)] [(.int (6 : Int32)), (.int p0)]) s₁ (mkF m 0 #[.val (.int p0)] []) := fun t q => k21 t (by
                refine XS.icmpYes X0.here hx rfl (pc0 := 46) (pc' := 53) rfl (hb hby own_d1_46) rfl (feq hc22).2 (by decide) (by decide) ?_
                show Steps p.tables e below (s₁.setTop (mkF m 53 #[.val (.int p0)] [])) _
                refine XS.iloadN X0.here hx rfl (hb hby own_d1_53) rfl ?_
                show Steps p.tables e below (s₁.setTop (mkF m 54 #[.val (.int p0)] [(.int p0)])) _
                refine XS.bipush X0.here hx rfl (hb hby own_d1_54) ?_
                show Steps p.tables e below (s₁.setTop (mkF m 56 #[.val (.int p0)] [(.int (6 : Int32)), (.int p0)])) _
                exact q)
              by_cases hc26 : p0 = (6 : Int32)
              ·
                obtain ⟨T27, X27, e27, st27⟩ := getS2 X0 hx hZ hown (host := "") (Or.inl (hw _ (List.mem_of_getElem? (i := 68) rfl))) Via.refl e0 (HE.1.2.2.2.2.2.2.1.ext O0.2) (g := (mkF m 59 #[.val (.int p0)] [])) rfl (hb hby own_d1_59)
                have k28 : own_To p e below T27 (mkF m 62 #[.val (.int p0)] [(.ref (en 6))]) s₁ (mkF m 0 #[.val (.int p0)] []) := fun t q => k25 t (by
                  refine XS.icmpNo X0.here hx rfl (hb hby own_d1_56) rfl (teq hc26).2 ?_
                  show Steps p.tables e below (s₁.setTop (mkF m 59 #[.val (.int p0)] [])) _
                  refine st27 _ ?_
                  show Steps p.tables e below (T27.setTop (mkF m 62 #[.val (.int p0)] [(.ref (en 6))])) _
                  exact q)
                obtain ⟨fs, hr, hrun, hended, hW, hsame⟩ := X27.leave (v := some (.ref (en 6))) (fun h => by rw [Bd.returns] at h; cases h)
                refine ⟨_, _, k0 _ (k28 _ ?_), hrun, hended, _, _, rfl, ?_, ⟨_, rfl⟩, hW, hsame.mono (by decide) (by decide)⟩
                · show Steps p.tables e below (T27.setTop (mkF m 62 #[.val (.int p0)] [(.ref (en 6))])) _
                  exact retOut X27 hx Bd.returns rfl (Or.inr (Or.inr (Or.inr (Or.inr ⟨rfl, rfl, rfl⟩)))) (hb hby own_d1_62) hr
                · show Q1 Z p0 en h0 n0 _ T27.heap _
                  rw [e27]
                  exact ⟨by rw [own_pick, if_neg hc2, if_neg hc6, if_neg hc10, if_neg hc14, if_neg hc18, if_neg hc22, if_pos hc26], N0, rfl⟩
              ·
                have k29 : own_To p e below s₁ (mkF m 66 #[.val (.int p0)] [(.int (7 : Int32)), (.int p0)]) s₁ (mkF m 0 #[.val (.int p0)] []) := fun t q => k25 t (by
                  refine XS.icmpYes X0.here hx rfl (pc0 := 56) (pc' := 63) rfl (hb hby own_d1_56) rfl (feq hc26).2 (by decide) (by decide) ?_
                  show Steps p.tables e below (s₁.setTop (mkF m 63 #[.val (.int p0)] [])) _
                  refine XS.iloadN X0.here hx rfl (hb hby own_d1_63) rfl ?_
                  show Steps p.tables e below (s₁.setTop (mkF m 64 #[.val (.int p0)] [(.int p0)])) _
                  refine XS.bipush X0.here hx rfl (hb hby own_d1_64) ?_
                  show Steps p.tables e below (s₁.setTop (mkF m 66 #[.val (.int p0)] [(.int (7 : Int32)), (.int p0)])) _
                  exact q)
                by_cases hc30 : p0 = (7 : Int32)
                ·
                  obtain ⟨T31, X31, e31, st31⟩ := getS2 X0 hx hZ hown (host := "") (Or.inl (hw _ (List.mem_of_getElem? (i := 50) rfl))) Via.refl e0 (HE.1.2.2.2.2.2.2.2.1.ext O0.2) (g := (mkF m 69 #[.val (.int p0)] [])) rfl (hb hby own_d1_69)
                  have k32 : own_To p e below T31 (mkF m 72 #[.val (.int p0)] [(.ref (en 7))]) s₁ (mkF m 0 #[.val (.int p0)] []) := fun t q => k29 t (by
                    refine XS.icmpNo X0.here hx rfl (hb hby own_d1_66) rfl (teq hc30).2 ?_
                    show Steps p.tables e below (s₁.setTop (mkF m 69 #[.val (.int p0)] [])) _
                    refine st31 _ ?_
                    show Steps p.tables e below (T31.setTop (mkF m 72 #[.val (.int p0)] [(.ref (en 7))])) _
                    exact q)
                  obtain ⟨fs, hr, hrun, hended, hW, hsame⟩ := X31.leave (v := some (.ref (en 7))) (fun h => by rw [Bd.returns] at h; cases h)
                  refine ⟨_, _, k0 _ (k32 _ ?_), hrun, hended, _, _, rfl, ?_, ⟨_, rfl⟩, hW, hsame.mono (by decide) (by decide)⟩
                  · show Steps p.tables e below (T31.setTop (mkF m 72 #[.val (.int p0)] [(.ref (en 7))])) _
                    exact retOut X31 hx Bd.returns rfl (Or.inr (Or.inr (Or.inr (Or.inr ⟨rfl, rfl, rfl⟩)))) (hb hby own_d1_72) hr
                  · show Q1 Z p0 en h0 n0 _ T31.heap _
                    rw [e31]
                    exact ⟨by rw [own_pick, if_neg hc2, if_neg hc6, if_neg hc10, if_neg hc14, if_neg hc18, if_neg hc22, if_neg hc26, if_pos hc30], N0, rfl⟩
                ·
                  have k33 : own_To p e below s₁ (mkF m 76 #[.val (.int p0)] [(.int (8 : Int32)), (.int p0)]) s₁ (mkF m 0 #[.val (.int p0)] []) := fun t q => k29 t (by
                    refine XS.icmpYes X0.here hx rfl (pc0 := 66) (pc' := 73) rfl (hb hby own_d1_66) rfl (feq hc30).2 (by decide) (by decide) ?_
                    show Steps p.tables e below (s₁.setTop (mkF m 73 #[.val (.int p0)] [])) _
                    refine XS.iloadN X0.here hx rfl (hb hby own_d1_73) rfl ?_
                    show Steps p.tables e below (s₁.setTop (mkF m 74 #[.val (.int p0)] [(.int p0)])) _
                    refine XS.bipush X0.here hx rfl (hb hby own_d1_74) ?_
                    show Steps p.tables e below (s₁.setTop (mkF m 76 #[.val (.int p0)] [(.int (8 : Int32)), (.int p0)])) _
                    exact q)
                  by_cases hc34 : p0 = (8 : Int32)
                  ·
                    obtain ⟨T35, X35, e35, st35⟩ := getS2 X0 hx hZ hown (host := "") (Or.inl (hw _ (List.mem_of_getElem? (i := 56) rfl))) Via.refl e0 (HE.1.2.2.2.2.2.2.2.2.1.ext O0.2) (g := (mkF m 79 #[.val (.int p0)] [])) rfl (hb hby own_d1_79)
                    have k36 : own_To p e below T35 (mkF m 82 #[.val (.int p0)] [(.ref (en 8))]) s₁ (mkF m 0 #[.val (.int p0)] []) := fun t q => k33 t (by
                      refine XS.icmpNo X0.here hx rfl (hb hby own_d1_76) rfl (teq hc34).2 ?_
                      show Steps p.tables e below (s₁.setTop (mkF m 79 #[.val (.int p0)] [])) _
                      refine st35 _ ?_
                      show Steps p.tables e below (T35.setTop (mkF m 82 #[.val (.int p0)] [(.ref (en 8))])) _
                      exact q)
                    obtain ⟨fs, hr, hrun, hended, hW, hsame⟩ := X35.leave (v := some (.ref (en 8))) (fun h => by rw [Bd.returns] at h; cases h)
                    refine ⟨_, _, k0 _ (k36 _ ?_), hrun, hended, _, _, rfl, ?_, ⟨_, rfl⟩, hW, hsame.mono (by decide) (by decide)⟩
                    · show Steps p.tables e below (T35.setTop (mkF m 82 #[.val (.int p0)] [(.ref (en 8))])) _
                      exact retOut X35 hx Bd.returns rfl (Or.inr (Or.inr (Or.inr (Or.inr ⟨rfl, rfl, rfl⟩)))) (hb hby own_d1_82) hr
                    · show Q1 Z p0 en h0 n0 _ T35.heap _
                      rw [e35]
                      exact ⟨by rw [own_pick, if_neg hc2, if_neg hc6, if_neg hc10, if_neg hc14, if_neg hc18, if_neg hc22, if_neg hc26, if_neg hc30, if_pos hc34], N0, rfl⟩
                  ·
                    have k37 : own_To p e below s₁ (mkF m 86 #[.val (.int p0)] [(.int (9 : Int32)), (.int p0)]) s₁ (mkF m 0 #[.val (.int p0)] []) := fun t q => k33 t (by
                      refine XS.icmpYes X0.here hx rfl (pc0 := 76) (pc' := 83) rfl (hb hby own_d1_76) rfl (feq hc34).2 (by decide) (by decide) ?_
                      show Steps p.tables e below (s₁.setTop (mkF m 83 #[.val (.int p0)] [])) _
                      refine XS.iloadN X0.here hx rfl (hb hby own_d1_83) rfl ?_
                      show Steps p.tables e below (s₁.setTop (mkF m 84 #[.val (.int p0)] [(.int p0)])) _
                      refine XS.bipush X0.here hx rfl (hb hby own_d1_84) ?_
                      show Steps p.tables e below (s₁.setTop (mkF m 86 #[.val (.int p0)] [(.int (9 : Int32)), (.int p0)])) _
                      exact q)
                    by_cases hc38 : p0 = (9 : Int32)
                    ·
                      obtain ⟨T39, X39, e39, st39⟩ := getS2 X0 hx hZ hown (host := "") (Or.inl (hw _ (List.mem_of_getElem? (i := 77) rfl))) Via.refl e0 (HE.1.2.2.2.2.2.2.2.2.2.1.ext O0.2) (g := (mkF m 89 #[.val (.int p0)] [])) rfl (hb hby own_d1_89)
                      have k40 : own_To p e below T39 (mkF m 92 #[.val (.int p0)] [(.ref (en 9))]) s₁ (mkF m 0 #[.val (.int p0)] []) := fun t q => k37 t (by
                        refine XS.icmpNo X0.here hx rfl (hb hby own_d1_86) rfl (teq hc38).2 ?_
                        show Steps p.tables e below (s₁.setTop (mkF m 89 #[.val (.int p0)] [])) _
                        refine st39 _ ?_
                        show Steps p.tables e below (T39.setTop (mkF m 92 #[.val (.int p0)] [(.ref (en 9))])) _
                        exact q)
                      obtain ⟨fs, hr, hrun, hended, hW, hsame⟩ := X39.leave (v := some (.ref (en 9))) (fun h => by rw [Bd.returns] at h; cases h)
                      refine ⟨_, _, k0 _ (k40 _ ?_), hrun, hended, _, _, rfl, ?_, ⟨_, rfl⟩, hW, hsame.mono (by decide) (by decide)⟩
                      · show Steps p.tables e below (T39.setTop (mkF m 92 #[.val (.int p0)] [(.ref (en 9))])) _
                        exact retOut X39 hx Bd.returns rfl (Or.inr (Or.inr (Or.inr (Or.inr ⟨rfl, rfl, rfl⟩)))) (hb hby own_d1_92) hr
                      · show Q1 Z p0 en h0 n0 _ T39.heap _
                        rw [e39]
                        exact ⟨by rw [own_pick, if_neg hc2, if_neg hc6, if_neg hc10, if_neg hc14, if_neg hc18, if_neg hc22, if_neg hc26, if_neg hc30, if_neg hc34, if_pos hc38], N0, rfl⟩
                    ·
                      have k41 : own_To p e below s₁ (mkF m 96 #[.val (.int p0)] [(.int (10 : Int32)), (.int p0)]) s₁ (mkF m 0 #[.val (.int p0)] []) := fun t q => k37 t (by
                        refine XS.icmpYes X0.here hx rfl (pc0 := 86) (pc' := 93) rfl (hb hby own_d1_86) rfl (feq hc38).2 (by decide) (by decide) ?_
                        show Steps p.tables e below (s₁.setTop (mkF m 93 #[.val (.int p0)] [])) _
                        refine XS.iloadN X0.here hx rfl (hb hby own_d1_93) rfl ?_
                        show Steps p.tables e below (s₁.setTop (mkF m 94 #[.val (.int p0)] [(.int p0)])) _
                        refine XS.bipush X0.here hx rfl (hb hby own_d1_94) ?_
                        show Steps p.tables e below (s₁.setTop (mkF m 96 #[.val (.int p0)] [(.int (10 : Int32)), (.int p0)])) _
                        exact q)
                      by_cases hc42 : p0 = (10 : Int32)
                      ·
                        obtain ⟨T43, X43, e43, st43⟩ := getS2 X0 hx hZ hown (host := "") (Or.inl (hw _ (List.mem_of_getElem? (i := 64) rfl))) Via.refl e0 (HE.1.2.2.2.2.2.2.2.2.2.2.1.ext O0.2) (g := (mkF m 99 #[.val (.int p0)] [])) rfl (hb hby own_d1_99)
                        have k44 : own_To p e below T43 (mkF m 102 #[.val (.int p0)] [(.ref (en 10))]) s₁ (mkF m 0 #[.val (.int p0)] []) := fun t q => k41 t (by
                          refine XS.icmpNo X0.here hx rfl (hb hby own_d1_96) rfl (teq hc42).2 ?_
                          show Steps p.tables e below (s₁.setTop (mkF m 99 #[.val (.int p0)] [])) _
                          refine st43 _ ?_
                          show Steps p.tables e below (T43.setTop (mkF m 102 #[.val (.int p0)] [(.ref (en 10))])) _
                          exact q)
                        obtain ⟨fs, hr, hrun, hended, hW, hsame⟩ := X43.leave (v := some (.ref (en 10))) (fun h => by rw [Bd.returns] at h; cases h)
                        refine ⟨_, _, k0 _ (k44 _ ?_), hrun, hended, _, _, rfl, ?_, ⟨_, rfl⟩, hW, hsame.mono (by decide) (by decide)⟩
                        · show Steps p.tables e below (T43.setTop (mkF m 102 #[.val (.int p0)] [(.ref (en 10))])) _
                          exact retOut X43 hx Bd.returns rfl (Or.inr (Or.inr (Or.inr (Or.inr ⟨rfl, rfl, rfl⟩)))) (hb hby own_d1_102) hr
                        · show Q1 Z p0 en h0 n0 _ T43.heap _
                          rw [e43]
                          exact ⟨by rw [own_pick, if_neg hc2, if_neg hc6, if_neg hc10, if_neg hc14, if_neg hc18, if_neg hc22, if_neg hc26, if_neg hc30, if_neg hc34, if_neg hc38, if_pos hc42], N0, rfl⟩
                      ·
                        have k45 : own_To p e below s₁ (mkF m 106 #[.val (.int p0)] [(.int (11 : Int32)), (.int p0)]) s₁ (mkF m 0 #[.val (.int p0)] []) := fun t q => k41 t (by
                          refine XS.icmpYes X0.here hx rfl (pc0 := 96) (pc' := 103) rfl (hb hby own_d1_96) rfl (feq hc42).2 (by decide) (by decide) ?_
                          show Steps p.tables e below (s₁.setTop (mkF m 103 #[.val (.int p0)] [])) _
                          refine XS.iloadN X0.here hx rfl (hb hby own_d1_103) rfl ?_
                          show Steps p.tables e below (s₁.setTop (mkF m 104 #[.val (.int p0)] [(.int p0)])) _
                          refine XS.bipush X0.here hx rfl (hb hby own_d1_104) ?_
                          show Steps p.tables e below (s₁.setTop (mkF m 106 #[.val (.int p0)] [(.int (11 : Int32)), (.int p0)])) _
                          exact q)
                        by_cases hc46 : p0 = (11 : Int32)
                        ·
                          obtain ⟨T47, X47, e47, st47⟩ := getS2 X0 hx hZ hown (host := "") (Or.inl (hw _ (List.mem_of_getElem? (i := 52) rfl))) Via.refl e0 (HE.1.2.2.2.2.2.2.2.2.2.2.2.1.ext O0.2) (g := (mkF m 109 #[.val (.int p0)] [])) rfl (hb hby own_d1_109)
                          have k48 : own_To p e below T47 (mkF m 112 #[.val (.int p0)] [(.ref (en 11))]) s₁ (mkF m 0 #[.val (.int p0)] []) := fun t q => k45 t (by
                            refine XS.icmpNo X0.here hx rfl (hb hby own_d1_106) rfl (teq hc46).2 ?_
                            show Steps p.tables e below (s₁.setTop (mkF m 109 #[.val (.int p0)] [])) _
                            refine st47 _ ?_
                            show Steps p.tables e below (T47.setTop (mkF m 112 #[.val (.int p0)] [(.ref (en 11))])) _
                            exact q)
                          obtain ⟨fs, hr, hrun, hended, hW, hsame⟩ := X47.leave (v := some (.ref (en 11))) (fun h => by rw [Bd.returns] at h; cases h)
                          refine ⟨_, _, k0 _ (k48 _ ?_), hrun, hended, _, _, rfl, ?_, ⟨_, rfl⟩, hW, hsame.mono (by decide) (by decide)⟩
                          · show Steps p.tables e below (T47.setTop (mkF m 112 #[.val (.int p0)] [(.ref (en 11))])) _
                            exact retOut X47 hx Bd.returns rfl (Or.inr (Or.inr (Or.inr (Or.inr ⟨rfl, rfl, rfl⟩)))) (hb hby own_d1_112) hr
                          · show Q1 Z p0 en h0 n0 _ T47.heap _
                            rw [e47]
                            exact ⟨by rw [own_pick, if_neg hc2, if_neg hc6, if_neg hc10, if_neg hc14, if_neg hc18, if_neg hc22, if_neg hc26, if_neg hc30, if_neg hc34, if_neg hc38, if_neg hc42, if_pos hc46], N0, rfl⟩
                        ·
                          have k49 : own_To p e below s₁ (mkF m 116 #[.val (.int p0)] [(.int (12 : Int32)), (.int p0)]) s₁ (mkF m 0 #[.val (.int p0)] []) := fun t q => k45 t (by
                            refine XS.icmpYes X0.here hx rfl (pc0 := 106) (pc' := 113) rfl (hb hby own_d1_106) rfl (feq hc46).2 (by decide) (by decide) ?_
                            show Steps p.tables e below (s₁.setTop (mkF m 113 #[.val (.int p0)] [])) _
                            refine XS.iloadN X0.here hx rfl (hb hby own_d1_113) rfl ?_
                            show Steps p.tables e below (s₁.setTop (mkF m 114 #[.val (.int p0)] [(.int p0)])) _
                            refine XS.bipush X0.here hx rfl (hb hby own_d1_114) ?_
                            show Steps p.tables e below (s₁.setTop (mkF m 116 #[.val (.int p0)] [(.int (12 : Int32)), (.int p0)])) _
                            exact q)
                          by_cases hc50 : p0 = (12 : Int32)
                          ·
                            obtain ⟨T51, X51, e51, st51⟩ := getS2 X0 hx hZ hown (host := "") (Or.inl (hw _ (List.mem_of_getElem? (i := 58) rfl))) Via.refl e0 (HE.1.2.2.2.2.2.2.2.2.2.2.2.2.1.ext O0.2) (g := (mkF m 119 #[.val (.int p0)] [])) rfl (hb hby own_d1_119)
                            have k52 : own_To p e below T51 (mkF m 122 #[.val (.int p0)] [(.ref (en 12))]) s₁ (mkF m 0 #[.val (.int p0)] []) := fun t q => k49 t (by
                              refine XS.icmpNo X0.here hx rfl (hb hby own_d1_116) rfl (teq hc50).2 ?_
                              show Steps p.tables e below (s₁.setTop (mkF m 119 #[.val (.int p0)] [])) _
                              refine st51 _ ?_
                              show Steps p.tables e below (T51.setTop (mkF m 122 #[.val (.int p0)] [(.ref (en 12))])) _
                              exact q)
                            obtain ⟨fs, hr, hrun, hended, hW, hsame⟩ := X51.leave (v := some (.ref (en 12))) (fun h => by rw [Bd.returns] at h; cases h)
                            refine ⟨_, _, k0 _ (k52 _ ?_), hrun, hended, _, _, rfl, ?_, ⟨_, rfl⟩, hW, hsame.mono (by decide) (by decide)⟩
                            · show Steps p.tables e below (T51.setTop (mkF m 122 #[.val (.int p0)] [(.ref (en 12))])) _
                              exact retOut X51 hx Bd.returns rfl (Or.inr (Or.inr (Or.inr (Or.inr ⟨rfl, rfl, rfl⟩)))) (hb hby own_d1_122) hr
                            · show Q1 Z p0 en h0 n0 _ T51.heap _
                              rw [e51]
                              exact ⟨by rw [own_pick, if_neg hc2, if_neg hc6, if_neg hc10, if_neg hc14, if_neg hc18, if_neg hc22, if_neg hc26, if_neg hc30, if_neg hc34, if_neg hc38, if_neg hc42, if_neg hc46, if_pos hc50], N0, rfl⟩
                          ·
                            have k53 : own_To p e below s₁ (mkF m 126 #[.val (.int p0)] [(.int (13 : Int32)), (.int p0)]) s₁ (mkF m 0 #[.val (.int p0)] []) := fun t q => k49 t (by
                              refine XS.icmpYes X0.here hx rfl (pc0 := 116) (pc' := 123) rfl (hb hby own_d1_116) rfl (feq hc50).2 (by decide) (by decide) ?_
                              show Steps p.tables e below (s₁.setTop (mkF m 123 #[.val (.int p0)] [])) _
                              refine XS.iloadN X0.here hx rfl (hb hby own_d1_123) rfl ?_
                              show Steps p.tables e below (s₁.setTop (mkF m 124 #[.val (.int p0)] [(.int p0)])) _
                              refine XS.bipush X0.here hx rfl (hb hby own_d1_124) ?_
                              show Steps p.tables e below (s₁.setTop (mkF m 126 #[.val (.int p0)] [(.int (13 : Int32)), (.int p0)])) _
                              exact q)
                            by_cases hc54 : p0 = (13 : Int32)
                            ·
                              obtain ⟨T55, X55, e55, st55⟩ := getS2 X0 hx hZ hown (host := "") (Or.inl (hw _ (List.mem_of_getElem? (i := 66) rfl))) Via.refl e0 (HE.1.2.2.2.2.2.2.2.2.2.2.2.2.2.1.ext O0.2) (g := (mkF m 129 #[.val (.int p0)] [])) rfl (hb hby own_d1_129)
                              have k56 : own_To p e below T55 (mkF m 132 #[.val (.int p0)] [(.ref (en 13))]) s₁ (mkF m 0 #[.val (.int p0)] []) := fun t q => k53 t (by
                                refine XS.icmpNo X0.here hx rfl (hb hby own_d1_126) rfl (teq hc54).2 ?_
                                show Steps p.tables e below (s₁.setTop (mkF m 129 #[.val (.int p0)] [])) _
                                refine st55 _ ?_
                                show Steps p.tables e below (T55.setTop (mkF m 132 #[.val (.int p0)] [(.ref (en 13))])) _
                                exact q)
                              obtain ⟨fs, hr, hrun, hended, hW, hsame⟩ := X55.leave (v := some (.ref (en 13))) (fun h => by rw [Bd.returns] at h; cases h)
                              refine ⟨_, _, k0 _ (k56 _ ?_), hrun, hended, _, _, rfl, ?_, ⟨_, rfl⟩, hW, hsame.mono (by decide) (by decide)⟩
                              · show Steps p.tables e below (T55.setTop (mkF m 132 #[.val (.int p0)] [(.ref (en 13))])) _
                                exact retOut X55 hx Bd.returns rfl (Or.inr (Or.inr (Or.inr (Or.inr ⟨rfl, rfl, rfl⟩)))) (hb hby own_d1_132) hr
                              · show Q1 Z p0 en h0 n0 _ T55.heap _
                                rw [e55]
                                exact ⟨by rw [own_pick, if_neg hc2, if_neg hc6, if_neg hc10, if_neg hc14, if_neg hc18, if_neg hc22, if_neg hc26, if_neg hc30, if_neg hc34, if_neg hc38, if_neg hc42, if_neg hc46, if_neg hc50, if_pos hc54], N0, rfl⟩
                            ·
                              have k57 : own_To p e below s₁ (mkF m 136 #[.val (.int p0)] [(.int (14 : Int32)), (.int p0)]) s₁ (mkF m 0 #[.val (.int p0)] []) := fun t q => k53 t (by
                                refine XS.icmpYes X0.here hx rfl (pc0 := 126) (pc' := 133) rfl (hb hby own_d1_126) rfl (feq hc54).2 (by decide) (by decide) ?_
                                show Steps p.tables e below (s₁.setTop (mkF m 133 #[.val (.int p0)] [])) _
                                refine XS.iloadN X0.here hx rfl (hb hby own_d1_133) rfl ?_
                                show Steps p.tables e below (s₁.setTop (mkF m 134 #[.val (.int p0)] [(.int p0)])) _
                                refine XS.bipush X0.here hx rfl (hb hby own_d1_134) ?_
                                show Steps p.tables e below (s₁.setTop (mkF m 136 #[.val (.int p0)] [(.int (14 : Int32)), (.int p0)])) _
                                exact q)
                              by_cases hc58 : p0 = (14 : Int32)
                              ·
                                obtain ⟨T59, X59, e59, st59⟩ := getS2 X0 hx hZ hown (host := "") (Or.inl (hw _ (List.mem_of_getElem? (i := 73) rfl))) Via.refl e0 (HE.1.2.2.2.2.2.2.2.2.2.2.2.2.2.2.1.ext O0.2) (g := (mkF m 139 #[.val (.int p0)] [])) rfl (hb hby own_d1_139)
                                have k60 : own_To p e below T59 (mkF m 142 #[.val (.int p0)] [(.ref (en 14))]) s₁ (mkF m 0 #[.val (.int p0)] []) := fun t q => k57 t (by
                                  refine XS.icmpNo X0.here hx rfl (hb hby own_d1_136) rfl (teq hc58).2 ?_
                                  show Steps p.tables e below (s₁.setTop (mkF m 139 #[.val (.int p0)] [])) _
                                  refine st59 _ ?_
                                  show Steps p.tables e below (T59.setTop (mkF m 142 #[.val (.int p0)] [(.ref (en 14))])) _
                                  exact q)
                                obtain ⟨fs, hr, hrun, hended, hW, hsame⟩ := X59.leave (v := some (.ref (en 14))) (fun h => by rw [Bd.returns] at h; cases h)
                                refine ⟨_, _, k0 _ (k60 _ ?_), hrun, hended, _, _, rfl, ?_, ⟨_, rfl⟩, hW, hsame.mono (by decide) (by decide)⟩
                                · show Steps p.tables e below (T59.setTop (mkF m 142 #[.val (.int p0)] [(.ref (en 14))])) _
                                  exact retOut X59 hx Bd.returns rfl (Or.inr (Or.inr (Or.inr (Or.inr ⟨rfl, rfl, rfl⟩)))) (hb hby own_d1_142) hr
                                · show Q1 Z p0 en h0 n0 _ T59.heap _
                                  rw [e59]
                                  exact ⟨by rw [own_pick, if_neg hc2, if_neg hc6, if_neg hc10, if_neg hc14, if_neg hc18, if_neg hc22, if_neg hc26, if_neg hc30, if_neg hc34, if_neg hc38, if_neg hc42, if_neg hc46, if_neg hc50, if_neg hc54, if_pos hc58], N0, rfl⟩
                              ·
                                have k61 : own_To p e below s₁ (mkF m 146 #[.val (.int p0)] [(.int (15 : Int32)), (.int p0)]) s₁ (mkF m 0 #[.val (.int p0)] []) := fun t q => k57 t (by
                                  refine XS.icmpYes X0.here hx rfl (pc0 := 136) (pc' := 143) rfl (hb hby own_d1_136) rfl (feq hc58).2 (by decide) (by decide) ?_
                                  show Steps p.tables e below (s₁.setTop (mkF m 143 #[.val (.int p0)] [])) _
                                  refine XS.iloadN X0.here hx rfl (hb hby own_d1_143) rfl ?_
                                  show Steps p.tables e below (s₁.setTop (mkF m 144 #[.val (.int p0)] [(.int p0)])) _
                                  refine XS.bipush X0.here hx rfl (hb hby own_d1_144) ?_
                                  show Steps p.tables e below (s₁.setTop (mkF m 146 #[.val (.int p0)] [(.int (15 : Int32)), (.int p0)])) _
                                  exact q)
                                by_cases hc62 : p0 = (15 : Int32)
                                ·
                                  obtain ⟨T63, X63, e63, st63⟩ := getS2 X0 hx hZ hown (host := "") (Or.inl (hw _ (List.mem_of_getElem? (i := 62) rfl))) Via.refl e0 (HE.1.2.2.2.2.2.2.2.2.2.2.2.2.2.2.2.1.ext O0.2) (g := (mkF m 149 #[.val (.int p0)] [])) rfl (hb hby own_d1_149)
                                  have k64 : own_To p e below T63 (mkF m 152 #[.val (.int p0)] [(.ref (en 15))]) s₁ (mkF m 0 #[.val (.int p0)] []) := fun t q => k61 t (by
                                    refine XS.icmpNo X0.here hx rfl (hb hby own_d1_146) rfl (teq hc62).2 ?_
                                    show Steps p.tables e below (s₁.setTop (mkF m 149 #[.val (.int p0)] [])) _
                                    refine st63 _ ?_
                                    show Steps p.tables e below (T63.setTop (mkF m 152 #[.val (.int p0)] [(.ref (en 15))])) _
                                    exact q)
                                  obtain ⟨fs, hr, hrun, hended, hW, hsame⟩ := X63.leave (v := some (.ref (en 15))) (fun h => by rw [Bd.returns] at h; cases h)
                                  refine ⟨_, _, k0 _ (k64 _ ?_), hrun, hended, _, _, rfl, ?_, ⟨_, rfl⟩, hW, hsame.mono (by decide) (by decide)⟩
                                  · show Steps p.tables e below (T63.setTop (mkF m 152 #[.val (.int p0)] [(.ref (en 15))])) _
                                    exact retOut X63 hx Bd.returns rfl (Or.inr (Or.inr (Or.inr (Or.inr ⟨rfl, rfl, rfl⟩)))) (hb hby own_d1_152) hr
                                  · show Q1 Z p0 en h0 n0 _ T63.heap _
                                    rw [e63]
                                    exact ⟨by rw [own_pick, if_neg hc2, if_neg hc6, if_neg hc10, if_neg hc14, if_neg hc18, if_neg hc22, if_neg hc26, if_neg hc30, if_neg hc34, if_neg hc38, if_neg hc42, if_neg hc46, if_neg hc50, if_neg hc54, if_neg hc58, if_pos hc62], N0, rfl⟩
                                ·
                                  have k65 : own_To p e below s₁ (mkF m 156 #[.val (.int p0)] [(.int (16 : Int32)), (.int p0)]) s₁ (mkF m 0 #[.val (.int p0)] []) := fun t q => k61 t (by
                                    refine XS.icmpYes X0.here hx rfl (pc0 := 146) (pc' := 153) rfl (hb hby own_d1_146) rfl (feq hc62).2 (by decide) (by decide) ?_
                                    show Steps p.tables e below (s₁.setTop (mkF m 153 #[.val (.int p0)] [])) _
                                    refine XS.iloadN X0.here hx rfl (hb hby own_d1_153) rfl ?_
                                    show Steps p.tables e below (s₁.setTop (mkF m 154 #[.val (.int p0)] [(.int p0)])) _
                                    refine XS.bipush X0.here hx rfl (hb hby own_d1_154) ?_
                                    show Steps p.tables e below (s₁.setTop (mkF m 156 #[.val (.int p0)] [(.int (16 : Int32)), (.int p0)])) _
                                    exact q)
                                  by_cases hc66 : p0 = (16 : Int32)
                                  ·
                                    obtain ⟨T67, X67, e67, st67⟩ := getS2 X0 hx hZ hown (host := "") (Or.inl (hw _ (List.mem_of_getElem? (i := 60) rfl))) Via.refl e0 (HE.1.2.2.2.2.2.2.2.2.2.2.2.2.2.2.2.2.1.ext O0.2) (g := (mkF m 159 #[.val (.int p0)] [])) rfl (hb hby own_d1_159)
                                    have k68 : own_To p e below T67 (mkF m 162 #[.val (.int p0)] [(.ref (en 16))]) s₁ (mkF m 0 #[.val (.int p0)] []) := fun t q => k65 t (by
                                      refine XS.icmpNo X0.here hx rfl (hb hby own_d1_156) rfl (teq hc66).2 ?_
                                      show Steps p.tables e below (s₁.setTop (mkF m 159 #[.val (.int p0)] [])) _
                                      refine st67 _ ?_
                                      show Steps p.tables e below (T67.setTop (mkF m 162 #[.val (.int p0)] [(.ref (en 16))])) _
                                      exact q)
                                    obtain ⟨fs, hr, hrun, hended, hW, hsame⟩ := X67.leave (v := some (.ref (en 16))) (fun h => by rw [Bd.returns] at h; cases h)
                                    refine ⟨_, _, k0 _ (k68 _ ?_), hrun, hended, _, _, rfl, ?_, ⟨_, rfl⟩, hW, hsame.mono (by decide) (by decide)⟩
                                    · show Steps p.tables e below (T67.setTop (mkF m 162 #[.val (.int p0)] [(.ref (en 16))])) _
                                      exact retOut X67 hx Bd.returns rfl (Or.inr (Or.inr (Or.inr (Or.inr ⟨rfl, rfl, rfl⟩)))) (hb hby own_d1_162) hr
                                    · show Q1 Z p0 en h0 n0 _ T67.heap _
                                      rw [e67]
                                      exact ⟨by rw [own_pick, if_neg hc2, if_neg hc6, if_neg hc10, if_neg hc14, if_neg hc18, if_neg hc22, if_neg hc26, if_neg hc30, if_neg hc34, if_neg hc38, if_neg hc42, if_neg hc46, if_neg hc50, if_neg hc54, if_neg hc58, if_neg hc62, if_pos hc66], N0, rfl⟩
                                  ·
                                    obtain ⟨T69, X69, e69, st69⟩ := getS2 X0 hx hZ hown (host := "") (Or.inl (hw _ (List.mem_of_getElem? (i := 70) rfl))) Via.refl e0 (HE.1.2.2.2.2.2.2.2.2.2.2.2.2.2.2.2.2.2.ext O0.2) (g := (mkF m 163 #[.val (.int p0)] [])) rfl (hb hby own_d1_163)
                                    have k70 : own_To p e below T69 (mkF m 166 #[.val (.int p0)] [(.ref (en 17))]) s₁ (mkF m 0 #[.val (.int p0)] []) := fun t q => k65 t (by
                                      refine XS.icmpYes X0.here hx rfl (pc0 := 156) (pc' := 163) rfl (hb hby own_d1_156) rfl (feq hc66).2 (by decide) (by decide) ?_
                                      show Steps p.tables e below (s₁.setTop (mkF m 163 #[.val (.int p0)] [])) _
                                      refine st69 _ ?_
                                      show Steps p.tables e below (T69.setTop (mkF m 166 #[.val (.int p0)] [(.ref (en 17))])) _
                                      exact q)
                                    obtain ⟨fs, hr, hrun, hended, hW, hsame⟩ := X69.leave (v := some (.ref (en 17))) (fun h => by rw [Bd.returns] at h; cases h)
                                    refine ⟨_, _, k0 _ (k70 _ ?_), hrun, hended, _, _, rfl, ?_, ⟨_, rfl⟩, hW, hsame.mono (by decide) (by decide)⟩
                                    · show Steps p.tables e below (T69.setTop (mkF m 166 #[.val (.int p0)] [(.ref (en 17))])) _
                                      exact retOut X69 hx Bd.returns rfl (Or.inr (Or.inr (Or.inr (Or.inr ⟨rfl, rfl, rfl⟩)))) (hb hby own_d1_166) hr
                                    · show Q1 Z p0 en h0 n0 _ T69.heap _
                                      rw [e69]
                                      exact ⟨by rw [own_pick, if_neg hc2, if_neg hc6, if_neg hc10, if_neg hc14, if_neg hc18, if_neg hc22, if_neg hc26, if_neg hc30, if_neg hc34, if_neg hc38, if_neg hc42, if_neg hc46, if_neg hc50, if_neg hc54, if_neg hc58, if_neg hc62, if_neg hc66], N0, rfl⟩
def own_ix (p0 : Int32) : Nat := (if p0 = (0 : Int32) then 0 else (if p0 = (1 : Int32) then 1 else (if p0 = (2 : Int32) then 2 else (if p0 = (3 : Int32) then 3 else (if p0 = (4 : Int32) then 4 else (if p0 = (5 : Int32) then 5 else (if p0 = (6 : Int32) then 6 else (if p0 = (7 : Int32) then 7 else (if p0 = (8 : Int32) then 8 else (if p0 = (9 : Int32) then 9 else (if p0 = (10 : Int32) then 10 else (if p0 = (11 : Int32) then 11 else (if p0 = (12 : Int32) then 12 else (if p0 = (13 : Int32) then 13 else (if p0 = (14 : Int32) then 14 else (if p0 = (15 : Int32) then 15 else (if p0 = (16 : Int32) then 16 else 17)))))))))))))))))
theorem own_pickE (en : Nat → Addr) (k : Int32) : own_pick en k = en (own_ix k) ∧ own_ix k < 18 := by
  refine ⟨by unfold own_pick own_ix; simp only [apply_ite en], ?_⟩
  unfold own_ix
  by_cases h0 : k = 0
  · rw [if_pos h0]; decide
  rw [if_neg h0]
  by_cases h1 : k = 1
  · rw [if_pos h1]; decide
  rw [if_neg h1]
  by_cases h2 : k = 2
  · rw [if_pos h2]; decide
  rw [if_neg h2]
  by_cases h3 : k = 3
  · rw [if_pos h3]; decide
  rw [if_neg h3]
  by_cases h4 : k = 4
  · rw [if_pos h4]; decide
  rw [if_neg h4]
  by_cases h5 : k = 5
  · rw [if_pos h5]; decide
  rw [if_neg h5]
  by_cases h6 : k = 6
  · rw [if_pos h6]; decide
  rw [if_neg h6]
  by_cases h7 : k = 7
  · rw [if_pos h7]; decide
  rw [if_neg h7]
  by_cases h8 : k = 8
  · rw [if_pos h8]; decide
  rw [if_neg h8]
  by_cases h9 : k = 9
  · rw [if_pos h9]; decide
  rw [if_neg h9]
  by_cases h10 : k = 10
  · rw [if_pos h10]; decide
  rw [if_neg h10]
  by_cases h11 : k = 11
  · rw [if_pos h11]; decide
  rw [if_neg h11]
  by_cases h12 : k = 12
  · rw [if_pos h12]; decide
  rw [if_neg h12]
  by_cases h13 : k = 13
  · rw [if_pos h13]; decide
  rw [if_neg h13]
  by_cases h14 : k = 14
  · rw [if_pos h14]; decide
  rw [if_neg h14]
  by_cases h15 : k = 15
  · rw [if_pos h15]; decide
  rw [if_neg h15]
  by_cases h16 : k = 16
  · rw [if_pos h16]; decide
  rw [if_neg h16]
  decide
theorem own_cd (x : Int32) : (¬ ((x &&& (2147483647 : Int32)) % (18 : Int32)) = (17 : Int32) → own_code (own_ix ((x &&& (2147483647 : Int32)) % (18 : Int32))) < (500 : Int32)) ∧ (((x &&& (2147483647 : Int32)) % (18 : Int32)) = (17 : Int32) → ¬ own_code (own_ix ((x &&& (2147483647 : Int32)) % (18 : Int32))) < (500 : Int32)) := by
  have h1 := c_mask x 2147483647 31 (by decide) (by decide)
  have h2 := (c_irem (x &&& 2147483647) 18 18 rfl).1 (by omega)
  generalize ((x &&& (2147483647 : Int32)) % (18 : Int32)) = k at *
  have hk : k = 0 ∨ k = 1 ∨ k = 2 ∨ k = 3 ∨ k = 4 ∨ k = 5 ∨ k = 6 ∨ k = 7 ∨ k = 8 ∨ k = 9 ∨ k = 10 ∨ k = 11 ∨ k = 12 ∨ k = 13 ∨ k = 14 ∨ k = 15 ∨ k = 16 ∨ k = 17 := by
    simp only [← Int32.toInt_inj, Int32.reduceToInt]; omega
  rcases hk with rfl | rfl | rfl | rfl | rfl | rfl | rfl | rfl | rfl | rfl | rfl | rfl | rfl | rfl | rfl | rfl | rfl | rfl <;> decide
theorem own_d3_0 : decode prog_43_method_5_code 0 = .ok (.aload_n 0, 1) := by decide +kernel
theorem own_d3_1 : decode prog_43_method_5_code 1 = .ok (.getfield 81, 3) := by decide +kernel
theorem own_d3_4 : decode prog_43_method_5_code 4 = .ok (.ireturn, 1) := by decide +kernel
theorem own_pn3 : plainName "com/example/issuer/issuer/protocol/ErrorCode" = true := by first | (simp [plainName, overriddenIn]; done) | decide +kernel
theorem own_ef3 (m : MethodId) (x0 : Addr) : entryFrame m #[(.ref x0)] 1 = mkF m 0 #[.val (.ref x0)] [] := by first | (simp [entryFrame, mkF, argsToLocals, Value.category]; done) | rfl
def Q3 (Z : State) (a0_ : Addr) (st : Int32) (h0 : Heap) (n0 : Nat) (v : Option Value) (h : Heap) (L : List Loc) : Prop := v = some (.int st) ∧ Fr n0 L ∧ h = h0
set_option maxRecDepth 65536 in
set_option maxHeartbeats 40000000 in
theorem rm3 (l : Launch) (Z : State) (a0 : Array Value) (hw : ∀ d ∈ tables_1, d.before a0 Z = true) (ws : List Jvm.Cond) (a0_ : Addr) (st : Int32) (h0 : Heap) (n0 : Nat) (Z0 : n0 ≤ h0.size) (F0 : Fld Z h0 a0_ "com/example/issuer/issuer/protocol/ErrorCode" "httpStatus" "I" (.int st)) :
    MetFree l (⟨"com/example/issuer/issuer/protocol/ErrorCode", "getHttpStatus", "()I"⟩ : MethodName) (head1 (Jvm.Cond.code (⟨"com/example/issuer/issuer/protocol/ErrorCode", "getHttpStatus", "()I"⟩ : MethodName) prog_43_method_5_code 1 (some .int) :: ws) ({ frames := 0, cells := 0, slots := 0, locals := 0 } : Room)) (fun a U => a = #[(.ref a0_)] ∧ Z.Warmed39 U.vm ∧ U.heap = h0) (fun _ _ _ _ _ => True) (fun _ U o U' => ∃ v L, o = .returned v ∧ Q3 Z a0_ st h0 n0 v U'.heap L ∧ FrameEnd U o U' L ({ frames := 0, cells := 0, slots := 0, locals := 0 } : Room).cells ({ frames := 0, cells := 0, slots := 0, locals := 0 } : Room).slots) := by
  refine MetFree.of_bodySF (plainFor_of_name own_pn3) hisR ?_
  intro p e s m args below meth c s₁ Bd hml0 hP hK
  obtain ⟨rfl, hZ, hh⟩ := hP
  have hx := Bd.exec
  have hby := Bd.bytes
  have hml : c.maxLocals = 1 := hml0
  have hown : s.vm.findClass "com/example/issuer/issuer/protocol/ErrorCode" = some m.cls := findClass_of_methodNamed Bd.named
  have hnm := (name_of_methodNamed Bd.named Bd.method).1
  have X0 : Stand p l e ({ frames := 0, cells := 0, slots := 0, locals := 0 } : Room) s m #[(.ref a0_)] below meth c s₁ [] 0 0 := Stand.of_body Bd
  have e0 : s₁.heap = h0 := by rw [← hh, Bd.state]; rfl
  have N0 := Fr.nil n0
  have k0 : own_To p e below s₁ (mkF m 0 #[.val (.ref a0_)] []) s₁ (entryFrame m #[(.ref a0_)] 1) := fun t k => castTop (own_ef3 m a0_) k
  have ki : own_To p e below s₁ (mkF m 0 #[.val (.ref a0_)] []) s₁ (mkF m 0 #[.val (.ref a0_)] []) := fun t q => q
  obtain ⟨T1, X1, e1, st1⟩ := getF X0 hx hZ hown (host := "") (Or.inl (hw _ (List.mem_of_getElem? (i := 13) rfl))) Via.refl e0 F0 (g := (mkF m 1 #[.val (.ref a0_)] [(.ref a0_)])) rfl rfl (hb hby own_d3_1)
  have k2 : own_To p e below T1 (mkF m 4 #[.val (.ref a0_)] [(.int st)]) s₁ (mkF m 0 #[.val (.ref a0_)] []) := fun t q => ki t (by
    refine XS.aloadN X0.here hx rfl (hb hby own_d3_0) rfl rfl ?_
    show Steps p.tables e below (s₁.setTop (mkF m 1 #[.val (.ref a0_)] [(.ref a0_)])) _
    refine st1 _ ?_
    show Steps p.tables e below (T1.setTop (mkF m 4 #[.val (.ref a0_)] [(.int st)])) _
    exact q)
  obtain ⟨fs, hr, hrun, hended, hW, hsame⟩ := X1.leave (v := some (.int st)) (fun h => by rw [Bd.returns] at h; cases h)
  refine ⟨_, _, k0 _ (k2 _ ?_), hrun, hended, _, _, rfl, ?_, ⟨_, rfl⟩, hW, hsame.mono (by decide) (by decide)⟩
  · show Steps p.tables e below (T1.setTop (mkF m 4 #[.val (.ref a0_)] [(.int st)])) _
    exact retOut X1 hx Bd.returns rfl (Or.inl ⟨rfl, Or.inl rfl, _, rfl⟩) (hb hby own_d3_4) hr
  · show Q3 Z a0_ st h0 n0 _ T1.heap _
    rw [e1]
    exact ⟨rfl, N0, rfl⟩
theorem own_d2_0 : decode prog_43_method_6_code 0 = .ok (.aload_n 0, 1) := by decide +kernel
theorem own_d2_1 : decode prog_43_method_6_code 1 = .ok (.getfield 81, 3) := by decide +kernel
theorem own_d2_4 : decode prog_43_method_6_code 4 = .ok (.sipush 500, 3) := by decide +kernel
theorem own_d2_7 : decode prog_43_method_6_code 7 = .ok (.if_icmp .ge 8, 3) := by decide +kernel
theorem own_d2_10 : decode prog_43_method_6_code 10 = .ok (.ldc 85, 2) := by decide +kernel
theorem own_d2_12 : decode prog_43_method_6_code 12 = .ok (.goto 5, 3) := by decide +kernel
theorem own_d2_17 : decode prog_43_method_6_code 17 = .ok (.areturn, 1) := by decide +kernel
theorem own_pn2 : plainName "com/example/issuer/issuer/protocol/ErrorCode" = true := by first | (simp [plainName, overriddenIn]; done) | decide +kernel
theorem own_efgS (m : MethodId) (x0 : Addr) : entryFrame m #[(.ref x0)] 1 = mkF m 0 #[.val (.ref x0)] [] := by first | (simp [entryFrame, mkF, argsToLocals, Value.category]; done) | rfl
def QgS (Z : State) (a0_ : Addr) (st : Int32) (h0 : Heap) (n0 : Nat) (v : Option Value) (h : Heap) (L : List Loc) : Prop := ∃ (r b : Addr) (kc : ClassId), v = some (.ref r) ∧ Fr n0 L ∧ Keep h0 h [] ∧ Exa Z h r "java/lang/String" ∧ Fld Z h r "java/lang/String" "coder" "B" (.int (0 : Int32)) ∧ Fld Z h r "java/lang/String" "value" "[B" (.ref b) ∧ Arv Z h b kc .byte (6 : Int32) [(.int (83 : Int32)), (.int (101 : Int32)), (.int (110 : Int32)), (.int (100 : Int32)), (.int (101 : Int32)), (.int (114 : Int32))] (.int (0 : Int32))
set_option maxRecDepth 65536 in
set_option maxHeartbeats 40000000 in
theorem rmgS (l : Launch) (Z : State) (a0 : Array Value) (hw : ∀ d ∈ tables_1, d.before a0 Z = true) (ws : List Jvm.Cond) (a0_ : Addr) (st : Int32) (h0 : Heap) (n0 : Nat) (Z0 : n0 ≤ h0.size) (F0 : Fld Z h0 a0_ "com/example/issuer/issuer/protocol/ErrorCode" "httpStatus" "I" (.int st)) (hst : st < (500 : Int32)) (hEL : EW Z a0 own_EL) :
    MetFree l (⟨"com/example/issuer/issuer/protocol/ErrorCode", "getType", "()Ljava/lang/String;"⟩ : MethodName) (head1 (Jvm.Cond.code (⟨"com/example/issuer/issuer/protocol/ErrorCode", "getType", "()Ljava/lang/String;"⟩ : MethodName) prog_43_method_6_code 1 (some (.object "java/lang/String")) :: ws) ({ frames := 0, cells := 2, slots := 28, locals := 0 } : Room)) (fun a U => a = #[(.ref a0_)] ∧ Z.Warmed39 U.vm ∧ U.heap = h0 ∧ CHv Z own_EL U.vm h0) (fun _ _ _ _ _ => True) (fun _ U o U' => ∃ v L, o = .returned v ∧ QgS Z a0_ st h0 n0 v U'.heap L ∧ CHr Z own_EL U.vm U.heap U'.vm U'.heap ∧ ReturnedEndW U o U' L ({ frames := 0, cells := 2, slots := 28, locals := 0 } : Room).cells ({ frames := 0, cells := 2, slots := 28, locals := 0 } : Room).slots) := by
  refine MetFree.of_bodySF (plainFor_of_name own_pn2) hisR ?_
  intro p e s m args below meth c s₁ Bd hml0 hP hK
  obtain ⟨rfl, hZ, hh, hCH⟩ := hP
  have hx := Bd.exec
  have hby := Bd.bytes
  have hml : c.maxLocals = 1 := hml0
  have hown : s.vm.findClass "com/example/issuer/issuer/protocol/ErrorCode" = some m.cls := findClass_of_methodNamed Bd.named
  have hnm := (name_of_methodNamed Bd.named Bd.method).1
  have X0 : Stand p l e ({ frames := 0, cells := 2, slots := 28, locals := 0 } : Room) s m #[(.ref a0_)] below meth c s₁ [] 0 0 := Stand.of_body Bd
  have e0 : s₁.heap = h0 := by rw [← hh, Bd.state]; rfl
  have N0 := Fr.nil n0
  have k0 : own_To p e below s₁ (mkF m 0 #[.val (.ref a0_)] []) s₁ (entryFrame m #[(.ref a0_)] 1) := fun t k => castTop (own_efgS m a0_) k
  have ki : own_To p e below s₁ (mkF m 0 #[.val (.ref a0_)] []) s₁ (mkF m 0 #[.val (.ref a0_)] []) := fun t q => q
  have hstr : ∀ a ∈ Bundle.stringAtoms, a.before a0 Z = true := fun d hd => hw d ((by decide +kernel : ∀ d ∈ Bundle.stringAtoms, d ∈ tables_1) d hd)
  have X0 := own_base X0
  have CR0 := CHr.refl hCH
  obtain ⟨T1, X1, e1, st1⟩ := getF X0 hx hZ hown (host := "") (Or.inl (hw _ (List.mem_of_getElem? (i := 13) rfl))) Via.refl e0 F0 (g := (mkF m 1 #[.val (.ref a0_)] [(.ref a0_)])) rfl rfl (hb hby own_d2_1)
  obtain ⟨b2, T2, h2, kk2, bb2, kb2, X2, e2, E2, hS2, hk2, hZ2, hown2, Ex2, Fc2, Fv2, V2, -, -, hC2, -, -, st2⟩ := ldcCH (vm0 := s.vm) X1 hx hZ hown (hw _ (List.mem_of_getElem? (i := 15) rfl)) hstr e1 (State.WarmedH.since (State.WarmedH.refl s) 0) (Nat.zero_le _) hEL (List.mem_of_getElem? (i := 0) rfl) hCH (vs := [(.int (83 : Int32)), (.int (101 : Int32)), (.int (110 : Int32)), (.int (100 : Int32)), (.int (101 : Int32)), (.int (114 : Int32))]) (z := (6 : Int32)) ⟨by decide, rfl⟩ (by decide) rfl (g := (mkF m 10 #[.val (.ref a0_)] [])) rfl (hb hby own_d2_10) (n := 24) (by decide) (by decide) (by decide) (by decide)
  have hZ := hZ2
  have hown := hown2
  have CRl2 := CR0.trans hC2
  have CHl2 := CRl2.1
  have K3 : Keep h0 h2 [] := ((Keep.refl h0 []).ext E2)
  have k4 : own_To p e below T2 (mkF m 17 #[.val (.ref a0_)] [(.ref b2)]) s₁ (mkF m 0 #[.val (.ref a0_)] []) := fun t q => ki t (by
    refine XS.aloadN X0.here hx rfl (hb hby own_d2_0) rfl rfl ?_
    show Steps p.tables e below (s₁.setTop (mkF m 1 #[.val (.ref a0_)] [(.ref a0_)])) _
    refine st1 _ ?_
    show Steps p.tables e below (T1.setTop (mkF m 4 #[.val (.ref a0_)] [(.int st)])) _
    refine XS.sipush X1.here hx rfl (hb hby own_d2_4) ?_
    show Steps p.tables e below (T1.setTop (mkF m 7 #[.val (.ref a0_)] [(.int (500 : Int32)), (.int st)])) _
    refine XS.icmpNo X1.here hx rfl (hb hby own_d2_7) rfl (tlt hst).2.1 ?_
    show Steps p.tables e below (T1.setTop (mkF m 10 #[.val (.ref a0_)] [])) _
    refine st2 _ ?_
    show Steps p.tables e below (T2.setTop (mkF m 12 #[.val (.ref a0_)] [(.ref b2)])) _
    refine XS.goto X2.here hx rfl (pc0 := 12) (pc' := 17) rfl (hb hby own_d2_12) (by decide) (by decide) ?_
    show Steps p.tables e below (T2.setTop (mkF m 17 #[.val (.ref a0_)] [(.ref b2)])) _
    exact q)
  have hCe := CRl2.trans (CHv.at (vm0 := T2.vm) X2 hZ hEL CHl2)
  obtain ⟨fs, hr, hrun, hended, hEnd⟩ := Stand.leaveW (s := s) (vm₁ := T2.vm) X2 hS2 (by rw [e2]; exact hk2) (v := some (.ref b2)) (fun h => by rw [Bd.returns] at h; cases h)
  refine ⟨_, _, k0 _ (k4 _ ?_), hrun, hended, _, _, rfl, ?_, ?_, hEnd.1, hEnd.2.1, hEnd.2.2.1, hEnd.2.2.2.mono (by decide) (by decide)⟩
  · show Steps p.tables e below (T2.setTop (mkF m 17 #[.val (.ref a0_)] [(.ref b2)])) _
    exact retOut X2 hx Bd.returns rfl (Or.inr (Or.inr (Or.inr (Or.inr ⟨rfl, rfl, rfl⟩)))) (hb hby own_d2_17) hr
  · show QgS Z a0_ st h0 n0 _ T2.heap _
    rw [e2]
    exact ⟨b2, bb2, kb2, rfl, N0, K3, Ex2, Fc2, Fv2, V2⟩
  · show CHr Z own_EL s.vm s.heap T2.vm T2.heap
    rw [hh, e2]; exact hCe
theorem own_d2_15 : decode prog_43_method_6_code 15 = .ok (.ldc 87, 2) := by decide +kernel
theorem own_efgR (m : MethodId) (x0 : Addr) : entryFrame m #[(.ref x0)] 1 = mkF m 0 #[.val (.ref x0)] [] := by first | (simp [entryFrame, mkF, argsToLocals, Value.category]; done) | rfl
def QgR (Z : State) (a0_ : Addr) (st : Int32) (h0 : Heap) (n0 : Nat) (v : Option Value) (h : Heap) (L : List Loc) : Prop := ∃ (r b : Addr) (kc : ClassId), v = some (.ref r) ∧ Fr n0 L ∧ Keep h0 h [] ∧ Exa Z h r "java/lang/String" ∧ Fld Z h r "java/lang/String" "coder" "B" (.int (0 : Int32)) ∧ Fld Z h r "java/lang/String" "value" "[B" (.ref b) ∧ Arv Z h b kc .byte (8 : Int32) [(.int (82 : Int32)), (.int (101 : Int32)), (.int (99 : Int32)), (.int (101 : Int32)), (.int (105 : Int32)), (.int (118 : Int32)), (.int (101 : Int32)), (.int (114 : Int32))] (.int (0 : Int32))
set_option maxRecDepth 65536 in
set_option maxHeartbeats 40000000 in
theorem rmgR (l : Launch) (Z : State) (a0 : Array Value) (hw : ∀ d ∈ tables_1, d.before a0 Z = true) (ws : List Jvm.Cond) (a0_ : Addr) (st : Int32) (h0 : Heap) (n0 : Nat) (Z0 : n0 ≤ h0.size) (F0 : Fld Z h0 a0_ "com/example/issuer/issuer/protocol/ErrorCode" "httpStatus" "I" (.int st)) (hst : ¬ st < (500 : Int32)) (hEL : EW Z a0 own_EL) :
    MetFree l (⟨"com/example/issuer/issuer/protocol/ErrorCode", "getType", "()Ljava/lang/String;"⟩ : MethodName) (head1 (Jvm.Cond.code (⟨"com/example/issuer/issuer/protocol/ErrorCode", "getType", "()Ljava/lang/String;"⟩ : MethodName) prog_43_method_6_code 1 (some (.object "java/lang/String")) :: ws) ({ frames := 0, cells := 2, slots := 36, locals := 0 } : Room)) (fun a U => a = #[(.ref a0_)] ∧ Z.Warmed39 U.vm ∧ U.heap = h0 ∧ CHv Z own_EL U.vm h0) (fun _ _ _ _ _ => True) (fun _ U o U' => ∃ v L, o = .returned v ∧ QgR Z a0_ st h0 n0 v U'.heap L ∧ CHr Z own_EL U.vm U.heap U'.vm U'.heap ∧ ReturnedEndW U o U' L ({ frames := 0, cells := 2, slots := 36, locals := 0 } : Room).cells ({ frames := 0, cells := 2, slots := 36, locals := 0 } : Room).slots) := by
  refine MetFree.of_bodySF (plainFor_of_name own_pn2) hisR ?_
  intro p e s m args below meth c s₁ Bd hml0 hP hK
  obtain ⟨rfl, hZ, hh, hCH⟩ := hP
  have hx := Bd.exec
  have hby := Bd.bytes
  have hml : c.maxLocals = 1 := hml0
  have hown : s.vm.findClass "com/example/issuer/issuer/protocol/ErrorCode" = some m.cls := findClass_of_methodNamed Bd.named
  have hnm := (name_of_methodNamed Bd.named Bd.method).1
  have X0 : Stand p l e ({ frames := 0, cells := 2, slots := 36, locals := 0 } : Room) s m #[(.ref a0_)] below meth c s₁ [] 0 0 := Stand.of_body Bd
  have e0 : s₁.heap = h0 := by rw [← hh, Bd.state]; rfl
  have N0 := Fr.nil n0
  have k0 : own_To p e below s₁ (mkF m 0 #[.val (.ref a0_)] []) s₁ (entryFrame m #[(.ref a0_)] 1) := fun t k => castTop (own_efgR m a0_) k
  have ki : own_To p e below s₁ (mkF m 0 #[.val (.ref a0_)] []) s₁ (mkF m 0 #[.val (.ref a0_)] []) := fun t q => q
  have hstr : ∀ a ∈ Bundle.stringAtoms, a.before a0 Z = true := fun d hd => hw d ((by decide +kernel : ∀ d ∈ Bundle.stringAtoms, d ∈ tables_1) d hd)
  have X0 := own_base X0
  have CR0 := CHr.refl hCH
  obtain ⟨T1, X1, e1, st1⟩ := getF X0 hx hZ hown (host := "") (Or.inl (hw _ (List.mem_of_getElem? (i := 13) rfl))) Via.refl e0 F0 (g := (mkF m 1 #[.val (.ref a0_)] [(.ref a0_)])) rfl rfl (hb hby own_d2_1)
  obtain ⟨b2, T2, h2, kk2, bb2, kb2, X2, e2, E2, hS2, hk2, hZ2, hown2, Ex2, Fc2, Fv2, V2, -, -, hC2, -, -, st2⟩ := ldcCH (vm0 := s.vm) X1 hx hZ hown (hw _ (List.mem_of_getElem? (i := 72) rfl)) hstr e1 (State.WarmedH.since (State.WarmedH.refl s) 0) (Nat.zero_le _) hEL (List.mem_of_getElem? (i := 1) rfl) hCH (vs := [(.int (82 : Int32)), (.int (101 : Int32)), (.int (99 : Int32)), (.int (101 : Int32)), (.int (105 : Int32)), (.int (118 : Int32)), (.int (101 : Int32)), (.int (114 : Int32))]) (z := (8 : Int32)) ⟨by decide, rfl⟩ (by decide) rfl (g := (mkF m 15 #[.val (.ref a0_)] [])) rfl (hb hby own_d2_15) (n := 32) (by decide) (by decide) (by decide) (by decide)
  have hZ := hZ2
  have hown := hown2
  have CRl2 := CR0.trans hC2
  have CHl2 := CRl2.1
  have K3 : Keep h0 h2 [] := ((Keep.refl h0 []).ext E2)
  have k4 : own_To p e below T2 (mkF m 17 #[.val (.ref a0_)] [(.ref b2)]) s₁ (mkF m 0 #[.val (.ref a0_)] []) := fun t q => ki t (by
    refine XS.aloadN X0.here hx rfl (hb hby own_d2_0) rfl rfl ?_
    show Steps p.tables e below (s₁.setTop (mkF m 1 #[.val (.ref a0_)] [(.ref a0_)])) _
    refine st1 _ ?_
    show Steps p.tables e below (T1.setTop (mkF m 4 #[.val (.ref a0_)] [(.int st)])) _
    refine XS.sipush X1.here hx rfl (hb hby own_d2_4) ?_
    show Steps p.tables e below (T1.setTop (mkF m 7 #[.val (.ref a0_)] [(.int (500 : Int32)), (.int st)])) _
    refine XS.icmpYes X1.here hx rfl (pc0 := 7) (pc' := 15) rfl (hb hby own_d2_7) rfl (flt hst).2.1 (by decide) (by decide) ?_
    show Steps p.tables e below (T1.setTop (mkF m 15 #[.val (.ref a0_)] [])) _
    refine st2 _ ?_
    show Steps p.tables e below (T2.setTop (mkF m 17 #[.val (.ref a0_)] [(.ref b2)])) _
    exact q)
  have hCe := CRl2.trans (CHv.at (vm0 := T2.vm) X2 hZ hEL CHl2)
  obtain ⟨fs, hr, hrun, hended, hEnd⟩ := Stand.leaveW (s := s) (vm₁ := T2.vm) X2 hS2 (by rw [e2]; exact hk2) (v := some (.ref b2)) (fun h => by rw [Bd.returns] at h; cases h)
  refine ⟨_, _, k0 _ (k4 _ ?_), hrun, hended, _, _, rfl, ?_, ?_, hEnd.1, hEnd.2.1, hEnd.2.2.1, hEnd.2.2.2.mono (by decide) (by decide)⟩
  · show Steps p.tables e below (T2.setTop (mkF m 17 #[.val (.ref a0_)] [(.ref b2)])) _
    exact retOut X2 hx Bd.returns rfl (Or.inr (Or.inr (Or.inr (Or.inr ⟨rfl, rfl, rfl⟩)))) (hb hby own_d2_17) hr
  · show QgR Z a0_ st h0 n0 _ T2.heap _
    rw [e2]
    exact ⟨b2, bb2, kb2, rfl, N0, K3, Ex2, Fc2, Fv2, V2⟩
  · show CHr Z own_EL s.vm s.heap T2.vm T2.heap
    rw [hh, e2]; exact hCe
theorem own_d5_0 : decode jdk_43_method_13_code 0 = .ok (.aload_n 0, 1) := by decide +kernel
theorem own_d5_1 : decode jdk_43_method_13_code 1 = .ok (.arraylength, 1) := by decide +kernel
theorem own_d5_2 : decode jdk_43_method_13_code 2 = .ok (.aload_n 1, 1) := by decide +kernel
theorem own_d5_3 : decode jdk_43_method_13_code 3 = .ok (.arraylength, 1) := by decide +kernel
theorem own_d5_4 : decode jdk_43_method_13_code 4 = .ok (.if_icmp .ne 30, 3) := by decide +kernel
theorem own_d5_34 : decode jdk_43_method_13_code 34 = .ok (.iconst 0, 1) := by decide +kernel
theorem own_d5_35 : decode jdk_43_method_13_code 35 = .ok (.ireturn, 1) := by decide +kernel
theorem own_pn5 : plainName "java/lang/StringLatin1" = true := by first | (simp [plainName, overriddenIn]; done) | decide +kernel
theorem own_efL0 (m : MethodId) (x0 : Addr) (x1 : Addr) : entryFrame m #[(.ref x0), (.ref x1)] 3 = mkF m 0 #[.val (.ref x0), .val (.ref x1), .unset] [] := by first | (simp [entryFrame, mkF, argsToLocals, Value.category]; done) | rfl
def QL0 (Z : State) (a0_ : Addr) (a1 : Addr) (k0_ : ClassId) (z0 : Int32) (v0 : List Value) (k1_ : ClassId) (z1 : Int32) (v1 : List Value) (h0 : Heap) (n0 : Nat) (v : Option Value) (h : Heap) (L : List Loc) : Prop := v = some (.int (0 : Int32)) ∧ Fr n0 L ∧ h = h0
set_option maxRecDepth 65536 in
set_option maxHeartbeats 40000000 in
theorem rmL0 (l : Launch) (Z : State) (a0 : Array Value) (hw : ∀ d ∈ tables_1, d.before a0 Z = true) (ws : List Jvm.Cond) (a0_ : Addr) (a1 : Addr) (k0_ : ClassId) (z0 : Int32) (v0 : List Value) (k1_ : ClassId) (z1 : Int32) (v1 : List Value) (h0 : Heap) (n0 : Nat) (Z0 : n0 ≤ h0.size) (V0 : Arv Z h0 a0_ k0_ .byte z0 v0 (.int (0 : Int32))) (V1 : Arv Z h0 a1 k1_ .byte z1 v1 (.int (0 : Int32))) (hz : ¬ z0 = z1) :
    MetFree l (⟨"java/lang/StringLatin1", "equals", "([B[B)Z"⟩ : MethodName) (head1 (Jvm.Cond.code (⟨"java/lang/StringLatin1", "equals", "([B[B)Z"⟩ : MethodName) jdk_43_method_13_code 3 (some .boolean) :: ws) ({ frames := 0, cells := 0, slots := 0, locals := 0 } : Room)) (fun a U => a = #[(.ref a0_), (.ref a1)] ∧ Z.Warmed39 U.vm ∧ U.heap = h0) (fun _ _ _ _ _ => True) (fun _ U o U' => ∃ v L, o = .returned v ∧ QL0 Z a0_ a1 k0_ z0 v0 k1_ z1 v1 h0 n0 v U'.heap L ∧ FrameEnd U o U' L ({ frames := 0, cells := 0, slots := 0, locals := 0 } : Room).cells ({ frames := 0, cells := 0, slots := 0, locals := 0 } : Room).slots) := by
  refine MetFree.of_bodySF (plainFor_of_name own_pn5) hisR ?_
  intro p e s m args below meth c s₁ Bd hml0 hP hK
  obtain ⟨rfl, hZ, hh⟩ := hP
  have hx := Bd.exec
  have hby := Bd.bytes
  have hml : c.maxLocals = 3 := hml0
  have hown : s.vm.findClass "java/lang/StringLatin1" = some m.cls := findClass_of_methodNamed Bd.named
  have hnm := (name_of_methodNamed Bd.named Bd.method).1
  have X0 : Stand p l e ({ frames := 0, cells := 0, slots := 0, locals := 0 } : Room) s m #[(.ref a0_), (.ref a1)] below meth c s₁ [] 0 0 := Stand.of_body Bd
  have e0 : s₁.heap = h0 := by rw [← hh, Bd.state]; rfl
  have N0 := Fr.nil n0
  have k0 : own_To p e below s₁ (mkF m 0 #[.val (.ref a0_), .val (.ref a1), .unset] []) s₁ (entryFrame m #[(.ref a0_), (.ref a1)] 3) := fun t k => castTop (own_efL0 m a0_ a1) k
  have ki : own_To p e below s₁ (mkF m 0 #[.val (.ref a0_), .val (.ref a1), .unset] []) s₁ (mkF m 0 #[.val (.ref a0_), .val (.ref a1), .unset] []) := fun t q => q
  obtain ⟨clr1, Arr1, qr1, Sr1, Mr1, Hhr1, Gr1⟩ := id V0
  obtain ⟨clr2, Arr2, qr2, Sr2, Mr2, Hhr2, Gr2⟩ := id V1
  have k3 : own_To p e below s₁ (mkF m 35 #[.val (.ref a0_), .val (.ref a1), .unset] [(.int (0 : Int32))]) s₁ (mkF m 0 #[.val (.ref a0_), .val (.ref a1), .unset] []) := fun t q => ki t (by
    refine XS.aloadN X0.here hx rfl (hb hby own_d5_0) rfl rfl ?_
    show Steps p.tables e below (s₁.setTop (mkF m 1 #[.val (.ref a0_), .val (.ref a1), .unset] [(.ref a0_)])) _
    refine X0.arraylength hx (by rw [e0]; exact Arr1.1) (State.isArrayOf_alike hZ.alike Arr1.2.1) (g := (mkF m 1 #[.val (.ref a0_), .val (.ref a1), .unset] [(.ref a0_)])) rfl rfl (hb hby own_d5_1) _ ?_
    rw [len_of Sr1 Mr1]
    show Steps p.tables e below (s₁.setTop (mkF m 2 #[.val (.ref a0_), .val (.ref a1), .unset] [(.int z0)])) _
    refine XS.aloadN X0.here hx rfl (hb hby own_d5_2) rfl rfl ?_
    show Steps p.tables e below (s₁.setTop (mkF m 3 #[.val (.ref a0_), .val (.ref a1), .unset] [(.ref a1), (.int z0)])) _
    refine X0.arraylength hx (by rw [e0]; exact Arr2.1) (State.isArrayOf_alike hZ.alike Arr2.2.1) (g := (mkF m 3 #[.val (.ref a0_), .val (.ref a1), .unset] [(.ref a1), (.int z0)])) rfl rfl (hb hby own_d5_3) _ ?_
    rw [len_of Sr2 Mr2]
    show Steps p.tables e below (s₁.setTop (mkF m 4 #[.val (.ref a0_), .val (.ref a1), .unset] [(.int z1), (.int z0)])) _
    refine XS.icmpYes X0.here hx rfl (pc0 := 4) (pc' := 34) rfl (hb hby own_d5_4) rfl (feq hz).2 (by decide) (by decide) ?_
    show Steps p.tables e below (s₁.setTop (mkF m 34 #[.val (.ref a0_), .val (.ref a1), .unset] [])) _
    refine XS.iconst X0.here hx rfl (hb hby own_d5_34) ?_
    show Steps p.tables e below (s₁.setTop (mkF m 35 #[.val (.ref a0_), .val (.ref a1), .unset] [(.int (0 : Int32))])) _
    exact q)
  obtain ⟨fs, hr, hrun, hended, hW, hsame⟩ := X0.leave (v := some (.int (0 : Int32))) (fun h => by rw [Bd.returns] at h; cases h)
  refine ⟨_, _, k0 _ (k3 _ ?_), hrun, hended, _, _, rfl, ?_, ⟨_, rfl⟩, hW, hsame.mono (by decide) (by decide)⟩
  · show Steps p.tables e below (s₁.setTop (mkF m 35 #[.val (.ref a0_), .val (.ref a1), .unset] [(.int (0 : Int32))])) _
    exact retN X0 hx (t := .boolean) Bd.returns (by simp) (hb hby own_d5_35) hr
  · show QL0 Z a0_ a1 k0_ z0 v0 k1_ z1 v1 h0 n0 _ s₁.heap _
    rw [e0]
    exact ⟨rfl, N0, rfl⟩
theorem own_inc (i z : Int32) (h1 : 0 ≤ i.toInt) (h2 : i.toInt < z.toInt) : (i + (1 : Int32)).toInt = i.toInt + 1 := by
  have a := c_iadd i 1
  have r := rng32 (i + 1)
  have r2 := rng32 z
  rw [show (1 : Int32).toInt = 1 from rfl] at a; omega
theorem own_byte {v : Value} (h : fits .byte v = true) : ∃ x, v = .int x := by
  cases v <;> simp [fits] at h <;> exact ⟨_, rfl⟩
theorem own_d5_7 : decode jdk_43_method_13_code 7 = .ok (.iconst 0, 1) := by decide +kernel
theorem own_d5_8 : decode jdk_43_method_13_code 8 = .ok (.istore_n 2, 1) := by decide +kernel
theorem own_d5_9 : decode jdk_43_method_13_code 9 = .ok (.iload_n 2, 1) := by decide +kernel
theorem own_d5_10 : decode jdk_43_method_13_code 10 = .ok (.aload_n 0, 1) := by decide +kernel
theorem own_d5_11 : decode jdk_43_method_13_code 11 = .ok (.arraylength, 1) := by decide +kernel
theorem own_d5_12 : decode jdk_43_method_13_code 12 = .ok (.if_icmp .ge 20, 3) := by decide +kernel
theorem own_d5_15 : decode jdk_43_method_13_code 15 = .ok (.aload_n 0, 1) := by decide +kernel
theorem own_d5_16 : decode jdk_43_method_13_code 16 = .ok (.iload_n 2, 1) := by decide +kernel
theorem own_d5_17 : decode jdk_43_method_13_code 17 = .ok (.baload, 1) := by decide +kernel
theorem own_d5_18 : decode jdk_43_method_13_code 18 = .ok (.aload_n 1, 1) := by decide +kernel
theorem own_d5_19 : decode jdk_43_method_13_code 19 = .ok (.iload_n 2, 1) := by decide +kernel
theorem own_d5_20 : decode jdk_43_method_13_code 20 = .ok (.baload, 1) := by decide +kernel
theorem own_d5_21 : decode jdk_43_method_13_code 21 = .ok (.if_icmp .eq 5, 3) := by decide +kernel
theorem own_d5_24 : decode jdk_43_method_13_code 24 = .ok (.iconst 0, 1) := by decide +kernel
theorem own_d5_25 : decode jdk_43_method_13_code 25 = .ok (.ireturn, 1) := by decide +kernel
theorem own_d5_26 : decode jdk_43_method_13_code 26 = .ok (.iinc 2 1, 3) := by decide +kernel
theorem own_d5_29 : decode jdk_43_method_13_code 29 = .ok (.goto (-20), 3) := by decide +kernel
theorem own_d5_32 : decode jdk_43_method_13_code 32 = .ok (.iconst 1, 1) := by decide +kernel
theorem own_d5_33 : decode jdk_43_method_13_code 33 = .ok (.ireturn, 1) := by decide +kernel
set_option maxRecDepth 65536 in
set_option maxHeartbeats 40000000 in
theorem own_loop {p : Program} {l : Launch} {e : Env} {R : Room} {s : State} {m : MethodId} {args : Array Value} {below : List Frame} {meth : Method} {c : Code} {T0 : State} {locs : List Loc} {cells slots : Nat} {Z : State} {a0 : Array Value} {h0 : Heap} (X0 : Stand p l e R s m args below meth c T0 locs cells slots) (hx : p.tables.exec = Jvm.exec) (hZ : Z.Warmed39 s.vm) (hw : ∀ d ∈ tables_1, d.before a0 Z = true) (hby : c.code = jdk_43_method_13_code) (hml : c.maxLocals = 3) (hown : s.vm.findClass "java/lang/StringLatin1" = some m.cls) (e0 : T0.heap = h0) {a0_ a1 : Addr} {k0_ k1_ : ClassId} {z0 : Int32} {v0 : List Value} (V0 : Arv Z h0 a0_ k0_ .byte z0 v0 (.int (0 : Int32))) (V1 : Arv Z h0 a1 k1_ .byte z0 v0 (.int (0 : Int32))) : ∀ (k : Nat) (i : Int32), 0 ≤ i.toInt → i.toInt + k = z0.toInt → ∃ i', own_To p e below T0 (mkF m 32 #[.val (.ref a0_), .val (.ref a1), .val (.int i')] []) T0 (mkF m 9 #[.val (.ref a0_), .val (.ref a1), .val (.int i)] []) := by
  intro k
  induction k with
  | zero =>
    intro i h1 h2
    have hc : ¬ i < z0 := by rw [Int32.lt_iff_toInt_lt]; omega
    have ki : own_To p e below T0 (mkF m 9 #[.val (.ref a0_), .val (.ref a1), .val (.int i)] []) T0 (mkF m 9 #[.val (.ref a0_), .val (.ref a1), .val (.int i)] []) := fun t q => q
    obtain ⟨clr1, Arr1, qr1, Sr1, Mr1, Hhr1, Gr1⟩ := id V0
    have k2 : own_To p e below T0 (mkF m 32 #[.val (.ref a0_), .val (.ref a1), .val (.int i)] []) T0 (mkF m 9 #[.val (.ref a0_), .val (.ref a1), .val (.int i)] []) := fun t q => ki t (by
      refine XS.iloadN X0.here hx rfl (hb hby own_d5_9) rfl ?_
      show Steps p.tables e below (T0.setTop (mkF m 10 #[.val (.ref a0_), .val (.ref a1), .val (.int i)] [(.int i)])) _
      refine XS.aloadN X0.here hx rfl (hb hby own_d5_10) rfl rfl ?_
      show Steps p.tables e below (T0.setTop (mkF m 11 #[.val (.ref a0_), .val (.ref a1), .val (.int i)] [(.ref a0_), (.int i)])) _
      refine X0.arraylength hx (by rw [e0]; exact Arr1.1) (State.isArrayOf_alike hZ.alike Arr1.2.1) (g := (mkF m 11 #[.val (.ref a0_), .val (.ref a1), .val (.int i)] [(.ref a0_), (.int i)])) rfl rfl (hb hby own_d5_11) _ ?_
      rw [len_of Sr1 Mr1]
      show Steps p.tables e below (T0.setTop (mkF m 12 #[.val (.ref a0_), .val (.ref a1), .val (.int i)] [(.int z0), (.int i)])) _
      refine XS.icmpYes X0.here hx rfl (pc0 := 12) (pc' := 32) rfl (hb hby own_d5_12) rfl (flt hc).2.1 (by decide) (by decide) ?_
      show Steps p.tables e below (T0.setTop (mkF m 32 #[.val (.ref a0_), .val (.ref a1), .val (.int i)] [])) _
      exact q)
    exact ⟨i, k2⟩
  | succ k ih =>
    intro i h1 h2
    have hi0 : ¬ i < 0 := by rw [Int32.lt_iff_toInt_lt, show (0 : Int32).toInt = 0 from rfl]; omega
    have hi1 : i < z0 := by rw [Int32.lt_iff_toInt_lt]; omega
    have hi2 := own_inc i z0 h1 (by omega)
    obtain ⟨x, hx0⟩ : ∃ x, v0.getD i.toNatClampNeg (.int (0 : Int32)) = .int x := by
      obtain ⟨c0, A0, -, S0, -, -, G0⟩ := id V0
      exact own_byte (G0 _ (by rw [S0]; simp only [Int32.toNatClampNeg]; omega))
    have hx1 := hx0
    obtain ⟨i', kI⟩ := ih (i + (1 : Int32)) (by omega) (by omega)
    have ki : own_To p e below T0 (mkF m 9 #[.val (.ref a0_), .val (.ref a1), .val (.int i)] []) T0 (mkF m 9 #[.val (.ref a0_), .val (.ref a1), .val (.int i)] []) := fun t q => q
    obtain ⟨clr1, Arr1, qr1, Sr1, Mr1, Hhr1, Gr1⟩ := id V0
    obtain ⟨clr2, Arr2, qr2, Sr2, Mr2, Hhr2, Gr2⟩ := id V0
    have hinr2 : ¬ (i < 0 ∨ clr2.slots.size ≤ (i).toNatClampNeg) := inb_of Sr2 ⟨hi0, hi1⟩
    have hatr2 : clr2.slots[(i).toNatClampNeg]? = some (.int x) := Has.at Hhr2 hinr2 hx0
    obtain ⟨clr3, Arr3, qr3, Sr3, Mr3, Hhr3, Gr3⟩ := id V1
    have hinr3 : ¬ (i < 0 ∨ clr3.slots.size ≤ (i).toNatClampNeg) := inb_of Sr3 ⟨hi0, hi1⟩
    have hatr3 : clr3.slots[(i).toNatClampNeg]? = some (.int x) := Has.at Hhr3 hinr3 hx1
    have k4 : own_To p e below T0 (mkF m 29 #[.val (.ref a0_), .val (.ref a1), .val (.int (i + (1 : Int32)))] []) T0 (mkF m 9 #[.val (.ref a0_), .val (.ref a1), .val (.int i)] []) := fun t q => ki t (by
      refine XS.iloadN X0.here hx rfl (hb hby own_d5_9) rfl ?_
      show Steps p.tables e below (T0.setTop (mkF m 10 #[.val (.ref a0_), .val (.ref a1), .val (.int i)] [(.int i)])) _
      refine XS.aloadN X0.here hx rfl (hb hby own_d5_10) rfl rfl ?_
      show Steps p.tables e below (T0.setTop (mkF m 11 #[.val (.ref a0_), .val (.ref a1), .val (.int i)] [(.ref a0_), (.int i)])) _
      refine X0.arraylength hx (by rw [e0]; exact Arr1.1) (State.isArrayOf_alike hZ.alike Arr1.2.1) (g := (mkF m 11 #[.val (.ref a0_), .val (.ref a1), .val (.int i)] [(.ref a0_), (.int i)])) rfl rfl (hb hby own_d5_11) _ ?_
      rw [len_of Sr1 Mr1]
      show Steps p.tables e below (T0.setTop (mkF m 12 #[.val (.ref a0_), .val (.ref a1), .val (.int i)] [(.int z0), (.int i)])) _
      refine XS.icmpNo X0.here hx rfl (hb hby own_d5_12) rfl (tlt hi1).2.1 ?_
      show Steps p.tables e below (T0.setTop (mkF m 15 #[.val (.ref a0_), .val (.ref a1), .val (.int i)] [])) _
      refine XS.aloadN X0.here hx rfl (hb hby own_d5_15) rfl rfl ?_
      show Steps p.tables e below (T0.setTop (mkF m 16 #[.val (.ref a0_), .val (.ref a1), .val (.int i)] [(.ref a0_)])) _
      refine XS.iloadN X0.here hx rfl (hb hby own_d5_16) rfl ?_
      show Steps p.tables e below (T0.setTop (mkF m 17 #[.val (.ref a0_), .val (.ref a1), .val (.int i)] [(.int i), (.ref a0_)])) _
      refine X0.baloadBytes hx (j := i) (v := (.int x)) (by rw [e0]; exact Arr2.1) (State.isArrayOf_alike hZ.alike Arr2.2.1) Arr2.2.2 hinr2 hatr2 (g := (mkF m 17 #[.val (.ref a0_), .val (.ref a1), .val (.int i)] [(.int i), (.ref a0_)])) rfl rfl (hb hby own_d5_17) _ ?_
      show Steps p.tables e below (T0.setTop (mkF m 18 #[.val (.ref a0_), .val (.ref a1), .val (.int i)] [(.int x)])) _
      refine XS.aloadN X0.here hx rfl (hb hby own_d5_18) rfl rfl ?_
      show Steps p.tables e below (T0.setTop (mkF m 19 #[.val (.ref a0_), .val (.ref a1), .val (.int i)] [(.ref a1), (.int x)])) _
      refine XS.iloadN X0.here hx rfl (hb hby own_d5_19) rfl ?_
      show Steps p.tables e below (T0.setTop (mkF m 20 #[.val (.ref a0_), .val (.ref a1), .val (.int i)] [(.int i), (.ref a1), (.int x)])) _
      refine X0.baloadBytes hx (j := i) (v := (.int x)) (by rw [e0]; exact Arr3.1) (State.isArrayOf_alike hZ.alike Arr3.2.1) Arr3.2.2 hinr3 hatr3 (g := (mkF m 20 #[.val (.ref a0_), .val (.ref a1), .val (.int i)] [(.int i), (.ref a1), (.int x)])) rfl rfl (hb hby own_d5_20) _ ?_
      show Steps p.tables e below (T0.setTop (mkF m 21 #[.val (.ref a0_), .val (.ref a1), .val (.int i)] [(.int x), (.int x)])) _
      refine XS.icmpYes X0.here hx rfl (pc0 := 21) (pc' := 26) rfl (hb hby own_d5_21) rfl (teq rfl).1 (by decide) (by decide) ?_
      show Steps p.tables e below (T0.setTop (mkF m 26 #[.val (.ref a0_), .val (.ref a1), .val (.int i)] [])) _
      refine XS.iinc X0.here hx rfl (hb hby own_d5_26) rfl (l' := #[.val (.ref a0_), .val (.ref a1), .val (.int (i + (1 : Int32)))]) rfl ?_
      show Steps p.tables e below (T0.setTop (mkF m 29 #[.val (.ref a0_), .val (.ref a1), .val (.int (i + (1 : Int32)))] [])) _
      exact q)
    have k5 : own_To p e below T0 (mkF m 9 #[.val (.ref a0_), .val (.ref a1), .val (.int (i + (1 : Int32)))] []) T0 (mkF m 9 #[.val (.ref a0_), .val (.ref a1), .val (.int i)] []) := fun t q => k4 t (by
      refine XS.goto X0.here hx rfl (pc0 := 29) (pc' := 9) rfl (hb hby own_d5_29) (by decide) (by decide) ?_
      show Steps p.tables e below (T0.setTop (mkF m 9 #[.val (.ref a0_), .val (.ref a1), .val (.int (i + (1 : Int32)))] [])) _
      exact q)
    exact ⟨i', fun t q => k5 t (kI t q)⟩
theorem own_efL1 (m : MethodId) (x0 : Addr) (x1 : Addr) : entryFrame m #[(.ref x0), (.ref x1)] 3 = mkF m 0 #[.val (.ref x0), .val (.ref x1), .unset] [] := by first | (simp [entryFrame, mkF, argsToLocals, Value.category]; done) | rfl
def QL1 (Z : State) (a0_ : Addr) (a1 : Addr) (k0_ : ClassId) (z0 : Int32) (v0 : List Value) (k1_ : ClassId) (h0 : Heap) (n0 : Nat) (v : Option Value) (h : Heap) (L : List Loc) : Prop := v = some (.int (1 : Int32)) ∧ Fr n0 L ∧ h = h0
set_option maxRecDepth 65536 in
set_option maxHeartbeats 40000000 in
theorem rmL1 (l : Launch) (Z : State) (a0 : Array Value) (hw : ∀ d ∈ tables_1, d.before a0 Z = true) (ws : List Jvm.Cond) (a0_ : Addr) (a1 : Addr) (k0_ : ClassId) (z0 : Int32) (v0 : List Value) (k1_ : ClassId) (h0 : Heap) (n0 : Nat) (Z0 : n0 ≤ h0.size) (V0 : Arv Z h0 a0_ k0_ .byte z0 v0 (.int (0 : Int32))) (V1 : Arv Z h0 a1 k1_ .byte z0 v0 (.int (0 : Int32))) :
    MetFree l (⟨"java/lang/StringLatin1", "equals", "([B[B)Z"⟩ : MethodName) (head1 (Jvm.Cond.code (⟨"java/lang/StringLatin1", "equals", "([B[B)Z"⟩ : MethodName) jdk_43_method_13_code 3 (some .boolean) :: ws) ({ frames := 0, cells := 0, slots := 0, locals := 0 } : Room)) (fun a U => a = #[(.ref a0_), (.ref a1)] ∧ Z.Warmed39 U.vm ∧ U.heap = h0) (fun _ _ _ _ _ => True) (fun _ U o U' => ∃ v L, o = .returned v ∧ QL1 Z a0_ a1 k0_ z0 v0 k1_ h0 n0 v U'.heap L ∧ FrameEnd U o U' L ({ frames := 0, cells := 0, slots := 0, locals := 0 } : Room).cells ({ frames := 0, cells := 0, slots := 0, locals := 0 } : Room).slots) := by
  refine MetFree.of_bodySF (plainFor_of_name own_pn5) hisR ?_
  intro p e s m args below meth c s₁ Bd hml0 hP hK
  obtain ⟨rfl, hZ, hh⟩ := hP
  have hx := Bd.exec
  have hby := Bd.bytes
  have hml : c.maxLocals = 3 := hml0
  have hown : s.vm.findClass "java/lang/StringLatin1" = some m.cls := findClass_of_methodNamed Bd.named
  have hnm := (name_of_methodNamed Bd.named Bd.method).1
  have X0 : Stand p l e ({ frames := 0, cells := 0, slots := 0, locals := 0 } : Room) s m #[(.ref a0_), (.ref a1)] below meth c s₁ [] 0 0 := Stand.of_body Bd
  have e0 : s₁.heap = h0 := by rw [← hh, Bd.state]; rfl
  have N0 := Fr.nil n0
  have k0 : own_To p e below s₁ (mkF m 0 #[.val (.ref a0_), .val (.ref a1), .unset] []) s₁ (entryFrame m #[(.ref a0_), (.ref a1)] 3) := fun t k => castTop (own_efL1 m a0_ a1) k
  have ki : own_To p e below s₁ (mkF m 0 #[.val (.ref a0_), .val (.ref a1), .unset] []) s₁ (mkF m 0 #[.val (.ref a0_), .val (.ref a1), .unset] []) := fun t q => q
  obtain ⟨clr1, Arr1, qr1, Sr1, Mr1, Hhr1, Gr1⟩ := id V0
  obtain ⟨clr2, Arr2, qr2, Sr2, Mr2, Hhr2, Gr2⟩ := id V1
  have k3 : own_To p e below s₁ (mkF m 9 #[.val (.ref a0_), .val (.ref a1), .val (.int (0 : Int32))] []) s₁ (mkF m 0 #[.val (.ref a0_), .val (.ref a1), .unset] []) := fun t q => ki t (by
    refine XS.aloadN X0.here hx rfl (hb hby own_d5_0) rfl rfl ?_
    show Steps p.tables e below (s₁.setTop (mkF m 1 #[.val (.ref a0_), .val (.ref a1), .unset] [(.ref a0_)])) _
    refine X0.arraylength hx (by rw [e0]; exact Arr1.1) (State.isArrayOf_alike hZ.alike Arr1.2.1) (g := (mkF m 1 #[.val (.ref a0_), .val (.ref a1), .unset] [(.ref a0_)])) rfl rfl (hb hby own_d5_1) _ ?_
    rw [len_of Sr1 Mr1]
    show Steps p.tables e below (s₁.setTop (mkF m 2 #[.val (.ref a0_), .val (.ref a1), .unset] [(.int z0)])) _
    refine XS.aloadN X0.here hx rfl (hb hby own_d5_2) rfl rfl ?_
    show Steps p.tables e below (s₁.setTop (mkF m 3 #[.val (.ref a0_), .val (.ref a1), .unset] [(.ref a1), (.int z0)])) _
    refine X0.arraylength hx (by rw [e0]; exact Arr2.1) (State.isArrayOf_alike hZ.alike Arr2.2.1) (g := (mkF m 3 #[.val (.ref a0_), .val (.ref a1), .unset] [(.ref a1), (.int z0)])) rfl rfl (hb hby own_d5_3) _ ?_
    rw [len_of Sr2 Mr2]
    show Steps p.tables e below (s₁.setTop (mkF m 4 #[.val (.ref a0_), .val (.ref a1), .unset] [(.int z0), (.int z0)])) _
    refine XS.icmpNo X0.here hx rfl (hb hby own_d5_4) rfl (teq rfl).2 ?_
    show Steps p.tables e below (s₁.setTop (mkF m 7 #[.val (.ref a0_), .val (.ref a1), .unset] [])) _
    refine XS.iconst X0.here hx rfl (hb hby own_d5_7) ?_
    show Steps p.tables e below (s₁.setTop (mkF m 8 #[.val (.ref a0_), .val (.ref a1), .unset] [(.int (0 : Int32))])) _
    refine XS.istoreN X0.here hx rfl (hb hby own_d5_8) rfl (l' := #[.val (.ref a0_), .val (.ref a1), .val (.int (0 : Int32))]) rfl ?_
    show Steps p.tables e below (s₁.setTop (mkF m 9 #[.val (.ref a0_), .val (.ref a1), .val (.int (0 : Int32))] [])) _
    exact q)
  obtain ⟨c0, -, -, S0, M0, -, -⟩ := id V0
  have hz0 : 0 ≤ z0.toInt := by rw [Int32.lt_iff_toInt_lt, show (0 : Int32).toInt = 0 from rfl] at M0; omega
  obtain ⟨i', kL⟩ := own_loop (h0 := h0) X0 hx hZ hw hby hml hown e0 V0 V1 z0.toInt.toNat (0 : Int32) (by decide) (by rw [show (0 : Int32).toInt = 0 from rfl]; omega)
  have kM : own_To p e below s₁ (mkF m 32 #[.val (.ref a0_), .val (.ref a1), .val (.int i')] []) s₁ (mkF m 0 #[.val (.ref a0_), .val (.ref a1), .unset] []) := fun t q => k3 t (kL t q)
  have k4 : own_To p e below s₁ (mkF m 33 #[.val (.ref a0_), .val (.ref a1), .val (.int i')] [(.int (1 : Int32))]) s₁ (mkF m 0 #[.val (.ref a0_), .val (.ref a1), .unset] []) := fun t q => kM t (by
    refine XS.iconst X0.here hx rfl (hb hby own_d5_32) ?_
    show Steps p.tables e below (s₁.setTop (mkF m 33 #[.val (.ref a0_), .val (.ref a1), .val (.int i')] [(.int (1 : Int32))])) _
    exact q)
  obtain ⟨fs, hr, hrun, hended, hW, hsame⟩ := X0.leave (v := some (.int (1 : Int32))) (fun h => by rw [Bd.returns] at h; cases h)
  refine ⟨_, _, k0 _ (k4 _ ?_), hrun, hended, _, _, rfl, ?_, ⟨_, rfl⟩, hW, hsame.mono (by decide) (by decide)⟩
  · show Steps p.tables e below (s₁.setTop (mkF m 33 #[.val (.ref a0_), .val (.ref a1), .val (.int i')] [(.int (1 : Int32))])) _
    exact retN X0 hx (t := .boolean) Bd.returns (by simp) (hb hby own_d5_33) hr
  · show QL1 Z a0_ a1 k0_ z0 v0 k1_ h0 n0 _ s₁.heap _
    rw [e0]
    exact ⟨rfl, N0, rfl⟩
theorem own_sne {Z : State} {h : Heap} {a a' b b' : Addr} {k k' : ClassId} {z z' : Int32} {v v' : List Value} {d d' : Value} (F : Fld Z h a "java/lang/String" "value" "[B" (.ref b)) (G : Fld Z h a' "java/lang/String" "value" "[B" (.ref b')) (V : Arv Z h b k .byte z v d) (W : Arv Z h b' k' .byte z' v' d') (hz : ¬ z = z') : a ≠ a' := fun e => by
  subst e
  by_cases q : b = b'
  · subst q
    obtain ⟨c, A, -, S, M, -⟩ := V
    obtain ⟨c', A', -, S', M', -⟩ := W
    cases A.1.symm.trans A'.1
    apply hz
    rw [Int32.lt_iff_toInt_lt, show (0 : Int32).toInt = 0 from rfl] at M M'
    apply Int32.toInt_inj.mp
    rw [S] at S'
    simp only [Int32.toNatClampNeg] at S'; omega
  · exact (F.ne G (fun w => q (Value.ref.inj w))) rfl
theorem own_pd4 : parseMethodDescriptor "([B[B)Z" = some ⟨[(.array .byte), (.array .byte)], some .boolean⟩ := by decide +kernel
theorem own_d4_0 : decode jdk_42_method_66_code 0 = .ok (.aload_n 0, 1) := by decide +kernel
theorem own_d4_1 : decode jdk_42_method_66_code 1 = .ok (.aload_n 1, 1) := by decide +kernel
theorem own_d4_2 : decode jdk_42_method_66_code 2 = .ok (.if_acmp .ne 5, 3) := by decide +kernel
theorem own_d4_7 : decode jdk_42_method_66_code 7 = .ok (.aload_n 1, 1) := by decide +kernel
theorem own_d4_8 : decode jdk_42_method_66_code 8 = .ok (.instanceof 10, 3) := by decide +kernel
theorem own_d4_11 : decode jdk_42_method_66_code 11 = .ok (.ifCond .eq 43, 3) := by decide +kernel
theorem own_d4_14 : decode jdk_42_method_66_code 14 = .ok (.aload_n 1, 1) := by decide +kernel
theorem own_d4_15 : decode jdk_42_method_66_code 15 = .ok (.checkcast 10, 3) := by decide +kernel
theorem own_d4_18 : decode jdk_42_method_66_code 18 = .ok (.astore_n 2, 1) := by decide +kernel
theorem own_d4_19 : decode jdk_42_method_66_code 19 = .ok (.getstatic 38, 3) := by decide +kernel
theorem own_d4_22 : decode jdk_42_method_66_code 22 = .ok (.ifCond .eq 14, 3) := by decide +kernel
theorem own_d4_25 : decode jdk_42_method_66_code 25 = .ok (.aload_n 0, 1) := by decide +kernel
theorem own_d4_26 : decode jdk_42_method_66_code 26 = .ok (.getfield 15, 3) := by decide +kernel
theorem own_d4_29 : decode jdk_42_method_66_code 29 = .ok (.aload_n 2, 1) := by decide +kernel
theorem own_d4_30 : decode jdk_42_method_66_code 30 = .ok (.getfield 15, 3) := by decide +kernel
theorem own_d4_33 : decode jdk_42_method_66_code 33 = .ok (.if_icmp .ne 21, 3) := by decide +kernel
theorem own_d4_36 : decode jdk_42_method_66_code 36 = .ok (.aload_n 0, 1) := by decide +kernel
theorem own_d4_37 : decode jdk_42_method_66_code 37 = .ok (.getfield 9, 3) := by decide +kernel
theorem own_d4_40 : decode jdk_42_method_66_code 40 = .ok (.aload_n 2, 1) := by decide +kernel
theorem own_d4_41 : decode jdk_42_method_66_code 41 = .ok (.getfield 9, 3) := by decide +kernel
theorem own_d4_44 : decode jdk_42_method_66_code 44 = .ok (.invokestatic 541, 3) := by decide +kernel
theorem own_d4_47 : decode jdk_42_method_66_code 47 = .ok (.ifCond .eq 7, 3) := by decide +kernel
theorem own_d4_54 : decode jdk_42_method_66_code 54 = .ok (.iconst 0, 1) := by decide +kernel
theorem own_d4_55 : decode jdk_42_method_66_code 55 = .ok (.ireturn, 1) := by decide +kernel
theorem own_pn4 : plainName "java/lang/String" = true := by first | (simp [plainName, overriddenIn]; done) | decide +kernel
theorem own_efE0 (m : MethodId) (x0 : Addr) (x1 : Addr) : entryFrame m #[(.ref x0), (.ref x1)] 3 = mkF m 0 #[.val (.ref x0), .val (.ref x1), .unset] [] := by first | (simp [entryFrame, mkF, argsToLocals, Value.category]; done) | rfl
def QE0 (Z : State) (a0_ : Addr) (a1 : Addr) (cs : Int32) (b0_ : Addr) (k0_ : ClassId) (z0 : Int32) (v0 : List Value) (b1_ : Addr) (k1_ : ClassId) (z1 : Int32) (v1 : List Value) (h0 : Heap) (n0 : Nat) (v : Option Value) (h : Heap) (L : List Loc) : Prop := v = some (.int (0 : Int32)) ∧ Fr n0 L ∧ h = h0
set_option maxRecDepth 65536 in
set_option maxHeartbeats 40000000 in
theorem rmE0 (l : Launch) (Z : State) (a0 : Array Value) (hw : ∀ d ∈ tables_1, d.before a0 Z = true) (ws : List Jvm.Cond) (a0_ : Addr) (a1 : Addr) (cs : Int32) (b0_ : Addr) (k0_ : ClassId) (z0 : Int32) (v0 : List Value) (b1_ : Addr) (k1_ : ClassId) (z1 : Int32) (v1 : List Value) (h0 : Heap) (n0 : Nat) (Z0 : n0 ≤ h0.size) (E0 : Exa Z h0 a0_ "java/lang/String") (Fc0 : Fld Z h0 a0_ "java/lang/String" "coder" "B" (.int (0 : Int32))) (Fv0 : Fld Z h0 a0_ "java/lang/String" "value" "[B" (.ref b0_)) (V0 : Arv Z h0 b0_ k0_ .byte z0 v0 (.int (0 : Int32))) (E1 : Exa Z h0 a1 "java/lang/String") (Fc1 : Fld Z h0 a1 "java/lang/String" "coder" "B" (.int (0 : Int32))) (Fv1 : Fld Z h0 a1 "java/lang/String" "value" "[B" (.ref b1_)) (V1 : Arv Z h0 b1_ k1_ .byte z1 v1 (.int (0 : Int32))) (SC : Sta Z Z.heap "java/lang/String" "COMPACT_STRINGS" "Z" (.int cs)) (hcs : ¬ cs = (0 : Int32)) (O0 : Old Z n0 h0) (hz : ¬ z0 = z1) :
    MetFree l (⟨"java/lang/String", "equals", "(Ljava/lang/Object;)Z"⟩ : MethodName) (head1 (Jvm.Cond.code (⟨"java/lang/String", "equals", "(Ljava/lang/Object;)Z"⟩ : MethodName) jdk_42_method_66_code 3 (some .boolean) :: ws) ({ frames := 1, cells := 0, slots := 0, locals := 14 } : Room)) (fun a U => a = #[(.ref a0_), (.ref a1)] ∧ Z.Warmed39 U.vm ∧ U.heap = h0) (fun _ _ _ _ _ => True) (fun _ U o U' => ∃ v L, o = .returned v ∧ QE0 Z a0_ a1 cs b0_ k0_ z0 v0 b1_ k1_ z1 v1 h0 n0 v U'.heap L ∧ FrameEnd U o U' L ({ frames := 1, cells := 0, slots := 0, locals := 14 } : Room).cells ({ frames := 1, cells := 0, slots := 0, locals := 14 } : Room).slots) := by
  refine MetFree.of_bodySF (plainFor_of_name own_pn4) hisR ?_
  intro p e s m args below meth c s₁ Bd hml0 hP hK
  obtain ⟨rfl, hZ, hh⟩ := hP
  have hx := Bd.exec
  have hby := Bd.bytes
  have hml : c.maxLocals = 3 := hml0
  have hown : s.vm.findClass "java/lang/String" = some m.cls := findClass_of_methodNamed Bd.named
  have hnm := (name_of_methodNamed Bd.named Bd.method).1
  have X0 : Stand p l e ({ frames := 1, cells := 0, slots := 0, locals := 14 } : Room) s m #[(.ref a0_), (.ref a1)] below meth c s₁ [] 0 0 := Stand.of_body Bd
  have e0 : s₁.heap = h0 := by rw [← hh, Bd.state]; rfl
  have N0 := Fr.nil n0
  have k0 : own_To p e below s₁ (mkF m 0 #[.val (.ref a0_), .val (.ref a1), .unset] []) s₁ (entryFrame m #[(.ref a0_), (.ref a1)] 3) := fun t k => castTop (own_efE0 m a0_ a1) k
  have ki : own_To p e below s₁ (mkF m 0 #[.val (.ref a0_), .val (.ref a1), .unset] []) s₁ (mkF m 0 #[.val (.ref a0_), .val (.ref a1), .unset] []) := fun t q => q
  have hne := own_sne Fv0 Fv1 V0 V1 hz
  obtain ⟨T1, X1, e1, st1⟩ := instY X0 hx hZ hown (hw _ (List.mem_of_getElem? (i := 35) rfl)) e0 (Ins.self E1) (g := (mkF m 8 #[.val (.ref a0_), .val (.ref a1), .unset] [(.ref a1)])) rfl rfl (hb hby own_d4_8)
  obtain ⟨T2, X2, e2, st2⟩ := castY X1 hx hZ hown (hw _ (List.mem_of_getElem? (i := 35) rfl)) e1 (Ins.self E1) (g := (mkF m 15 #[.val (.ref a0_), .val (.ref a1), .unset] [(.ref a1)])) rfl rfl (hb hby own_d4_15)
  obtain ⟨T3, X3, e3, st3⟩ := getS2 X2 hx hZ hown (host := "") (Or.inl (hw _ (List.mem_of_getElem? (i := 37) rfl))) Via.refl e2 (SC.ext O0.2) (g := (mkF m 19 #[.val (.ref a0_), .val (.ref a1), .val (.ref a1)] [])) rfl (hb hby own_d4_19)
  have k4 : own_To p e below T3 (mkF m 26 #[.val (.ref a0_), .val (.ref a1), .val (.ref a1)] [(.ref a0_)]) s₁ (mkF m 0 #[.val (.ref a0_), .val (.ref a1), .unset] []) := fun t q => ki t (by
    refine XS.aloadN X0.here hx rfl (hb hby own_d4_0) rfl rfl ?_
    show Steps p.tables e below (s₁.setTop (mkF m 1 #[.val (.ref a0_), .val (.ref a1), .unset] [(.ref a0_)])) _
    refine XS.aloadN X0.here hx rfl (hb hby own_d4_1) rfl rfl ?_
    show Steps p.tables e below (s₁.setTop (mkF m 2 #[.val (.ref a0_), .val (.ref a1), .unset] [(.ref a1), (.ref a0_)])) _
    refine Jvm.RoadKit.acmp (g := (mkF m 2 #[.val (.ref a0_), .val (.ref a1), .unset] [(.ref a1), (.ref a0_)])) X0 hx rfl rfl rfl (pc0 := 2) (pc' := 7) (same := false) rfl (hb hby own_d4_2) rfl (decide_eq_false fun q => hne (Value.ref.inj q)) (by decide) (by decide) ?_
    show Steps p.tables e below (s₁.setTop (mkF m 7 #[.val (.ref a0_), .val (.ref a1), .unset] [])) _
    refine XS.aloadN X0.here hx rfl (hb hby own_d4_7) rfl rfl ?_
    show Steps p.tables e below (s₁.setTop (mkF m 8 #[.val (.ref a0_), .val (.ref a1), .unset] [(.ref a1)])) _
    refine st1 _ ?_
    show Steps p.tables e below (T1.setTop (mkF m 11 #[.val (.ref a0_), .val (.ref a1), .unset] [(.int (1 : Int32))])) _
    refine XS.ifNo X1.here hx rfl (hb hby own_d4_11) rfl ((if0 _ _).trans (feq (by decide)).1) ?_
    show Steps p.tables e below (T1.setTop (mkF m 14 #[.val (.ref a0_), .val (.ref a1), .unset] [])) _
    refine XS.aloadN X1.here hx rfl (hb hby own_d4_14) rfl rfl ?_
    show Steps p.tables e below (T1.setTop (mkF m 15 #[.val (.ref a0_), .val (.ref a1), .unset] [(.ref a1)])) _
    refine st2 _ ?_
    show Steps p.tables e below (T2.setTop (mkF m 18 #[.val (.ref a0_), .val (.ref a1), .unset] [(.ref a1)])) _
    refine XS.astoreN X2.here hx rfl (hb hby own_d4_18) rfl rfl (l' := #[.val (.ref a0_), .val (.ref a1), .val (.ref a1)]) rfl ?_
    show Steps p.tables e below (T2.setTop (mkF m 19 #[.val (.ref a0_), .val (.ref a1), .val (.ref a1)] [])) _
    refine st3 _ ?_
    show Steps p.tables e below (T3.setTop (mkF m 22 #[.val (.ref a0_), .val (.ref a1), .val (.ref a1)] [(.int cs)])) _
    refine XS.ifNo X3.here hx rfl (hb hby own_d4_22) rfl ((if0 _ _).trans (feq hcs).1) ?_
    show Steps p.tables e below (T3.setTop (mkF m 25 #[.val (.ref a0_), .val (.ref a1), .val (.ref a1)] [])) _
    refine XS.aloadN X3.here hx rfl (hb hby own_d4_25) rfl rfl ?_
    show Steps p.tables e below (T3.setTop (mkF m 26 #[.val (.ref a0_), .val (.ref a1), .val (.ref a1)] [(.ref a0_)])) _
    exact q)
  obtain ⟨T5, X5, e5, st5⟩ := getF X3 hx hZ hown (host := "") (Or.inl (hw _ (List.mem_of_getElem? (i := 38) rfl))) Via.refl e3 Fc0 (g := (mkF m 26 #[.val (.ref a0_), .val (.ref a1), .val (.ref a1)] [(.ref a0_)])) rfl rfl (hb hby own_d4_26)
  obtain ⟨T6, X6, e6, st6⟩ := getF X5 hx hZ hown (host := "") (Or.inl (hw _ (List.mem_of_getElem? (i := 38) rfl))) Via.refl e5 Fc1 (g := (mkF m 30 #[.val (.ref a0_), .val (.ref a1), .val (.ref a1)] [(.ref a1), (.int (0 : Int32))])) rfl rfl (hb hby own_d4_30)
  obtain ⟨T7, X7, e7, st7⟩ := getF X6 hx hZ hown (host := "") (Or.inl (hw _ (List.mem_of_getElem? (i := 39) rfl))) Via.refl e6 Fv0 (g := (mkF m 37 #[.val (.ref a0_), .val (.ref a1), .val (.ref a1)] [(.ref a0_)])) rfl rfl (hb hby own_d4_37)
  obtain ⟨T8, X8, e8, st8⟩ := getF X7 hx hZ hown (host := "") (Or.inl (hw _ (List.mem_of_getElem? (i := 39) rfl))) Via.refl e7 Fv1 (g := (mkF m 41 #[.val (.ref a0_), .val (.ref a1), .val (.ref a1)] [(.ref a1), (.ref b0_)])) rfl rfl (hb hby own_d4_41)
  obtain ⟨_, _, ⟨T9, L9, kk9, n9⟩, -, X9, ⟨Lc9, hQ9, l9, y9, z9⟩, st9⟩ := Jvm.LawKit.callS X8 hx (y := (⟨"java/lang/StringLatin1", "equals", "([B[B)Z"⟩ : MethodName)) hown (mvT hZ (hw _ (List.mem_of_getElem? (i := 40) rfl))) (mvT hZ (hw _ (List.mem_of_getElem? (i := 41) rfl))) (mvT hZ (hw _ (List.mem_of_getElem? (i := 42) rfl))) (mvT hZ (hw _ (List.mem_of_getElem? (i := 43) rfl))) (by decide) (backOf (W := 0) (rmL0 l Z a0 hw [] b0_ b1_ k0_ z0 v0 k1_ z1 v1 h0 n0 Z0 V0 V1 hz) hZ (hw _ (List.mem_of_getElem? (i := 43) rfl)) (hw _ (List.mem_of_getElem? (i := 42) rfl)) (by decide) (by decide)) (g := (mkF m 44 #[.val (.ref a0_), .val (.ref a1), .val (.ref a1)] [(.ref b1_), (.ref b0_)])) rfl (by rw [hml]; rfl) (argsL := [(.ref b0_), (.ref b1_)]) (rest := []) (lenOf own_pd4 rfl) rfl (by show 2 * 0 + _ ≤ _; exact Nat.le_of_eq rfl) (hb hby own_d4_44) (fun _ _ => ⟨rfl, e8, (by decide : 0 + 0 ≤ _), (by decide : 0 + 0 ≤ _)⟩)
  dsimp only [Pt.U, Pt.locs, Pt.cells, Pt.slots] at X9 l9 y9 z9 st9 hQ9
  subst l9 y9 z9
  obtain ⟨rfl, N9q, e9⟩ := hQ9
  have N9 := Fr.app N0 N9q
  have k10 : own_To p e below T9 (mkF m 55 #[.val (.ref a0_), .val (.ref a1), .val (.ref a1)] [(.int (0 : Int32))]) s₁ (mkF m 0 #[.val (.ref a0_), .val (.ref a1), .unset] []) := fun t q => k4 t (by
    refine st5 _ ?_
    show Steps p.tables e below (T5.setTop (mkF m 29 #[.val (.ref a0_), .val (.ref a1), .val (.ref a1)] [(.int (0 : Int32))])) _
    refine XS.aloadN X5.here hx rfl (hb hby own_d4_29) rfl rfl ?_
    show Steps p.tables e below (T5.setTop (mkF m 30 #[.val (.ref a0_), .val (.ref a1), .val (.ref a1)] [(.ref a1), (.int (0 : Int32))])) _
    refine st6 _ ?_
    show Steps p.tables e below (T6.setTop (mkF m 33 #[.val (.ref a0_), .val (.ref a1), .val (.ref a1)] [(.int (0 : Int32)), (.int (0 : Int32))])) _
    refine XS.icmpNo X6.here hx rfl (hb hby own_d4_33) rfl (teq rfl).2 ?_
    show Steps p.tables e below (T6.setTop (mkF m 36 #[.val (.ref a0_), .val (.ref a1), .val (.ref a1)] [])) _
    refine XS.aloadN X6.here hx rfl (hb hby own_d4_36) rfl rfl ?_
    show Steps p.tables e below (T6.setTop (mkF m 37 #[.val (.ref a0_), .val (.ref a1), .val (.ref a1)] [(.ref a0_)])) _
    refine st7 _ ?_
    show Steps p.tables e below (T7.setTop (mkF m 40 #[.val (.ref a0_), .val (.ref a1), .val (.ref a1)] [(.ref b0_)])) _
    refine XS.aloadN X7.here hx rfl (hb hby own_d4_40) rfl rfl ?_
    show Steps p.tables e below (T7.setTop (mkF m 41 #[.val (.ref a0_), .val (.ref a1), .val (.ref a1)] [(.ref a1), (.ref b0_)])) _
    refine st8 _ ?_
    show Steps p.tables e below (T8.setTop (mkF m 44 #[.val (.ref a0_), .val (.ref a1), .val (.ref a1)] [(.ref b1_), (.ref b0_)])) _
    refine st9 _ ?_
    show Steps p.tables e below (T9.setTop (mkF m 47 #[.val (.ref a0_), .val (.ref a1), .val (.ref a1)] [(.int (0 : Int32))])) _
    refine XS.ifYes X9.here hx rfl (pc0 := 47) (pc' := 54) rfl (hb hby own_d4_47) rfl ((if0 _ _).trans (teq rfl).1) (by decide) (by decide) ?_
    show Steps p.tables e below (T9.setTop (mkF m 54 #[.val (.ref a0_), .val (.ref a1), .val (.ref a1)] [])) _
    refine XS.iconst X9.here hx rfl (hb hby own_d4_54) ?_
    show Steps p.tables e below (T9.setTop (mkF m 55 #[.val (.ref a0_), .val (.ref a1), .val (.ref a1)] [(.int (0 : Int32))])) _
    exact q)
  obtain ⟨fs, hr, hrun, hended, hW, hsame⟩ := X9.leave (v := some (.int (0 : Int32))) (fun h => by rw [Bd.returns] at h; cases h)
  refine ⟨_, _, k0 _ (k10 _ ?_), hrun, hended, _, _, rfl, ?_, ⟨_, rfl⟩, hW, hsame.mono (by decide) (by decide)⟩
  · show Steps p.tables e below (T9.setTop (mkF m 55 #[.val (.ref a0_), .val (.ref a1), .val (.ref a1)] [(.int (0 : Int32))])) _
    exact retN X9 hx (t := .boolean) Bd.returns (by simp) (hb hby own_d4_55) hr
  · show QE0 Z a0_ a1 cs b0_ k0_ z0 v0 b1_ k1_ z1 v1 h0 n0 _ T9.heap _
    rw [e9]
    exact ⟨rfl, N9, rfl⟩
theorem own_d4_5 : decode jdk_42_method_66_code 5 = .ok (.iconst 1, 1) := by decide +kernel
theorem own_d4_6 : decode jdk_42_method_66_code 6 = .ok (.ireturn, 1) := by decide +kernel
theorem own_d4_50 : decode jdk_42_method_66_code 50 = .ok (.iconst 1, 1) := by decide +kernel
theorem own_d4_51 : decode jdk_42_method_66_code 51 = .ok (.goto 4, 3) := by decide +kernel
theorem own_efE1 (m : MethodId) (x0 : Addr) (x1 : Addr) : entryFrame m #[(.ref x0), (.ref x1)] 3 = mkF m 0 #[.val (.ref x0), .val (.ref x1), .unset] [] := by first | (simp [entryFrame, mkF, argsToLocals, Value.category]; done) | rfl
def QE1 (Z : State) (a0_ : Addr) (a1 : Addr) (cs : Int32) (b0_ : Addr) (k0_ : ClassId) (z0 : Int32) (v0 : List Value) (b1_ : Addr) (k1_ : ClassId) (h0 : Heap) (n0 : Nat) (v : Option Value) (h : Heap) (L : List Loc) : Prop := v = some (.int (1 : Int32)) ∧ Fr n0 L ∧ h = h0
set_option maxRecDepth 65536 in
set_option maxHeartbeats 40000000 in
theorem rmE1 (l : Launch) (Z : State) (a0 : Array Value) (hw : ∀ d ∈ tables_1, d.before a0 Z = true) (ws : List Jvm.Cond) (a0_ : Addr) (a1 : Addr) (cs : Int32) (b0_ : Addr) (k0_ : ClassId) (z0 : Int32) (v0 : List Value) (b1_ : Addr) (k1_ : ClassId) (h0 : Heap) (n0 : Nat) (Z0 : n0 ≤ h0.size) (E0 : Exa Z h0 a0_ "java/lang/String") (Fc0 : Fld Z h0 a0_ "java/lang/String" "coder" "B" (.int (0 : Int32))) (Fv0 : Fld Z h0 a0_ "java/lang/String" "value" "[B" (.ref b0_)) (V0 : Arv Z h0 b0_ k0_ .byte z0 v0 (.int (0 : Int32))) (E1 : Exa Z h0 a1 "java/lang/String") (Fc1 : Fld Z h0 a1 "java/lang/String" "coder" "B" (.int (0 : Int32))) (Fv1 : Fld Z h0 a1 "java/lang/String" "value" "[B" (.ref b1_)) (V1 : Arv Z h0 b1_ k1_ .byte z0 v0 (.int (0 : Int32))) (SC : Sta Z Z.heap "java/lang/String" "COMPACT_STRINGS" "Z" (.int cs)) (hcs : ¬ cs = (0 : Int32)) (O0 : Old Z n0 h0) :
    MetFree l (⟨"java/lang/String", "equals", "(Ljava/lang/Object;)Z"⟩ : MethodName) (head1 (Jvm.Cond.code (⟨"java/lang/String", "equals", "(Ljava/lang/Object;)Z"⟩ : MethodName) jdk_42_method_66_code 3 (some .boolean) :: ws) ({ frames := 1, cells := 0, slots := 0, locals := 14 } : Room)) (fun a U => a = #[(.ref a0_), (.ref a1)] ∧ Z.Warmed39 U.vm ∧ U.heap = h0) (fun _ _ _ _ _ => True) (fun _ U o U' => ∃ v L, o = .returned v ∧ QE1 Z a0_ a1 cs b0_ k0_ z0 v0 b1_ k1_ h0 n0 v U'.heap L ∧ FrameEnd U o U' L ({ frames := 1, cells := 0, slots := 0, locals := 14 } : Room).cells ({ frames := 1, cells := 0, slots := 0, locals := 14 } : Room).slots) := by
  refine MetFree.of_bodySF (plainFor_of_name own_pn4) hisR ?_
  intro p e s m args below meth c s₁ Bd hml0 hP hK
  obtain ⟨rfl, hZ, hh⟩ := hP
  have hx := Bd.exec
  have hby := Bd.bytes
  have hml : c.maxLocals = 3 := hml0
  have hown : s.vm.findClass "java/lang/String" = some m.cls := findClass_of_methodNamed Bd.named
  have hnm := (name_of_methodNamed Bd.named Bd.method).1
  have X0 : Stand p l e ({ frames := 1, cells := 0, slots := 0, locals := 14 } : Room) s m #[(.ref a0_), (.ref a1)] below meth c s₁ [] 0 0 := Stand.of_body Bd
  have e0 : s₁.heap = h0 := by rw [← hh, Bd.state]; rfl
  have N0 := Fr.nil n0
  have k0 : own_To p e below s₁ (mkF m 0 #[.val (.ref a0_), .val (.ref a1), .unset] []) s₁ (entryFrame m #[(.ref a0_), (.ref a1)] 3) := fun t k => castTop (own_efE1 m a0_ a1) k
  have ki : own_To p e below s₁ (mkF m 0 #[.val (.ref a0_), .val (.ref a1), .unset] []) s₁ (mkF m 0 #[.val (.ref a0_), .val (.ref a1), .unset] []) := fun t q => q
  have k1 : own_To p e below s₁ (mkF m 2 #[.val (.ref a0_), .val (.ref a1), .unset] [(.ref a1), (.ref a0_)]) s₁ (mkF m 0 #[.val (.ref a0_), .val (.ref a1), .unset] []) := fun t q => ki t (by
    refine XS.aloadN X0.here hx rfl (hb hby own_d4_0) rfl rfl ?_
    show Steps p.tables e below (s₁.setTop (mkF m 1 #[.val (.ref a0_), .val (.ref a1), .unset] [(.ref a0_)])) _
    refine XS.aloadN X0.here hx rfl (hb hby own_d4_1) rfl rfl ?_
    show Steps p.tables e below (s₁.setTop (mkF m 2 #[.val (.ref a0_), .val (.ref a1), .unset] [(.ref a1), (.ref a0_)])) _
    exact q)
  by_cases hc2 : a0_ = a1
  ·
    have k3 : own_To p e below s₁ (mkF m 6 #[.val (.ref a0_), .val (.ref a1), .unset] [(.int (1 : Int32))]) s₁ (mkF m 0 #[.val (.ref a0_), .val (.ref a1), .unset] []) := fun t q => k1 t (by
      refine Jvm.RoadKit.acmp (g := (mkF m 2 #[.val (.ref a0_), .val (.ref a1), .unset] [(.ref a1), (.ref a0_)])) X0 hx rfl rfl rfl (pc0 := 2) (pc' := 5) (same := true) rfl (hb hby own_d4_2) rfl (decide_eq_true (congrArg Value.ref hc2)) (by decide) (by decide) ?_
      show Steps p.tables e below (s₁.setTop (mkF m 5 #[.val (.ref a0_), .val (.ref a1), .unset] [])) _
      refine XS.iconst X0.here hx rfl (hb hby own_d4_5) ?_
      show Steps p.tables e below (s₁.setTop (mkF m 6 #[.val (.ref a0_), .val (.ref a1), .unset] [(.int (1 : Int32))])) _
      exact q)
    obtain ⟨fs, hr, hrun, hended, hW, hsame⟩ := X0.leave (v := some (.int (1 : Int32))) (fun h => by rw [Bd.returns] at h; cases h)
    refine ⟨_, _, k0 _ (k3 _ ?_), hrun, hended, _, _, rfl, ?_, ⟨_, rfl⟩, hW, hsame.mono (by decide) (by decide)⟩
    · show Steps p.tables e below (s₁.setTop (mkF m 6 #[.val (.ref a0_), .val (.ref a1), .unset] [(.int (1 : Int32))])) _
      exact retN X0 hx (t := .boolean) Bd.returns (by simp) (hb hby own_d4_6) hr
    · show QE1 Z a0_ a1 cs b0_ k0_ z0 v0 b1_ k1_ h0 n0 _ s₁.heap _
      rw [e0]
      exact ⟨rfl, N0, rfl⟩
  ·
    obtain ⟨T4, X4, e4, st4⟩ := instY X0 hx hZ hown (hw _ (List.mem_of_getElem? (i := 35) rfl)) e0 (Ins.self E1) (g := (mkF m 8 #[.val (.ref a0_), .val (.ref a1), .unset] [(.ref a1)])) rfl rfl (hb hby own_d4_8)
    obtain ⟨T5, X5, e5, st5⟩ := castY X4 hx hZ hown (hw _ (List.mem_of_getElem? (i := 35) rfl)) e4 (Ins.self E1) (g := (mkF m 15 #[.val (.ref a0_), .val (.ref a1), .unset] [(.ref a1)])) rfl rfl (hb hby own_d4_15)
    obtain ⟨T6, X6, e6, st6⟩ := getS2 X5 hx hZ hown (host := "") (Or.inl (hw _ (List.mem_of_getElem? (i := 37) rfl))) Via.refl e5 (SC.ext O0.2) (g := (mkF m 19 #[.val (.ref a0_), .val (.ref a1), .val (.ref a1)] [])) rfl (hb hby own_d4_19)
    obtain ⟨T7, X7, e7, st7⟩ := getF X6 hx hZ hown (host := "") (Or.inl (hw _ (List.mem_of_getElem? (i := 38) rfl))) Via.refl e6 Fc0 (g := (mkF m 26 #[.val (.ref a0_), .val (.ref a1), .val (.ref a1)] [(.ref a0_)])) rfl rfl (hb hby own_d4_26)
    have k8 : own_To p e below T7 (mkF m 30 #[.val (.ref a0_), .val (.ref a1), .val (.ref a1)] [(.ref a1), (.int (0 : Int32))]) s₁ (mkF m 0 #[.val (.ref a0_), .val (.ref a1), .unset] []) := fun t q => k1 t (by
      refine Jvm.RoadKit.acmp (g := (mkF m 2 #[.val (.ref a0_), .val (.ref a1), .unset] [(.ref a1), (.ref a0_)])) X0 hx rfl rfl rfl (pc0 := 2) (pc' := 7) (same := false) rfl (hb hby own_d4_2) rfl (decide_eq_false fun q => hc2 (Value.ref.inj q)) (by decide) (by decide) ?_
      show Steps p.tables e below (s₁.setTop (mkF m 7 #[.val (.ref a0_), .val (.ref a1), .unset] [])) _
      refine XS.aloadN X0.here hx rfl (hb hby own_d4_7) rfl rfl ?_
      show Steps p.tables e below (s₁.setTop (mkF m 8 #[.val (.ref a0_), .val (.ref a1), .unset] [(.ref a1)])) _
      refine st4 _ ?_
      show Steps p.tables e below (T4.setTop (mkF m 11 #[.val (.ref a0_), .val (.ref a1), .unset] [(.int (1 : Int32))])) _
      refine XS.ifNo X4.here hx rfl (hb hby own_d4_11) rfl ((if0 _ _).trans (feq (by decide)).1) ?_
      show Steps p.tables e below (T4.setTop (mkF m 14 #[.val (.ref a0_), .val (.ref a1), .unset] [])) _
      refine XS.aloadN X4.here hx rfl (hb hby own_d4_14) rfl rfl ?_
      show Steps p.tables e below (T4.setTop (mkF m 15 #[.val (.ref a0_), .val (.ref a1), .unset] [(.ref a1)])) _
      refine st5 _ ?_
      show Steps p.tables e below (T5.setTop (mkF m 18 #[.val (.ref a0_), .val (.ref a1), .unset] [(.ref a1)])) _
      refine XS.astoreN X5.here hx rfl (hb hby own_d4_18) rfl rfl (l' := #[.val (.ref a0_), .val (.ref a1), .val (.ref a1)]) rfl ?_
      show Steps p.tables e below (T5.setTop (mkF m 19 #[.val (.ref a0_), .val (.ref a1), .val (.ref a1)] [])) _
      refine st6 _ ?_
      show Steps p.tables e below (T6.setTop (mkF m 22 #[.val (.ref a0_), .val (.ref a1), .val (.ref a1)] [(.int cs)])) _
      refine XS.ifNo X6.here hx rfl (hb hby own_d4_22) rfl ((if0 _ _).trans (feq hcs).1) ?_
      show Steps p.tables e below (T6.setTop (mkF m 25 #[.val (.ref a0_), .val (.ref a1), .val (.ref a1)] [])) _
      refine XS.aloadN X6.here hx rfl (hb hby own_d4_25) rfl rfl ?_
      show Steps p.tables e below (T6.setTop (mkF m 26 #[.val (.ref a0_), .val (.ref a1), .val (.ref a1)] [(.ref a0_)])) _
      refine st7 _ ?_
      show Steps p.tables e below (T7.setTop (mkF m 29 #[.val (.ref a0_), .val (.ref a1), .val (.ref a1)] [(.int (0 : Int32))])) _
      refine XS.aloadN X7.here hx rfl (hb hby own_d4_29) rfl rfl ?_
      show Steps p.tables e below (T7.setTop (mkF m 30 #[.val (.ref a0_), .val (.ref a1), .val (.ref a1)] [(.ref a1), (.int (0 : Int32))])) _
      exact q)
    obtain ⟨T9, X9, e9, st9⟩ := getF X7 hx hZ hown (host := "") (Or.inl (hw _ (List.mem_of_getElem? (i := 38) rfl))) Via.refl e7 Fc1 (g := (mkF m 30 #[.val (.ref a0_), .val (.ref a1), .val (.ref a1)] [(.ref a1), (.int (0 : Int32))])) rfl rfl (hb hby own_d4_30)
    obtain ⟨T10, X10, e10, st10⟩ := getF X9 hx hZ hown (host := "") (Or.inl (hw _ (List.mem_of_getElem? (i := 39) rfl))) Via.refl e9 Fv0 (g := (mkF m 37 #[.val (.ref a0_), .val (.ref a1), .val (.ref a1)] [(.ref a0_)])) rfl rfl (hb hby own_d4_37)
    obtain ⟨T11, X11, e11, st11⟩ := getF X10 hx hZ hown (host := "") (Or.inl (hw _ (List.mem_of_getElem? (i := 39) rfl))) Via.refl e10 Fv1 (g := (mkF m 41 #[.val (.ref a0_), .val (.ref a1), .val (.ref a1)] [(.ref a1), (.ref b0_)])) rfl rfl (hb hby own_d4_41)
    obtain ⟨_, _, ⟨T12, L12, kk12, n12⟩, -, X12, ⟨Lc12, hQ12, l12, y12, z12⟩, st12⟩ := Jvm.LawKit.callS X11 hx (y := (⟨"java/lang/StringLatin1", "equals", "([B[B)Z"⟩ : MethodName)) hown (mvT hZ (hw _ (List.mem_of_getElem? (i := 40) rfl))) (mvT hZ (hw _ (List.mem_of_getElem? (i := 41) rfl))) (mvT hZ (hw _ (List.mem_of_getElem? (i := 42) rfl))) (mvT hZ (hw _ (List.mem_of_getElem? (i := 43) rfl))) (by decide) (backOf (W := 0) (rmL1 l Z a0 hw [] b0_ b1_ k0_ z0 v0 k1_ h0 n0 Z0 V0 V1) hZ (hw _ (List.mem_of_getElem? (i := 43) rfl)) (hw _ (List.mem_of_getElem? (i := 42) rfl)) (by decide) (by decide)) (g := (mkF m 44 #[.val (.ref a0_), .val (.ref a1), .val (.ref a1)] [(.ref b1_), (.ref b0_)])) rfl (by rw [hml]; rfl) (argsL := [(.ref b0_), (.ref b1_)]) (rest := []) (lenOf own_pd4 rfl) rfl (by show 2 * 0 + _ ≤ _; exact Nat.le_of_eq rfl) (hb hby own_d4_44) (fun _ _ => ⟨rfl, e11, (by decide : 0 + 0 ≤ _), (by decide : 0 + 0 ≤ _)⟩)
    dsimp only [Pt.U, Pt.locs, Pt.cells, Pt.slots] at X12 l12 y12 z12 st12 hQ12
    subst l12 y12 z12
    obtain ⟨rfl, N12q, e12⟩ := hQ12
    have N12 := Fr.app N0 N12q
    have k13 : own_To p e below T12 (mkF m 55 #[.val (.ref a0_), .val (.ref a1), .val (.ref a1)] [(.int (1 : Int32))]) s₁ (mkF m 0 #[.val (.ref a0_), .val (.ref a1), .unset] []) := fun t q => k8 t (by
      refine st9 _ ?_
      show Steps p.tables e below (T9.setTop (mkF m 33 #[.val (.ref a0_), .val (.ref a1), .val (.ref a1)] [(.int (0 : Int32)), (.int (0 : Int32))])) _
      refine XS.icmpNo X9.here hx rfl (hb hby own_d4_33) rfl (teq rfl).2 ?_
      show Steps p.tables e below (T9.setTop (mkF m 36 #[.val (.ref a0_), .val (.ref a1), .val (.ref a1)] [])) _
      refine XS.aloadN X9.here hx rfl (hb hby own_d4_36) rfl rfl ?_
      show Steps p.tables e below (T9.setTop (mkF m 37 #[.val (.ref a0_), .val (.ref a1), .val (.ref a1)] [(.ref a0_)])) _
      refine st10 _ ?_
      show Steps p.tables e below (T10.setTop (mkF m 40 #[.val (.ref a0_), .val (.ref a1), .val (.ref a1)] [(.ref b0_)])) _
      refine XS.aloadN X10.here hx rfl (hb hby own_d4_40) rfl rfl ?_
      show Steps p.tables e below (T10.setTop (mkF m 41 #[.val (.ref a0_), .val (.ref a1), .val (.ref a1)] [(.ref a1), (.ref b0_)])) _
      refine st11 _ ?_
      show Steps p.tables e below (T11.setTop (mkF m 44 #[.val (.ref a0_), .val (.ref a1), .val (.ref a1)] [(.ref b1_), (.ref b0_)])) _
      refine st12 _ ?_
      show Steps p.tables e below (T12.setTop (mkF m 47 #[.val (.ref a0_), .val (.ref a1), .val (.ref a1)] [(.int (1 : Int32))])) _
      refine XS.ifNo X12.here hx rfl (hb hby own_d4_47) rfl ((if0 _ _).trans (feq (by decide)).1) ?_
      show Steps p.tables e below (T12.setTop (mkF m 50 #[.val (.ref a0_), .val (.ref a1), .val (.ref a1)] [])) _
      refine XS.iconst X12.here hx rfl (hb hby own_d4_50) ?_
      show Steps p.tables e below (T12.setTop (mkF m 51 #[.val (.ref a0_), .val (.ref a1), .val (.ref a1)] [(.int (1 : Int32))])) _
      refine XS.goto X12.here hx rfl (pc0 := 51) (pc' := 55) rfl (hb hby own_d4_51) (by decide) (by decide) ?_
      show Steps p.tables e below (T12.setTop (mkF m 55 #[.val (.ref a0_), .val (.ref a1), .val (.ref a1)] [(.int (1 : Int32))])) _
      exact q)
    obtain ⟨fs, hr, hrun, hended, hW, hsame⟩ := X12.leave (v := some (.int (1 : Int32))) (fun h => by rw [Bd.returns] at h; cases h)
    refine ⟨_, _, k0 _ (k13 _ ?_), hrun, hended, _, _, rfl, ?_, ⟨_, rfl⟩, hW, hsame.mono (by decide) (by decide)⟩
    · show Steps p.tables e below (T12.setTop (mkF m 55 #[.val (.ref a0_), .val (.ref a1), .val (.ref a1)] [(.int (1 : Int32))])) _
      exact retN X12 hx (t := .boolean) Bd.returns (by simp) (hb hby own_d4_55) hr
    · show QE1 Z a0_ a1 cs b0_ k0_ z0 v0 b1_ k1_ h0 n0 _ T12.heap _
      rw [e12]
      exact ⟨rfl, N12, rfl⟩
theorem own_pd2 : parseMethodDescriptor "(I)Lcom/example/issuer/issuer/protocol/ErrorCode;" = some ⟨[.int], some (.object "com/example/issuer/issuer/protocol/ErrorCode")⟩ := by decide +kernel
theorem own_pd1 : parseMethodDescriptor "()Ljava/lang/String;" = some ⟨[], some (.object "java/lang/String")⟩ := by decide +kernel
theorem own_pd0 : parseMethodDescriptor "()I" = some ⟨[], some .int⟩ := by decide +kernel
theorem own_pd3 : parseMethodDescriptor "(Ljava/lang/Object;)Z" = some ⟨[(.object "java/lang/Object")], some .boolean⟩ := by decide +kernel
theorem own_pn0 : plainName "com/example/issuer/issuer/protocol/ErrorCodeGetTypePinLaw" = true := by first | (simp [plainName, overriddenIn]; done) | decide +kernel
theorem own_ef0 (m : MethodId) (x0 : Int32) : entryFrame m #[(.int x0)] maxLocals = mkF m 0 #[.val (.int x0), .unset, .unset, .unset, .unset, .unset] [] := by first | (simp [entryFrame, mkF, argsToLocals, Value.category, maxLocals]; done) | rfl
def Q0 (Z : State) (p0 : Int32) (en : Nat → Addr) (cs : Int32) (h0 : Heap) (n0 : Nat) (v : Option Value) (h : Heap) (L : List Loc) : Prop := v = some (.int 1) ∧ Fr n0 L
set_option maxRecDepth 65536 in
set_option maxHeartbeats 40000000 in
theorem rm0 (l : Launch) (Z : State) (a0 : Array Value) (hw : ∀ d ∈ tables_1, d.before a0 Z = true) (ws : List Jvm.Cond) (p0 : Int32) (en : Nat → Addr) (cs : Int32) (h0 : Heap) (n0 : Nat) (Z0 : n0 ≤ h0.size) (HE : own_en Z en) (O0 : Old Z n0 h0) (SC : Sta Z Z.heap "java/lang/String" "COMPACT_STRINGS" "Z" (.int cs)) (hcs : ¬ cs = (0 : Int32)) (hEL : EW Z a0 own_EL) :
    MetFree l x (head1 (Jvm.Cond.code x code maxLocals ret :: ws) room_1) (fun a U => a = #[(.int p0)] ∧ Z.Warmed39 U.vm ∧ U.heap = h0 ∧ CHv Z own_EL U.vm h0) (fun _ _ _ _ _ => True) (fun _ U o U' => ∃ v L, o = .returned v ∧ Q0 Z p0 en cs h0 n0 v U'.heap L ∧ CHr Z own_EL U.vm U.heap U'.vm U'.heap ∧ ReturnedEndW U o U' L 8 4160) := by
  refine MetFree.of_bodySF (plainFor_of_name own_pn0) hisR ?_
  intro p e s m args below meth c s₁ Bd hml0 hP hK
  obtain ⟨rfl, hZ, hh, hCH⟩ := hP
  have hx := Bd.exec
  have hby := Bd.bytes
  have hml : c.maxLocals = 6 := hml0
  have hown : s.vm.findClass "com/example/issuer/issuer/protocol/ErrorCodeGetTypePinLaw" = some m.cls := findClass_of_methodNamed Bd.named
  have hnm := (name_of_methodNamed Bd.named Bd.method).1
  have X0 : Stand p l e room_1 s m #[(.int p0)] below meth c s₁ [] 0 0 := Stand.of_body Bd
  have e0 : s₁.heap = h0 := by rw [← hh, Bd.state]; rfl
  have N0 := Fr.nil n0
  have k0 : own_To p e below s₁ (mkF m 0 #[.val (.int p0), .unset, .unset, .unset, .unset, .unset] []) s₁ (entryFrame m #[(.int p0)] maxLocals) := fun t k => castTop (own_ef0 m p0) k
  have ki : own_To p e below s₁ (mkF m 0 #[.val (.int p0), .unset, .unset, .unset, .unset, .unset] []) s₁ (mkF m 0 #[.val (.int p0), .unset, .unset, .unset, .unset, .unset] []) := fun t q => q
  have hstr : ∀ a ∈ Bundle.stringAtoms, a.before a0 Z = true := fun d hd => hw d ((by decide +kernel : ∀ d ∈ Bundle.stringAtoms, d ∈ tables_1) d hd)
  have X0 := own_base X0
  have CR0 := CHr.refl hCH
  have k1 : own_To p e below s₁ (mkF m 8 #[.val (.int p0), .val (.int ((p0 &&& (2147483647 : Int32)) % (18 : Int32))), .unset, .unset, .unset, .unset] []) s₁ (mkF m 0 #[.val (.int p0), .unset, .unset, .unset, .unset, .unset] []) := fun t q => ki t (by
    refine XS.iloadN X0.here hx rfl (hb hby at_0) rfl ?_
    show Steps p.tables e below (s₁.setTop (mkF m 1 #[.val (.int p0), .unset, .unset, .unset, .unset, .unset] [(.int p0)])) _
    refine X0.ldcInt hx hown (mvT hZ (hw _ (List.mem_of_getElem? (i := 0) rfl))) (g := (mkF m 1 #[.val (.int p0), .unset, .unset, .unset, .unset, .unset] [(.int p0)])) rfl (hb hby at_1) _ ?_
    show Steps p.tables e below (s₁.setTop (mkF m 3 #[.val (.int p0), .unset, .unset, .unset, .unset, .unset] [(.int (2147483647 : Int32)), (.int p0)])) _
    refine XS.iand X0.here hx rfl (hb hby at_3) rfl ?_
    show Steps p.tables e below (s₁.setTop (mkF m 4 #[.val (.int p0), .unset, .unset, .unset, .unset, .unset] [(.int (p0 &&& (2147483647 : Int32)))])) _
    refine XS.bipush X0.here hx rfl (hb hby at_4) ?_
    show Steps p.tables e below (s₁.setTop (mkF m 6 #[.val (.int p0), .unset, .unset, .unset, .unset, .unset] [(.int (18 : Int32)), (.int (p0 &&& (2147483647 : Int32)))])) _
    refine iremM X0 hx rfl (hb hby at_6) rfl (by decide) ?_
    show Steps p.tables e below (s₁.setTop (mkF m 7 #[.val (.int p0), .unset, .unset, .unset, .unset, .unset] [(.int ((p0 &&& (2147483647 : Int32)) % (18 : Int32)))])) _
    refine XS.istoreN X0.here hx rfl (hb hby at_7) rfl (l' := #[.val (.int p0), .val (.int ((p0 &&& (2147483647 : Int32)) % (18 : Int32))), .unset, .unset, .unset, .unset]) rfl ?_
    show Steps p.tables e below (s₁.setTop (mkF m 8 #[.val (.int p0), .val (.int ((p0 &&& (2147483647 : Int32)) % (18 : Int32))), .unset, .unset, .unset, .unset] [])) _
    exact q)
  by_cases hi : ((p0 &&& (2147483647 : Int32)) % (18 : Int32)) = (17 : Int32)
  ·
    have hst := (own_cd p0).2 hi
    obtain ⟨_, _, ⟨T2, L2, kk2, n2⟩, -, X2, ⟨Lc2, hQ2, l2, y2, z2⟩, st2⟩ := Jvm.LawKit.callS X0 hx (y := (⟨"com/example/issuer/issuer/protocol/ErrorCodeGetTypePinLaw", "pick", "(I)Lcom/example/issuer/issuer/protocol/ErrorCode;"⟩ : MethodName)) hown (mvT hZ (hw _ (List.mem_of_getElem? (i := 1) rfl))) (mvT hZ (hw _ (List.mem_of_getElem? (i := 2) rfl))) (mvT hZ (hw _ (List.mem_of_getElem? (i := 3) rfl))) (mvT hZ (hw _ (List.mem_of_getElem? (i := 4) rfl))) (by decide) (backOf (W := 0) (rm1 l Z a0 hw [] ((p0 &&& (2147483647 : Int32)) % (18 : Int32)) en h0 n0 Z0 HE O0) hZ (hw _ (List.mem_of_getElem? (i := 4) rfl)) (hw _ (List.mem_of_getElem? (i := 3) rfl)) (by decide) (by decide)) (g := (mkF m 9 #[.val (.int p0), .val (.int ((p0 &&& (2147483647 : Int32)) % (18 : Int32))), .unset, .unset, .unset, .unset] [(.int ((p0 &&& (2147483647 : Int32)) % (18 : Int32)))])) rfl (by rw [hml]; rfl) (argsL := [(.int ((p0 &&& (2147483647 : Int32)) % (18 : Int32)))]) (rest := []) (lenOf own_pd2 rfl) rfl (by show 2 * 0 + _ ≤ _; exact Nat.le_of_eq rfl) (hb hby at_9) (fun _ _ => ⟨rfl, e0, (by decide : 0 + 0 ≤ _), (by decide : 0 + 0 ≤ _)⟩)
    dsimp only [Pt.U, Pt.locs, Pt.cells, Pt.slots] at X2 l2 y2 z2 st2 hQ2
    subst l2 y2 z2
    obtain ⟨rfl, N2q, e2⟩ := hQ2
    have N2 := Fr.app N0 N2q
    have XF2 : Exa Z h0 (own_pick en ((p0 &&& (2147483647 : Int32)) % (18 : Int32))) "com/example/issuer/issuer/protocol/ErrorCode" ∧ Fld Z h0 (own_pick en ((p0 &&& (2147483647 : Int32)) % (18 : Int32))) "com/example/issuer/issuer/protocol/ErrorCode" "httpStatus" "I" (.int (own_code (own_ix ((p0 &&& (2147483647 : Int32)) % (18 : Int32))))) := by
      rw [(own_pickE en ((p0 &&& (2147483647 : Int32)) % (18 : Int32))).1]; exact ⟨(HE.2 _ (own_pickE en ((p0 &&& (2147483647 : Int32)) % (18 : Int32))).2).1.ext O0.2, (HE.2 _ (own_pickE en ((p0 &&& (2147483647 : Int32)) % (18 : Int32))).2).2.ext O0.2⟩
    obtain ⟨cq3, kq3, q3a, q3b, q3c⟩ := isOf (s := s.setVm s.vm) hZ e2 XF2.1
    obtain ⟨_, _, ⟨T3, L3, kk3, n3⟩, -, X3, hSs3, hgr3, ⟨Lc3, hQ3, l3, y3, z3, hC3⟩, st3⟩ := X2.virtualBackS hx (y := (⟨"com/example/issuer/issuer/protocol/ErrorCode", "getType", "()Ljava/lang/String;"⟩ : MethodName)) (z := (⟨"com/example/issuer/issuer/protocol/ErrorCode", "getType", "()Ljava/lang/String;"⟩ : MethodName)) hown (mvT hZ (hw _ (List.mem_of_getElem? (i := 8) rfl))) (mvT hZ (hw _ (List.mem_of_getElem? (i := 9) rfl))) (notFace_of_selects (args := #[]) (mvT hZ (hw _ (List.mem_of_getElem? (i := 11) rfl)))) (mvT hZ (hw _ (List.mem_of_getElem? (i := 11) rfl))) (mvT hZ (hw _ (List.mem_of_getElem? (i := 10) rfl))) (by decide) (backOfSH (s := s) (vm0 := s.vm) (W := 0) (rmgR l Z a0 hw [] (own_pick en ((p0 &&& (2147483647 : Int32)) % (18 : Int32))) (own_code (own_ix ((p0 &&& (2147483647 : Int32)) % (18 : Int32)))) h0 n0 Z0 XF2.2 hst hEL) hZ (hw _ (List.mem_of_getElem? (i := 12) rfl)) (hw _ (List.mem_of_getElem? (i := 6) rfl)) (by decide) (by decide) hEL hCH) q3a q3c (g := (mkF m 14 #[.val (.int p0), .val (.int ((p0 &&& (2147483647 : Int32)) % (18 : Int32))), .val (.ref (own_pick en ((p0 &&& (2147483647 : Int32)) % (18 : Int32)))), .unset, .unset, .unset] [(.ref (own_pick en ((p0 &&& (2147483647 : Int32)) % (18 : Int32))))])) rfl (by rw [hml]; rfl) (Steps.refl _) (argsL := []) (rest := []) (lenOf own_pd1 rfl) rfl (by show 2 * 0 + _ ≤ _; exact Nat.le_of_eq rfl) (hb hby at_14) (fun _ _ => ⟨rfl, e2, (by decide : 0 + 2 ≤ _), (by decide : 0 + 36 ≤ _)⟩)
    dsimp only [Pt.U, Pt.locs, Pt.cells, Pt.slots] at X3 l3 y3 z3 st3 hQ3 hSs3 hgr3 hC3
    subst l3 y3 z3
    have X3 := own_again X3
    have hSn3 := foldS (State.WarmedH.since (State.WarmedH.refl s) 0) (by rw [e2]; exact (Nat.zero_le _)) hSs3 hgr3
    have hZn3 : Z.Warmed39 (s.setVm T3.vm).vm := State.Warmed39.trans (t := s.setVm s.vm) hZ hSs3.1
    have hon3 : (s.setVm T3.vm).vm.findClass "com/example/issuer/issuer/protocol/ErrorCodeGetTypePinLaw" = some m.cls := by rw [show (s.setVm T3.vm).vm = T3.vm from rfl, hSs3.1.alike.findClass]; exact hown
    have hZ := hZn3
    have hown := hon3
    have CRl3 := CR0.trans hC3
    have CHl3 := CRl3.1
    obtain ⟨r3, rb3, kc3, rfl, N3q, K3, Ex3, Fc3, Fv3, V3⟩ := hQ3
    have N3 := Fr.app N2 N3q
    obtain ⟨b4, T4, h4, kk4, bb4, kb4, X4, e4, E4, hS4, hk4, hZ4, hown4, Ex4, Fc4, Fv4, V4, -, -, hC4, -, -, st4⟩ := ldcCH (vm0 := T3.vm) X3 hx hZ hown (hw _ (List.mem_of_getElem? (i := 34) rfl)) hstr rfl hSn3 (Nat.le_refl _) hEL (List.mem_of_getElem? (i := 2) rfl) CHl3 (vs := [(.int (82 : Int32)), (.int (101 : Int32)), (.int (99 : Int32)), (.int (101 : Int32)), (.int (105 : Int32)), (.int (118 : Int32)), (.int (101 : Int32)), (.int (114 : Int32))]) (z := (8 : Int32)) ⟨by decide, rfl⟩ (by decide) rfl (g := (mkF m 30 #[.val (.int p0), .val (.int ((p0 &&& (2147483647 : Int32)) % (18 : Int32))), .val (.ref (own_pick en ((p0 &&& (2147483647 : Int32)) % (18 : Int32)))), .val (.ref r3), .unset, .unset] [])) rfl (hb hby at_30) (n := 32) (by decide) (by decide) (by decide) (by decide)
    have hZ := hZ4
    have hown := hown4
    have CRl4 := CRl3.trans hC4
    have CHl4 := CRl4.1
    have k5 : own_To p e below T4 (mkF m 32 #[.val (.int p0), .val (.int ((p0 &&& (2147483647 : Int32)) % (18 : Int32))), .val (.ref (own_pick en ((p0 &&& (2147483647 : Int32)) % (18 : Int32)))), .val (.ref r3), .unset, .unset] [(.ref b4)]) s₁ (mkF m 0 #[.val (.int p0), .unset, .unset, .unset, .unset, .unset] []) := fun t q => k1 t (by
      refine XS.iloadN X0.here hx rfl (hb hby at_8) rfl ?_
      show Steps p.tables e below (s₁.setTop (mkF m 9 #[.val (.int p0), .val (.int ((p0 &&& (2147483647 : Int32)) % (18 : Int32))), .unset, .unset, .unset, .unset] [(.int ((p0 &&& (2147483647 : Int32)) % (18 : Int32)))])) _
      refine st2 _ ?_
      show Steps p.tables e below (T2.setTop (mkF m 12 #[.val (.int p0), .val (.int ((p0 &&& (2147483647 : Int32)) % (18 : Int32))), .unset, .unset, .unset, .unset] [(.ref (own_pick en ((p0 &&& (2147483647 : Int32)) % (18 : Int32))))])) _
      refine XS.astoreN X2.here hx rfl (hb hby at_12) rfl rfl (l' := #[.val (.int p0), .val (.int ((p0 &&& (2147483647 : Int32)) % (18 : Int32))), .val (.ref (own_pick en ((p0 &&& (2147483647 : Int32)) % (18 : Int32)))), .unset, .unset, .unset]) rfl ?_
      show Steps p.tables e below (T2.setTop (mkF m 13 #[.val (.int p0), .val (.int ((p0 &&& (2147483647 : Int32)) % (18 : Int32))), .val (.ref (own_pick en ((p0 &&& (2147483647 : Int32)) % (18 : Int32)))), .unset, .unset, .unset] [])) _
      refine XS.aloadN X2.here hx rfl (hb hby at_13) rfl rfl ?_
      show Steps p.tables e below (T2.setTop (mkF m 14 #[.val (.int p0), .val (.int ((p0 &&& (2147483647 : Int32)) % (18 : Int32))), .val (.ref (own_pick en ((p0 &&& (2147483647 : Int32)) % (18 : Int32)))), .unset, .unset, .unset] [(.ref (own_pick en ((p0 &&& (2147483647 : Int32)) % (18 : Int32))))])) _
      refine st3.trans ?_
      show Steps p.tables e below (T3.setTop (mkF m 17 #[.val (.int p0), .val (.int ((p0 &&& (2147483647 : Int32)) % (18 : Int32))), .val (.ref (own_pick en ((p0 &&& (2147483647 : Int32)) % (18 : Int32)))), .unset, .unset, .unset] [(.ref r3)])) _
      refine XS.astoreN X3.here hx rfl (hb hby at_17) rfl rfl (l' := #[.val (.int p0), .val (.int ((p0 &&& (2147483647 : Int32)) % (18 : Int32))), .val (.ref (own_pick en ((p0 &&& (2147483647 : Int32)) % (18 : Int32)))), .val (.ref r3), .unset, .unset]) rfl ?_
      show Steps p.tables e below (T3.setTop (mkF m 18 #[.val (.int p0), .val (.int ((p0 &&& (2147483647 : Int32)) % (18 : Int32))), .val (.ref (own_pick en ((p0 &&& (2147483647 : Int32)) % (18 : Int32)))), .val (.ref r3), .unset, .unset] [])) _
      refine XS.aloadN X3.here hx rfl (hb hby at_18) rfl rfl ?_
      show Steps p.tables e below (T3.setTop (mkF m 19 #[.val (.int p0), .val (.int ((p0 &&& (2147483647 : Int32)) % (18 : Int32))), .val (.ref (own_pick en ((p0 &&& (2147483647 : Int32)) % (18 : Int32)))), .val (.ref r3), .unset, .unset] [(.ref r3)])) _
      refine XS.ifnonnullYes X3.here hx rfl (pc0 := 19) (pc' := 24) rfl (hb hby at_19) rfl (by decide) (by decide) ?_
      show Steps p.tables e below (T3.setTop (mkF m 24 #[.val (.int p0), .val (.int ((p0 &&& (2147483647 : Int32)) % (18 : Int32))), .val (.ref (own_pick en ((p0 &&& (2147483647 : Int32)) % (18 : Int32)))), .val (.ref r3), .unset, .unset] [])) _
      refine XS.iloadN X3.here hx rfl (hb hby at_24) rfl ?_
      show Steps p.tables e below (T3.setTop (mkF m 25 #[.val (.int p0), .val (.int ((p0 &&& (2147483647 : Int32)) % (18 : Int32))), .val (.ref (own_pick en ((p0 &&& (2147483647 : Int32)) % (18 : Int32)))), .val (.ref r3), .unset, .unset] [(.int ((p0 &&& (2147483647 : Int32)) % (18 : Int32)))])) _
      refine XS.bipush X3.here hx rfl (hb hby at_25) ?_
      show Steps p.tables e below (T3.setTop (mkF m 27 #[.val (.int p0), .val (.int ((p0 &&& (2147483647 : Int32)) % (18 : Int32))), .val (.ref (own_pick en ((p0 &&& (2147483647 : Int32)) % (18 : Int32)))), .val (.ref r3), .unset, .unset] [(.int (17 : Int32)), (.int ((p0 &&& (2147483647 : Int32)) % (18 : Int32)))])) _
      refine XS.icmpNo X3.here hx rfl (hb hby at_27) rfl (teq hi).2 ?_
      show Steps p.tables e below (T3.setTop (mkF m 30 #[.val (.int p0), .val (.int ((p0 &&& (2147483647 : Int32)) % (18 : Int32))), .val (.ref (own_pick en ((p0 &&& (2147483647 : Int32)) % (18 : Int32)))), .val (.ref r3), .unset, .unset] [])) _
      refine st4 _ ?_
      show Steps p.tables e below (T4.setTop (mkF m 32 #[.val (.int p0), .val (.int ((p0 &&& (2147483647 : Int32)) % (18 : Int32))), .val (.ref (own_pick en ((p0 &&& (2147483647 : Int32)) % (18 : Int32)))), .val (.ref r3), .unset, .unset] [(.ref b4)])) _
      exact q)
    have K7 : Keep h0 h4 [] := (((Keep.refl h0 []).trans K3 all0).ext E4)
    have F8 := ((XF2.2.keep K3 nin0).ext E4)
    have F9 := ((XF2.1.keep K3).ext E4)
    obtain ⟨cq6, kq6, q6a, q6b, q6c⟩ := isOf hZ e4 F9
    obtain ⟨_, _, ⟨T6, L6, kk6, n6⟩, -, X6, ⟨Lc6, hQ6, l6, y6, z6⟩, st6⟩ := X4.virtualBack hx (y := (⟨"com/example/issuer/issuer/protocol/ErrorCode", "getHttpStatus", "()I"⟩ : MethodName)) (z := (⟨"com/example/issuer/issuer/protocol/ErrorCode", "getHttpStatus", "()I"⟩ : MethodName)) hown (mvT hZ (hw _ (List.mem_of_getElem? (i := 24) rfl))) (mvT hZ (hw _ (List.mem_of_getElem? (i := 25) rfl))) (notFace_of_selects (args := #[]) (mvT hZ (hw _ (List.mem_of_getElem? (i := 27) rfl)))) (mvT hZ (hw _ (List.mem_of_getElem? (i := 27) rfl))) (mvT hZ (hw _ (List.mem_of_getElem? (i := 26) rfl))) (by decide) (backOf (W := 0) (rm3 l Z a0 hw [] (own_pick en ((p0 &&& (2147483647 : Int32)) % (18 : Int32))) (own_code (own_ix ((p0 &&& (2147483647 : Int32)) % (18 : Int32)))) h4 n0 (Nat.le_trans Z0 K7.1) F8) hZ (hw _ (List.mem_of_getElem? (i := 28) rfl)) (hw _ (List.mem_of_getElem? (i := 6) rfl)) (by decide) (by decide)) q6a q6c (g := (mkF m 40 #[.val (.int p0), .val (.int ((p0 &&& (2147483647 : Int32)) % (18 : Int32))), .val (.ref (own_pick en ((p0 &&& (2147483647 : Int32)) % (18 : Int32)))), .val (.ref r3), .val (.ref b4), .unset] [(.ref (own_pick en ((p0 &&& (2147483647 : Int32)) % (18 : Int32))))])) rfl (by rw [hml]; rfl) (Steps.refl _) (argsL := []) (rest := []) (lenOf own_pd0 rfl) rfl (by show 2 * 0 + _ ≤ _; exact Nat.le_of_eq rfl) (hb hby at_40) (fun _ _ => ⟨rfl, e4, (by decide : 4 + 0 ≤ _), (by decide : 72 + 0 ≤ _)⟩)
    dsimp only [Pt.U, Pt.locs, Pt.cells, Pt.slots] at X6 l6 y6 z6 st6 hQ6
    subst l6 y6 z6
    obtain ⟨rfl, N6q, e6⟩ := hQ6
    have N6 := Fr.app N3 N6q
    have F11 := (Ex3.ext E4)
    have F12 := (Fc3.ext E4)
    have F13 := (Fv3.ext E4)
    have F14 := (V3.ext E4)
    have O15 : Old Z n0 h4 := ((O0.keep K3 all0).ext E4)
    obtain ⟨cq10, kq10, q10a, q10b, q10c⟩ := isOf hZ e6 F11
    obtain ⟨_, _, ⟨T10, L10, kk10, n10⟩, -, X10, ⟨Lc10, hQ10, l10, y10, z10⟩, st10⟩ := X6.virtualBack hx (y := (⟨"java/lang/String", "equals", "(Ljava/lang/Object;)Z"⟩ : MethodName)) (z := (⟨"java/lang/String", "equals", "(Ljava/lang/Object;)Z"⟩ : MethodName)) hown (mvT hZ (hw _ (List.mem_of_getElem? (i := 29) rfl))) (mvT hZ (hw _ (List.mem_of_getElem? (i := 30) rfl))) (notFace_of_selects (args := #[]) (mvT hZ (hw _ (List.mem_of_getElem? (i := 32) rfl)))) (mvT hZ (hw _ (List.mem_of_getElem? (i := 32) rfl))) (mvT hZ (hw _ (List.mem_of_getElem? (i := 31) rfl))) (by decide) (backOf (W := 0) (rmE1 l Z a0 hw [] r3 b4 cs rb3 kc3 (8 : Int32) [(.int (82 : Int32)), (.int (101 : Int32)), (.int (99 : Int32)), (.int (101 : Int32)), (.int (105 : Int32)), (.int (118 : Int32)), (.int (101 : Int32)), (.int (114 : Int32))] bb4 kb4 h4 n0 (Nat.le_trans Z0 K7.1) F11 F12 F13 F14 Ex4 Fc4 Fv4 V4 SC hcs O15) hZ (hw _ (List.mem_of_getElem? (i := 33) rfl)) (hw _ (List.mem_of_getElem? (i := 16) rfl)) (by decide) (by decide)) q10a q10c (g := (mkF m 59 #[.val (.int p0), .val (.int ((p0 &&& (2147483647 : Int32)) % (18 : Int32))), .val (.ref (own_pick en ((p0 &&& (2147483647 : Int32)) % (18 : Int32)))), .val (.ref r3), .val (.ref b4), .val (.int (0 : Int32))] [(.ref b4), (.ref r3)])) rfl (by rw [hml]; rfl) (Steps.refl _) (argsL := [(.ref b4)]) (rest := []) (lenOf own_pd3 rfl) rfl (by show 2 * 0 + _ ≤ _; exact Nat.le_of_eq rfl) (hb hby at_59) (fun _ _ => ⟨rfl, e6, (by decide : 4 + 0 ≤ _), (by decide : 72 + 0 ≤ _)⟩)
    dsimp only [Pt.U, Pt.locs, Pt.cells, Pt.slots] at X10 l10 y10 z10 st10 hQ10
    subst l10 y10 z10
    obtain ⟨rfl, N10q, e10⟩ := hQ10
    have N10 := Fr.app N6 N10q
    have k16 : own_To p e below T10 (mkF m 65 #[.val (.int p0), .val (.int ((p0 &&& (2147483647 : Int32)) % (18 : Int32))), .val (.ref (own_pick en ((p0 &&& (2147483647 : Int32)) % (18 : Int32)))), .val (.ref r3), .val (.ref b4), .val (.int (0 : Int32))] []) s₁ (mkF m 0 #[.val (.int p0), .unset, .unset, .unset, .unset, .unset] []) := fun t q => k5 t (by
      refine XS.goto X4.here hx rfl (pc0 := 32) (pc' := 37) rfl (hb hby at_32) (by decide) (by decide) ?_
      show Steps p.tables e below (T4.setTop (mkF m 37 #[.val (.int p0), .val (.int ((p0 &&& (2147483647 : Int32)) % (18 : Int32))), .val (.ref (own_pick en ((p0 &&& (2147483647 : Int32)) % (18 : Int32)))), .val (.ref r3), .unset, .unset] [(.ref b4)])) _
      refine XS.astore X4.here hx rfl (hb hby at_37) rfl rfl (l' := #[.val (.int p0), .val (.int ((p0 &&& (2147483647 : Int32)) % (18 : Int32))), .val (.ref (own_pick en ((p0 &&& (2147483647 : Int32)) % (18 : Int32)))), .val (.ref r3), .val (.ref b4), .unset]) rfl ?_
      show Steps p.tables e below (T4.setTop (mkF m 39 #[.val (.int p0), .val (.int ((p0 &&& (2147483647 : Int32)) % (18 : Int32))), .val (.ref (own_pick en ((p0 &&& (2147483647 : Int32)) % (18 : Int32)))), .val (.ref r3), .val (.ref b4), .unset] [])) _
      refine XS.aloadN X4.here hx rfl (hb hby at_39) rfl rfl ?_
      show Steps p.tables e below (T4.setTop (mkF m 40 #[.val (.int p0), .val (.int ((p0 &&& (2147483647 : Int32)) % (18 : Int32))), .val (.ref (own_pick en ((p0 &&& (2147483647 : Int32)) % (18 : Int32)))), .val (.ref r3), .val (.ref b4), .unset] [(.ref (own_pick en ((p0 &&& (2147483647 : Int32)) % (18 : Int32))))])) _
      refine st6.trans ?_
      show Steps p.tables e below (T6.setTop (mkF m 43 #[.val (.int p0), .val (.int ((p0 &&& (2147483647 : Int32)) % (18 : Int32))), .val (.ref (own_pick en ((p0 &&& (2147483647 : Int32)) % (18 : Int32)))), .val (.ref r3), .val (.ref b4), .unset] [(.int (own_code (own_ix ((p0 &&& (2147483647 : Int32)) % (18 : Int32)))))])) _
      refine XS.sipush X6.here hx rfl (hb hby at_43) ?_
      show Steps p.tables e below (T6.setTop (mkF m 46 #[.val (.int p0), .val (.int ((p0 &&& (2147483647 : Int32)) % (18 : Int32))), .val (.ref (own_pick en ((p0 &&& (2147483647 : Int32)) % (18 : Int32)))), .val (.ref r3), .val (.ref b4), .unset] [(.int (500 : Int32)), (.int (own_code (own_ix ((p0 &&& (2147483647 : Int32)) % (18 : Int32)))))])) _
      refine XS.icmpYes X6.here hx rfl (pc0 := 46) (pc' := 53) rfl (hb hby at_46) rfl (flt hst).2.1 (by decide) (by decide) ?_
      show Steps p.tables e below (T6.setTop (mkF m 53 #[.val (.int p0), .val (.int ((p0 &&& (2147483647 : Int32)) % (18 : Int32))), .val (.ref (own_pick en ((p0 &&& (2147483647 : Int32)) % (18 : Int32)))), .val (.ref r3), .val (.ref b4), .unset] [])) _
      refine XS.iconst X6.here hx rfl (hb hby at_53) ?_
      show Steps p.tables e below (T6.setTop (mkF m 54 #[.val (.int p0), .val (.int ((p0 &&& (2147483647 : Int32)) % (18 : Int32))), .val (.ref (own_pick en ((p0 &&& (2147483647 : Int32)) % (18 : Int32)))), .val (.ref r3), .val (.ref b4), .unset] [(.int (0 : Int32))])) _
      refine XS.istore X6.here hx rfl (hb hby at_54) rfl (l' := #[.val (.int p0), .val (.int ((p0 &&& (2147483647 : Int32)) % (18 : Int32))), .val (.ref (own_pick en ((p0 &&& (2147483647 : Int32)) % (18 : Int32)))), .val (.ref r3), .val (.ref b4), .val (.int (0 : Int32))]) rfl ?_
      show Steps p.tables e below (T6.setTop (mkF m 56 #[.val (.int p0), .val (.int ((p0 &&& (2147483647 : Int32)) % (18 : Int32))), .val (.ref (own_pick en ((p0 &&& (2147483647 : Int32)) % (18 : Int32)))), .val (.ref r3), .val (.ref b4), .val (.int (0 : Int32))] [])) _
      refine XS.aloadN X6.here hx rfl (hb hby at_56) rfl rfl ?_
      show Steps p.tables e below (T6.setTop (mkF m 57 #[.val (.int p0), .val (.int ((p0 &&& (2147483647 : Int32)) % (18 : Int32))), .val (.ref (own_pick en ((p0 &&& (2147483647 : Int32)) % (18 : Int32)))), .val (.ref r3), .val (.ref b4), .val (.int (0 : Int32))] [(.ref r3)])) _
      refine XS.aload X6.here hx rfl (hb hby at_57) rfl rfl ?_
      show Steps p.tables e below (T6.setTop (mkF m 59 #[.val (.int p0), .val (.int ((p0 &&& (2147483647 : Int32)) % (18 : Int32))), .val (.ref (own_pick en ((p0 &&& (2147483647 : Int32)) % (18 : Int32)))), .val (.ref r3), .val (.ref b4), .val (.int (0 : Int32))] [(.ref b4), (.ref r3)])) _
      refine st10.trans ?_
      show Steps p.tables e below (T10.setTop (mkF m 62 #[.val (.int p0), .val (.int ((p0 &&& (2147483647 : Int32)) % (18 : Int32))), .val (.ref (own_pick en ((p0 &&& (2147483647 : Int32)) % (18 : Int32)))), .val (.ref r3), .val (.ref b4), .val (.int (0 : Int32))] [(.int (1 : Int32))])) _
      refine XS.ifNo X10.here hx rfl (hb hby at_62) rfl ((if0 _ _).trans (feq (by decide)).1) ?_
      show Steps p.tables e below (T10.setTop (mkF m 65 #[.val (.int p0), .val (.int ((p0 &&& (2147483647 : Int32)) % (18 : Int32))), .val (.ref (own_pick en ((p0 &&& (2147483647 : Int32)) % (18 : Int32)))), .val (.ref r3), .val (.ref b4), .val (.int (0 : Int32))] [])) _
      exact q)
    obtain ⟨b17, T17, h17, kk17, bb17, kb17, X17, e17, E17, hS17, hk17, hZ17, hown17, Ex17, Fc17, Fv17, V17, -, -, hC17, -, -, st17⟩ := ldcCH (vm0 := T4.vm) X10 hx hZ hown (hw _ (List.mem_of_getElem? (i := 23) rfl)) hstr e10 hS4 hk4 hEL (List.mem_of_getElem? (i := 3) rfl) CHl4 (vs := [(.int (83 : Int32)), (.int (101 : Int32)), (.int (110 : Int32)), (.int (100 : Int32)), (.int (101 : Int32)), (.int (114 : Int32))]) (z := (6 : Int32)) ⟨by decide, rfl⟩ (by decide) rfl (g := (mkF m 68 #[.val (.int p0), .val (.int ((p0 &&& (2147483647 : Int32)) % (18 : Int32))), .val (.ref (own_pick en ((p0 &&& (2147483647 : Int32)) % (18 : Int32)))), .val (.ref r3), .val (.ref b4), .val (.int (0 : Int32))] [(.ref r3), (.int (0 : Int32))])) rfl (hb hby at_68) (n := 24) (by decide) (by decide) (by decide) (by decide)
    have hZ := hZ17
    have hown := hown17
    have CRl17 := CRl4.trans hC17
    have CHl17 := CRl17.1
    have F19 := (F11.ext E17)
    have F20 := (F12.ext E17)
    have F21 := (F13.ext E17)
    have F22 := (F14.ext E17)
    have K23 : Keep h0 h17 [] := (K7.ext E17)
    have O24 : Old Z n0 h17 := (O15.ext E17)
    obtain ⟨cq18, kq18, q18a, q18b, q18c⟩ := isOf hZ e17 F19
    obtain ⟨_, _, ⟨T18, L18, kk18, n18⟩, -, X18, ⟨Lc18, hQ18, l18, y18, z18⟩, st18⟩ := X17.virtualBack hx (y := (⟨"java/lang/String", "equals", "(Ljava/lang/Object;)Z"⟩ : MethodName)) (z := (⟨"java/lang/String", "equals", "(Ljava/lang/Object;)Z"⟩ : MethodName)) hown (mvT hZ (hw _ (List.mem_of_getElem? (i := 29) rfl))) (mvT hZ (hw _ (List.mem_of_getElem? (i := 30) rfl))) (notFace_of_selects (args := #[]) (mvT hZ (hw _ (List.mem_of_getElem? (i := 32) rfl)))) (mvT hZ (hw _ (List.mem_of_getElem? (i := 32) rfl))) (mvT hZ (hw _ (List.mem_of_getElem? (i := 31) rfl))) (by decide) (backOf (W := 1) (rmE0 l Z a0 hw [] r3 b17 cs rb3 kc3 (8 : Int32) [(.int (82 : Int32)), (.int (101 : Int32)), (.int (99 : Int32)), (.int (101 : Int32)), (.int (105 : Int32)), (.int (118 : Int32)), (.int (101 : Int32)), (.int (114 : Int32))] bb17 kb17 (6 : Int32) [(.int (83 : Int32)), (.int (101 : Int32)), (.int (110 : Int32)), (.int (100 : Int32)), (.int (101 : Int32)), (.int (114 : Int32))] h17 n0 (Nat.le_trans Z0 K23.1) F19 F20 F21 F22 Ex17 Fc17 Fv17 V17 SC hcs O24 (by decide)) hZ (hw _ (List.mem_of_getElem? (i := 33) rfl)) (hw _ (List.mem_of_getElem? (i := 16) rfl)) (by decide) (by decide)) q18a q18c (g := (mkF m 70 #[.val (.int p0), .val (.int ((p0 &&& (2147483647 : Int32)) % (18 : Int32))), .val (.ref (own_pick en ((p0 &&& (2147483647 : Int32)) % (18 : Int32)))), .val (.ref r3), .val (.ref b4), .val (.int (0 : Int32))] [(.ref b17), (.ref r3), (.int (0 : Int32))])) rfl (by rw [hml]; rfl) (Steps.refl _) (argsL := [(.ref b17)]) (rest := [(.int (0 : Int32))]) (lenOf own_pd3 rfl) rfl (by show 2 * 0 + _ ≤ _; exact Nat.le_of_eq rfl) (hb hby at_70) (fun _ _ => ⟨rfl, e17, (by decide : 6 + 0 ≤ _), (by decide : 100 + 0 ≤ _)⟩)
    dsimp only [Pt.U, Pt.locs, Pt.cells, Pt.slots] at X18 l18 y18 z18 st18 hQ18
    subst l18 y18 z18
    obtain ⟨rfl, N18q, e18⟩ := hQ18
    have N18 := Fr.app N10 N18q
    obtain ⟨b25, T25, h25, kk25, bb25, kb25, X25, e25, E25, hS25, hk25, hZ25, hown25, Ex25, Fc25, Fv25, V25, -, -, hC25, -, -, st25⟩ := ldcCH (vm0 := T17.vm) X18 hx hZ hown (hw _ (List.mem_of_getElem? (i := 34) rfl)) hstr e18 hS17 hk17 hEL (List.mem_of_getElem? (i := 2) rfl) CHl17 (vs := [(.int (82 : Int32)), (.int (101 : Int32)), (.int (99 : Int32)), (.int (101 : Int32)), (.int (105 : Int32)), (.int (118 : Int32)), (.int (101 : Int32)), (.int (114 : Int32))]) (z := (8 : Int32)) ⟨by decide, rfl⟩ (by decide) rfl (g := (mkF m 79 #[.val (.int p0), .val (.int ((p0 &&& (2147483647 : Int32)) % (18 : Int32))), .val (.ref (own_pick en ((p0 &&& (2147483647 : Int32)) % (18 : Int32)))), .val (.ref r3), .val (.ref b4), .val (.int (0 : Int32))] [(.ref r3), (.int (0 : Int32))])) rfl (hb hby at_79) (n := 32) (by decide) (by decide) (by decide) (by decide)
    have hZ := hZ25
    have hown := hown25
    have CRl25 := CRl17.trans hC25
    have CHl25 := CRl25.1
    have F27 := (F19.ext E25)
    have F28 := (F20.ext E25)
    have F29 := (F21.ext E25)
    have F30 := (F22.ext E25)
    have K31 : Keep h0 h25 [] := (K23.ext E25)
    have O32 : Old Z n0 h25 := (O24.ext E25)
    obtain ⟨cq26, kq26, q26a, q26b, q26c⟩ := isOf hZ e25 F27
    obtain ⟨_, _, ⟨T26, L26, kk26, n26⟩, -, X26, ⟨Lc26, hQ26, l26, y26, z26⟩, st26⟩ := X25.virtualBack hx (y := (⟨"java/lang/String", "equals", "(Ljava/lang/Object;)Z"⟩ : MethodName)) (z := (⟨"java/lang/String", "equals", "(Ljava/lang/Object;)Z"⟩ : MethodName)) hown (mvT hZ (hw _ (List.mem_of_getElem? (i := 29) rfl))) (mvT hZ (hw _ (List.mem_of_getElem? (i := 30) rfl))) (notFace_of_selects (args := #[]) (mvT hZ (hw _ (List.mem_of_getElem? (i := 32) rfl)))) (mvT hZ (hw _ (List.mem_of_getElem? (i := 32) rfl))) (mvT hZ (hw _ (List.mem_of_getElem? (i := 31) rfl))) (by decide) (backOf (W := 1) (rmE1 l Z a0 hw [] r3 b25 cs rb3 kc3 (8 : Int32) [(.int (82 : Int32)), (.int (101 : Int32)), (.int (99 : Int32)), (.int (101 : Int32)), (.int (105 : Int32)), (.int (118 : Int32)), (.int (101 : Int32)), (.int (114 : Int32))] bb25 kb25 h25 n0 (Nat.le_trans Z0 K31.1) F27 F28 F29 F30 Ex25 Fc25 Fv25 V25 SC hcs O32) hZ (hw _ (List.mem_of_getElem? (i := 33) rfl)) (hw _ (List.mem_of_getElem? (i := 16) rfl)) (by decide) (by decide)) q26a q26c (g := (mkF m 81 #[.val (.int p0), .val (.int ((p0 &&& (2147483647 : Int32)) % (18 : Int32))), .val (.ref (own_pick en ((p0 &&& (2147483647 : Int32)) % (18 : Int32)))), .val (.ref r3), .val (.ref b4), .val (.int (0 : Int32))] [(.ref b25), (.ref r3), (.int (0 : Int32))])) rfl (by rw [hml]; rfl) (Steps.refl _) (argsL := [(.ref b25)]) (rest := [(.int (0 : Int32))]) (lenOf own_pd3 rfl) rfl (by show 2 * 0 + _ ≤ _; exact Nat.le_of_eq rfl) (hb hby at_81) (fun _ _ => ⟨rfl, e25, (by decide : 8 + 0 ≤ _), (by decide : 136 + 0 ≤ _)⟩)
    dsimp only [Pt.U, Pt.locs, Pt.cells, Pt.slots] at X26 l26 y26 z26 st26 hQ26
    subst l26 y26 z26
    obtain ⟨rfl, N26q, e26⟩ := hQ26
    have N26 := Fr.app N18 N26q
    have k33 : own_To p e below T26 (mkF m 92 #[.val (.int p0), .val (.int ((p0 &&& (2147483647 : Int32)) % (18 : Int32))), .val (.ref (own_pick en ((p0 &&& (2147483647 : Int32)) % (18 : Int32)))), .val (.ref r3), .val (.ref b4), .val (.int (0 : Int32))] [(.int (1 : Int32))]) s₁ (mkF m 0 #[.val (.int p0), .unset, .unset, .unset, .unset, .unset] []) := fun t q => k16 t (by
      refine XS.iload X10.here hx rfl (hb hby at_65) rfl ?_
      show Steps p.tables e below (T10.setTop (mkF m 67 #[.val (.int p0), .val (.int ((p0 &&& (2147483647 : Int32)) % (18 : Int32))), .val (.ref (own_pick en ((p0 &&& (2147483647 : Int32)) % (18 : Int32)))), .val (.ref r3), .val (.ref b4), .val (.int (0 : Int32))] [(.int (0 : Int32))])) _
      refine XS.aloadN X10.here hx rfl (hb hby at_67) rfl rfl ?_
      show Steps p.tables e below (T10.setTop (mkF m 68 #[.val (.int p0), .val (.int ((p0 &&& (2147483647 : Int32)) % (18 : Int32))), .val (.ref (own_pick en ((p0 &&& (2147483647 : Int32)) % (18 : Int32)))), .val (.ref r3), .val (.ref b4), .val (.int (0 : Int32))] [(.ref r3), (.int (0 : Int32))])) _
      refine st17 _ ?_
      show Steps p.tables e below (T17.setTop (mkF m 70 #[.val (.int p0), .val (.int ((p0 &&& (2147483647 : Int32)) % (18 : Int32))), .val (.ref (own_pick en ((p0 &&& (2147483647 : Int32)) % (18 : Int32)))), .val (.ref r3), .val (.ref b4), .val (.int (0 : Int32))] [(.ref b17), (.ref r3), (.int (0 : Int32))])) _
      refine st18.trans ?_
      show Steps p.tables e below (T18.setTop (mkF m 73 #[.val (.int p0), .val (.int ((p0 &&& (2147483647 : Int32)) % (18 : Int32))), .val (.ref (own_pick en ((p0 &&& (2147483647 : Int32)) % (18 : Int32)))), .val (.ref r3), .val (.ref b4), .val (.int (0 : Int32))] [(.int (0 : Int32)), (.int (0 : Int32))])) _
      refine XS.icmpNo X18.here hx rfl (hb hby at_73) rfl (teq rfl).2 ?_
      show Steps p.tables e below (T18.setTop (mkF m 76 #[.val (.int p0), .val (.int ((p0 &&& (2147483647 : Int32)) % (18 : Int32))), .val (.ref (own_pick en ((p0 &&& (2147483647 : Int32)) % (18 : Int32)))), .val (.ref r3), .val (.ref b4), .val (.int (0 : Int32))] [])) _
      refine XS.iload X18.here hx rfl (hb hby at_76) rfl ?_
      show Steps p.tables e below (T18.setTop (mkF m 78 #[.val (.int p0), .val (.int ((p0 &&& (2147483647 : Int32)) % (18 : Int32))), .val (.ref (own_pick en ((p0 &&& (2147483647 : Int32)) % (18 : Int32)))), .val (.ref r3), .val (.ref b4), .val (.int (0 : Int32))] [(.int (0 : Int32))])) _
      refine XS.aloadN X18.here hx rfl (hb hby at_78) rfl rfl ?_
      show Steps p.tables e below (T18.setTop (mkF m 79 #[.val (.int p0), .val (.int ((p0 &&& (2147483647 : Int32)) % (18 : Int32))), .val (.ref (own_pick en ((p0 &&& (2147483647 : Int32)) % (18 : Int32)))), .val (.ref r3), .val (.ref b4), .val (.int (0 : Int32))] [(.ref r3), (.int (0 : Int32))])) _
      refine st25 _ ?_
      show Steps p.tables e below (T25.setTop (mkF m 81 #[.val (.int p0), .val (.int ((p0 &&& (2147483647 : Int32)) % (18 : Int32))), .val (.ref (own_pick en ((p0 &&& (2147483647 : Int32)) % (18 : Int32)))), .val (.ref r3), .val (.ref b4), .val (.int (0 : Int32))] [(.ref b25), (.ref r3), (.int (0 : Int32))])) _
      refine st26.trans ?_
      show Steps p.tables e below (T26.setTop (mkF m 84 #[.val (.int p0), .val (.int ((p0 &&& (2147483647 : Int32)) % (18 : Int32))), .val (.ref (own_pick en ((p0 &&& (2147483647 : Int32)) % (18 : Int32)))), .val (.ref r3), .val (.ref b4), .val (.int (0 : Int32))] [(.int (1 : Int32)), (.int (0 : Int32))])) _
      refine XS.icmpNo X26.here hx rfl (hb hby at_84) rfl (feq (by decide)).1 ?_
      show Steps p.tables e below (T26.setTop (mkF m 87 #[.val (.int p0), .val (.int ((p0 &&& (2147483647 : Int32)) % (18 : Int32))), .val (.ref (own_pick en ((p0 &&& (2147483647 : Int32)) % (18 : Int32)))), .val (.ref r3), .val (.ref b4), .val (.int (0 : Int32))] [])) _
      refine XS.iconst X26.here hx rfl (hb hby at_87) ?_
      show Steps p.tables e below (T26.setTop (mkF m 88 #[.val (.int p0), .val (.int ((p0 &&& (2147483647 : Int32)) % (18 : Int32))), .val (.ref (own_pick en ((p0 &&& (2147483647 : Int32)) % (18 : Int32)))), .val (.ref r3), .val (.ref b4), .val (.int (0 : Int32))] [(.int (1 : Int32))])) _
      refine XS.goto X26.here hx rfl (pc0 := 88) (pc' := 92) rfl (hb hby at_88) (by decide) (by decide) ?_
      show Steps p.tables e below (T26.setTop (mkF m 92 #[.val (.int p0), .val (.int ((p0 &&& (2147483647 : Int32)) % (18 : Int32))), .val (.ref (own_pick en ((p0 &&& (2147483647 : Int32)) % (18 : Int32)))), .val (.ref r3), .val (.ref b4), .val (.int (0 : Int32))] [(.int (1 : Int32))])) _
      exact q)
    have hCe := CRl25.trans (CHv.at (vm0 := T25.vm) X26 hZ hEL CHl25)
    obtain ⟨fs, hr, hrun, hended, hEnd⟩ := Stand.leaveW (s := s) (vm₁ := T25.vm) X26 hS25 (by rw [e26]; exact hk25) (v := some (.int (1 : Int32))) (fun h => by rw [Bd.returns] at h; cases h)
    refine ⟨_, _, k0 _ (k33 _ ?_), hrun, hended, _, _, rfl, ?_, ?_, hEnd.1, hEnd.2.1, hEnd.2.2.1, hEnd.2.2.2.mono (by decide) (by decide)⟩
    · show Steps p.tables e below (T26.setTop (mkF m 92 #[.val (.int p0), .val (.int ((p0 &&& (2147483647 : Int32)) % (18 : Int32))), .val (.ref (own_pick en ((p0 &&& (2147483647 : Int32)) % (18 : Int32)))), .val (.ref r3), .val (.ref b4), .val (.int (0 : Int32))] [(.int (1 : Int32))])) _
      exact retN X26 hx (t := .boolean) Bd.returns (by simp) (hb hby at_92) hr
    · show Q0 Z p0 en cs h0 n0 _ T26.heap _
      rw [e26]
      exact ⟨rfl, N26⟩
    · show CHr Z own_EL s.vm s.heap T26.vm T26.heap
      rw [hh, e26]; exact hCe
  ·
    have hst := (own_cd p0).1 hi
    obtain ⟨_, _, ⟨T34, L34, kk34, n34⟩, -, X34, ⟨Lc34, hQ34, l34, y34, z34⟩, st34⟩ := Jvm.LawKit.callS X0 hx (y := (⟨"com/example/issuer/issuer/protocol/ErrorCodeGetTypePinLaw", "pick", "(I)Lcom/example/issuer/issuer/protocol/ErrorCode;"⟩ : MethodName)) hown (mvT hZ (hw _ (List.mem_of_getElem? (i := 1) rfl))) (mvT hZ (hw _ (List.mem_of_getElem? (i := 2) rfl))) (mvT hZ (hw _ (List.mem_of_getElem? (i := 3) rfl))) (mvT hZ (hw _ (List.mem_of_getElem? (i := 4) rfl))) (by decide) (backOf (W := 0) (rm1 l Z a0 hw [] ((p0 &&& (2147483647 : Int32)) % (18 : Int32)) en h0 n0 Z0 HE O0) hZ (hw _ (List.mem_of_getElem? (i := 4) rfl)) (hw _ (List.mem_of_getElem? (i := 3) rfl)) (by decide) (by decide)) (g := (mkF m 9 #[.val (.int p0), .val (.int ((p0 &&& (2147483647 : Int32)) % (18 : Int32))), .unset, .unset, .unset, .unset] [(.int ((p0 &&& (2147483647 : Int32)) % (18 : Int32)))])) rfl (by rw [hml]; rfl) (argsL := [(.int ((p0 &&& (2147483647 : Int32)) % (18 : Int32)))]) (rest := []) (lenOf own_pd2 rfl) rfl (by show 2 * 0 + _ ≤ _; exact Nat.le_of_eq rfl) (hb hby at_9) (fun _ _ => ⟨rfl, e0, (by decide : 0 + 0 ≤ _), (by decide : 0 + 0 ≤ _)⟩)
    dsimp only [Pt.U, Pt.locs, Pt.cells, Pt.slots] at X34 l34 y34 z34 st34 hQ34
    subst l34 y34 z34
    obtain ⟨rfl, N34q, e34⟩ := hQ34
    have N34 := Fr.app N0 N34q
    have XF34 : Exa Z h0 (own_pick en ((p0 &&& (2147483647 : Int32)) % (18 : Int32))) "com/example/issuer/issuer/protocol/ErrorCode" ∧ Fld Z h0 (own_pick en ((p0 &&& (2147483647 : Int32)) % (18 : Int32))) "com/example/issuer/issuer/protocol/ErrorCode" "httpStatus" "I" (.int (own_code (own_ix ((p0 &&& (2147483647 : Int32)) % (18 : Int32))))) := by
      rw [(own_pickE en ((p0 &&& (2147483647 : Int32)) % (18 : Int32))).1]; exact ⟨(HE.2 _ (own_pickE en ((p0 &&& (2147483647 : Int32)) % (18 : Int32))).2).1.ext O0.2, (HE.2 _ (own_pickE en ((p0 &&& (2147483647 : Int32)) % (18 : Int32))).2).2.ext O0.2⟩
    obtain ⟨cq35, kq35, q35a, q35b, q35c⟩ := isOf (s := s.setVm s.vm) hZ e34 XF34.1
    obtain ⟨_, _, ⟨T35, L35, kk35, n35⟩, -, X35, hSs35, hgr35, ⟨Lc35, hQ35, l35, y35, z35, hC35⟩, st35⟩ := X34.virtualBackS hx (y := (⟨"com/example/issuer/issuer/protocol/ErrorCode", "getType", "()Ljava/lang/String;"⟩ : MethodName)) (z := (⟨"com/example/issuer/issuer/protocol/ErrorCode", "getType", "()Ljava/lang/String;"⟩ : MethodName)) hown (mvT hZ (hw _ (List.mem_of_getElem? (i := 8) rfl))) (mvT hZ (hw _ (List.mem_of_getElem? (i := 9) rfl))) (notFace_of_selects (args := #[]) (mvT hZ (hw _ (List.mem_of_getElem? (i := 11) rfl)))) (mvT hZ (hw _ (List.mem_of_getElem? (i := 11) rfl))) (mvT hZ (hw _ (List.mem_of_getElem? (i := 10) rfl))) (by decide) (backOfSH (s := s) (vm0 := s.vm) (W := 0) (rmgS l Z a0 hw [] (own_pick en ((p0 &&& (2147483647 : Int32)) % (18 : Int32))) (own_code (own_ix ((p0 &&& (2147483647 : Int32)) % (18 : Int32)))) h0 n0 Z0 XF34.2 hst hEL) hZ (hw _ (List.mem_of_getElem? (i := 12) rfl)) (hw _ (List.mem_of_getElem? (i := 6) rfl)) (by decide) (by decide) hEL hCH) q35a q35c (g := (mkF m 14 #[.val (.int p0), .val (.int ((p0 &&& (2147483647 : Int32)) % (18 : Int32))), .val (.ref (own_pick en ((p0 &&& (2147483647 : Int32)) % (18 : Int32)))), .unset, .unset, .unset] [(.ref (own_pick en ((p0 &&& (2147483647 : Int32)) % (18 : Int32))))])) rfl (by rw [hml]; rfl) (Steps.refl _) (argsL := []) (rest := []) (lenOf own_pd1 rfl) rfl (by show 2 * 0 + _ ≤ _; exact Nat.le_of_eq rfl) (hb hby at_14) (fun _ _ => ⟨rfl, e34, (by decide : 0 + 2 ≤ _), (by decide : 0 + 28 ≤ _)⟩)
    dsimp only [Pt.U, Pt.locs, Pt.cells, Pt.slots] at X35 l35 y35 z35 st35 hQ35 hSs35 hgr35 hC35
    subst l35 y35 z35
    have X35 := own_again X35
    have hSn35 := foldS (State.WarmedH.since (State.WarmedH.refl s) 0) (by rw [e34]; exact (Nat.zero_le _)) hSs35 hgr35
    have hZn35 : Z.Warmed39 (s.setVm T35.vm).vm := State.Warmed39.trans (t := s.setVm s.vm) hZ hSs35.1
    have hon35 : (s.setVm T35.vm).vm.findClass "com/example/issuer/issuer/protocol/ErrorCodeGetTypePinLaw" = some m.cls := by rw [show (s.setVm T35.vm).vm = T35.vm from rfl, hSs35.1.alike.findClass]; exact hown
    have hZ := hZn35
    have hown := hon35
    have CRl35 := CR0.trans hC35
    have CHl35 := CRl35.1
    obtain ⟨r35, rb35, kc35, rfl, N35q, K35, Ex35, Fc35, Fv35, V35⟩ := hQ35
    have N35 := Fr.app N34 N35q
    obtain ⟨b36, T36, h36, kk36, bb36, kb36, X36, e36, E36, hS36, hk36, hZ36, hown36, Ex36, Fc36, Fv36, V36, -, -, hC36, -, -, st36⟩ := ldcCH (vm0 := T35.vm) X35 hx hZ hown (hw _ (List.mem_of_getElem? (i := 23) rfl)) hstr rfl hSn35 (Nat.le_refl _) hEL (List.mem_of_getElem? (i := 3) rfl) CHl35 (vs := [(.int (83 : Int32)), (.int (101 : Int32)), (.int (110 : Int32)), (.int (100 : Int32)), (.int (101 : Int32)), (.int (114 : Int32))]) (z := (6 : Int32)) ⟨by decide, rfl⟩ (by decide) rfl (g := (mkF m 35 #[.val (.int p0), .val (.int ((p0 &&& (2147483647 : Int32)) % (18 : Int32))), .val (.ref (own_pick en ((p0 &&& (2147483647 : Int32)) % (18 : Int32)))), .val (.ref r35), .unset, .unset] [])) rfl (hb hby at_35) (n := 24) (by decide) (by decide) (by decide) (by decide)
    have hZ := hZ36
    have hown := hown36
    have CRl36 := CRl35.trans hC36
    have CHl36 := CRl36.1
    have k37 : own_To p e below T36 (mkF m 37 #[.val (.int p0), .val (.int ((p0 &&& (2147483647 : Int32)) % (18 : Int32))), .val (.ref (own_pick en ((p0 &&& (2147483647 : Int32)) % (18 : Int32)))), .val (.ref r35), .unset, .unset] [(.ref b36)]) s₁ (mkF m 0 #[.val (.int p0), .unset, .unset, .unset, .unset, .unset] []) := fun t q => k1 t (by
      refine XS.iloadN X0.here hx rfl (hb hby at_8) rfl ?_
      show Steps p.tables e below (s₁.setTop (mkF m 9 #[.val (.int p0), .val (.int ((p0 &&& (2147483647 : Int32)) % (18 : Int32))), .unset, .unset, .unset, .unset] [(.int ((p0 &&& (2147483647 : Int32)) % (18 : Int32)))])) _
      refine st34 _ ?_
      show Steps p.tables e below (T34.setTop (mkF m 12 #[.val (.int p0), .val (.int ((p0 &&& (2147483647 : Int32)) % (18 : Int32))), .unset, .unset, .unset, .unset] [(.ref (own_pick en ((p0 &&& (2147483647 : Int32)) % (18 : Int32))))])) _
      refine XS.astoreN X34.here hx rfl (hb hby at_12) rfl rfl (l' := #[.val (.int p0), .val (.int ((p0 &&& (2147483647 : Int32)) % (18 : Int32))), .val (.ref (own_pick en ((p0 &&& (2147483647 : Int32)) % (18 : Int32)))), .unset, .unset, .unset]) rfl ?_
      show Steps p.tables e below (T34.setTop (mkF m 13 #[.val (.int p0), .val (.int ((p0 &&& (2147483647 : Int32)) % (18 : Int32))), .val (.ref (own_pick en ((p0 &&& (2147483647 : Int32)) % (18 : Int32)))), .unset, .unset, .unset] [])) _
      refine XS.aloadN X34.here hx rfl (hb hby at_13) rfl rfl ?_
      show Steps p.tables e below (T34.setTop (mkF m 14 #[.val (.int p0), .val (.int ((p0 &&& (2147483647 : Int32)) % (18 : Int32))), .val (.ref (own_pick en ((p0 &&& (2147483647 : Int32)) % (18 : Int32)))), .unset, .unset, .unset] [(.ref (own_pick en ((p0 &&& (2147483647 : Int32)) % (18 : Int32))))])) _
      refine st35.trans ?_
      show Steps p.tables e below (T35.setTop (mkF m 17 #[.val (.int p0), .val (.int ((p0 &&& (2147483647 : Int32)) % (18 : Int32))), .val (.ref (own_pick en ((p0 &&& (2147483647 : Int32)) % (18 : Int32)))), .unset, .unset, .unset] [(.ref r35)])) _
      refine XS.astoreN X35.here hx rfl (hb hby at_17) rfl rfl (l' := #[.val (.int p0), .val (.int ((p0 &&& (2147483647 : Int32)) % (18 : Int32))), .val (.ref (own_pick en ((p0 &&& (2147483647 : Int32)) % (18 : Int32)))), .val (.ref r35), .unset, .unset]) rfl ?_
      show Steps p.tables e below (T35.setTop (mkF m 18 #[.val (.int p0), .val (.int ((p0 &&& (2147483647 : Int32)) % (18 : Int32))), .val (.ref (own_pick en ((p0 &&& (2147483647 : Int32)) % (18 : Int32)))), .val (.ref r35), .unset, .unset] [])) _
      refine XS.aloadN X35.here hx rfl (hb hby at_18) rfl rfl ?_
      show Steps p.tables e below (T35.setTop (mkF m 19 #[.val (.int p0), .val (.int ((p0 &&& (2147483647 : Int32)) % (18 : Int32))), .val (.ref (own_pick en ((p0 &&& (2147483647 : Int32)) % (18 : Int32)))), .val (.ref r35), .unset, .unset] [(.ref r35)])) _
      refine XS.ifnonnullYes X35.here hx rfl (pc0 := 19) (pc' := 24) rfl (hb hby at_19) rfl (by decide) (by decide) ?_
      show Steps p.tables e below (T35.setTop (mkF m 24 #[.val (.int p0), .val (.int ((p0 &&& (2147483647 : Int32)) % (18 : Int32))), .val (.ref (own_pick en ((p0 &&& (2147483647 : Int32)) % (18 : Int32)))), .val (.ref r35), .unset, .unset] [])) _
      refine XS.iloadN X35.here hx rfl (hb hby at_24) rfl ?_
      show Steps p.tables e below (T35.setTop (mkF m 25 #[.val (.int p0), .val (.int ((p0 &&& (2147483647 : Int32)) % (18 : Int32))), .val (.ref (own_pick en ((p0 &&& (2147483647 : Int32)) % (18 : Int32)))), .val (.ref r35), .unset, .unset] [(.int ((p0 &&& (2147483647 : Int32)) % (18 : Int32)))])) _
      refine XS.bipush X35.here hx rfl (hb hby at_25) ?_
      show Steps p.tables e below (T35.setTop (mkF m 27 #[.val (.int p0), .val (.int ((p0 &&& (2147483647 : Int32)) % (18 : Int32))), .val (.ref (own_pick en ((p0 &&& (2147483647 : Int32)) % (18 : Int32)))), .val (.ref r35), .unset, .unset] [(.int (17 : Int32)), (.int ((p0 &&& (2147483647 : Int32)) % (18 : Int32)))])) _
      refine XS.icmpYes X35.here hx rfl (pc0 := 27) (pc' := 35) rfl (hb hby at_27) rfl (feq hi).2 (by decide) (by decide) ?_
      show Steps p.tables e below (T35.setTop (mkF m 35 #[.val (.int p0), .val (.int ((p0 &&& (2147483647 : Int32)) % (18 : Int32))), .val (.ref (own_pick en ((p0 &&& (2147483647 : Int32)) % (18 : Int32)))), .val (.ref r35), .unset, .unset] [])) _
      refine st36 _ ?_
      show Steps p.tables e below (T36.setTop (mkF m 37 #[.val (.int p0), .val (.int ((p0 &&& (2147483647 : Int32)) % (18 : Int32))), .val (.ref (own_pick en ((p0 &&& (2147483647 : Int32)) % (18 : Int32)))), .val (.ref r35), .unset, .unset] [(.ref b36)])) _
      exact q)
    have K39 : Keep h0 h36 [] := (((Keep.refl h0 []).trans K35 all0).ext E36)
    have F40 := ((XF34.2.keep K35 nin0).ext E36)
    have F41 := ((XF34.1.keep K35).ext E36)
    obtain ⟨cq38, kq38, q38a, q38b, q38c⟩ := isOf hZ e36 F41
    obtain ⟨_, _, ⟨T38, L38, kk38, n38⟩, -, X38, ⟨Lc38, hQ38, l38, y38, z38⟩, st38⟩ := X36.virtualBack hx (y := (⟨"com/example/issuer/issuer/protocol/ErrorCode", "getHttpStatus", "()I"⟩ : MethodName)) (z := (⟨"com/example/issuer/issuer/protocol/ErrorCode", "getHttpStatus", "()I"⟩ : MethodName)) hown (mvT hZ (hw _ (List.mem_of_getElem? (i := 24) rfl))) (mvT hZ (hw _ (List.mem_of_getElem? (i := 25) rfl))) (notFace_of_selects (args := #[]) (mvT hZ (hw _ (List.mem_of_getElem? (i := 27) rfl)))) (mvT hZ (hw _ (List.mem_of_getElem? (i := 27) rfl))) (mvT hZ (hw _ (List.mem_of_getElem? (i := 26) rfl))) (by decide) (backOf (W := 0) (rm3 l Z a0 hw [] (own_pick en ((p0 &&& (2147483647 : Int32)) % (18 : Int32))) (own_code (own_ix ((p0 &&& (2147483647 : Int32)) % (18 : Int32)))) h36 n0 (Nat.le_trans Z0 K39.1) F40) hZ (hw _ (List.mem_of_getElem? (i := 28) rfl)) (hw _ (List.mem_of_getElem? (i := 6) rfl)) (by decide) (by decide)) q38a q38c (g := (mkF m 40 #[.val (.int p0), .val (.int ((p0 &&& (2147483647 : Int32)) % (18 : Int32))), .val (.ref (own_pick en ((p0 &&& (2147483647 : Int32)) % (18 : Int32)))), .val (.ref r35), .val (.ref b36), .unset] [(.ref (own_pick en ((p0 &&& (2147483647 : Int32)) % (18 : Int32))))])) rfl (by rw [hml]; rfl) (Steps.refl _) (argsL := []) (rest := []) (lenOf own_pd0 rfl) rfl (by show 2 * 0 + _ ≤ _; exact Nat.le_of_eq rfl) (hb hby at_40) (fun _ _ => ⟨rfl, e36, (by decide : 4 + 0 ≤ _), (by decide : 56 + 0 ≤ _)⟩)
    dsimp only [Pt.U, Pt.locs, Pt.cells, Pt.slots] at X38 l38 y38 z38 st38 hQ38
    subst l38 y38 z38
    obtain ⟨rfl, N38q, e38⟩ := hQ38
    have N38 := Fr.app N35 N38q
    have F43 := (Ex35.ext E36)
    have F44 := (Fc35.ext E36)
    have F45 := (Fv35.ext E36)
    have F46 := (V35.ext E36)
    have O47 : Old Z n0 h36 := ((O0.keep K35 all0).ext E36)
    obtain ⟨cq42, kq42, q42a, q42b, q42c⟩ := isOf hZ e38 F43
    obtain ⟨_, _, ⟨T42, L42, kk42, n42⟩, -, X42, ⟨Lc42, hQ42, l42, y42, z42⟩, st42⟩ := X38.virtualBack hx (y := (⟨"java/lang/String", "equals", "(Ljava/lang/Object;)Z"⟩ : MethodName)) (z := (⟨"java/lang/String", "equals", "(Ljava/lang/Object;)Z"⟩ : MethodName)) hown (mvT hZ (hw _ (List.mem_of_getElem? (i := 29) rfl))) (mvT hZ (hw _ (List.mem_of_getElem? (i := 30) rfl))) (notFace_of_selects (args := #[]) (mvT hZ (hw _ (List.mem_of_getElem? (i := 32) rfl)))) (mvT hZ (hw _ (List.mem_of_getElem? (i := 32) rfl))) (mvT hZ (hw _ (List.mem_of_getElem? (i := 31) rfl))) (by decide) (backOf (W := 0) (rmE1 l Z a0 hw [] r35 b36 cs rb35 kc35 (6 : Int32) [(.int (83 : Int32)), (.int (101 : Int32)), (.int (110 : Int32)), (.int (100 : Int32)), (.int (101 : Int32)), (.int (114 : Int32))] bb36 kb36 h36 n0 (Nat.le_trans Z0 K39.1) F43 F44 F45 F46 Ex36 Fc36 Fv36 V36 SC hcs O47) hZ (hw _ (List.mem_of_getElem? (i := 33) rfl)) (hw _ (List.mem_of_getElem? (i := 16) rfl)) (by decide) (by decide)) q42a q42c (g := (mkF m 59 #[.val (.int p0), .val (.int ((p0 &&& (2147483647 : Int32)) % (18 : Int32))), .val (.ref (own_pick en ((p0 &&& (2147483647 : Int32)) % (18 : Int32)))), .val (.ref r35), .val (.ref b36), .val (.int (1 : Int32))] [(.ref b36), (.ref r35)])) rfl (by rw [hml]; rfl) (Steps.refl _) (argsL := [(.ref b36)]) (rest := []) (lenOf own_pd3 rfl) rfl (by show 2 * 0 + _ ≤ _; exact Nat.le_of_eq rfl) (hb hby at_59) (fun _ _ => ⟨rfl, e38, (by decide : 4 + 0 ≤ _), (by decide : 56 + 0 ≤ _)⟩)
    dsimp only [Pt.U, Pt.locs, Pt.cells, Pt.slots] at X42 l42 y42 z42 st42 hQ42
    subst l42 y42 z42
    obtain ⟨rfl, N42q, e42⟩ := hQ42
    have N42 := Fr.app N38 N42q
    have k48 : own_To p e below T42 (mkF m 65 #[.val (.int p0), .val (.int ((p0 &&& (2147483647 : Int32)) % (18 : Int32))), .val (.ref (own_pick en ((p0 &&& (2147483647 : Int32)) % (18 : Int32)))), .val (.ref r35), .val (.ref b36), .val (.int (1 : Int32))] []) s₁ (mkF m 0 #[.val (.int p0), .unset, .unset, .unset, .unset, .unset] []) := fun t q => k37 t (by
      refine XS.astore X36.here hx rfl (hb hby at_37) rfl rfl (l' := #[.val (.int p0), .val (.int ((p0 &&& (2147483647 : Int32)) % (18 : Int32))), .val (.ref (own_pick en ((p0 &&& (2147483647 : Int32)) % (18 : Int32)))), .val (.ref r35), .val (.ref b36), .unset]) rfl ?_
      show Steps p.tables e below (T36.setTop (mkF m 39 #[.val (.int p0), .val (.int ((p0 &&& (2147483647 : Int32)) % (18 : Int32))), .val (.ref (own_pick en ((p0 &&& (2147483647 : Int32)) % (18 : Int32)))), .val (.ref r35), .val (.ref b36), .unset] [])) _
      refine XS.aloadN X36.here hx rfl (hb hby at_39) rfl rfl ?_
      show Steps p.tables e below (T36.setTop (mkF m 40 #[.val (.int p0), .val (.int ((p0 &&& (2147483647 : Int32)) % (18 : Int32))), .val (.ref (own_pick en ((p0 &&& (2147483647 : Int32)) % (18 : Int32)))), .val (.ref r35), .val (.ref b36), .unset] [(.ref (own_pick en ((p0 &&& (2147483647 : Int32)) % (18 : Int32))))])) _
      refine st38.trans ?_
      show Steps p.tables e below (T38.setTop (mkF m 43 #[.val (.int p0), .val (.int ((p0 &&& (2147483647 : Int32)) % (18 : Int32))), .val (.ref (own_pick en ((p0 &&& (2147483647 : Int32)) % (18 : Int32)))), .val (.ref r35), .val (.ref b36), .unset] [(.int (own_code (own_ix ((p0 &&& (2147483647 : Int32)) % (18 : Int32)))))])) _
      refine XS.sipush X38.here hx rfl (hb hby at_43) ?_
      show Steps p.tables e below (T38.setTop (mkF m 46 #[.val (.int p0), .val (.int ((p0 &&& (2147483647 : Int32)) % (18 : Int32))), .val (.ref (own_pick en ((p0 &&& (2147483647 : Int32)) % (18 : Int32)))), .val (.ref r35), .val (.ref b36), .unset] [(.int (500 : Int32)), (.int (own_code (own_ix ((p0 &&& (2147483647 : Int32)) % (18 : Int32)))))])) _
      refine XS.icmpNo X38.here hx rfl (hb hby at_46) rfl (tlt hst).2.1 ?_
      show Steps p.tables e below (T38.setTop (mkF m 49 #[.val (.int p0), .val (.int ((p0 &&& (2147483647 : Int32)) % (18 : Int32))), .val (.ref (own_pick en ((p0 &&& (2147483647 : Int32)) % (18 : Int32)))), .val (.ref r35), .val (.ref b36), .unset] [])) _
      refine XS.iconst X38.here hx rfl (hb hby at_49) ?_
      show Steps p.tables e below (T38.setTop (mkF m 50 #[.val (.int p0), .val (.int ((p0 &&& (2147483647 : Int32)) % (18 : Int32))), .val (.ref (own_pick en ((p0 &&& (2147483647 : Int32)) % (18 : Int32)))), .val (.ref r35), .val (.ref b36), .unset] [(.int (1 : Int32))])) _
      refine XS.goto X38.here hx rfl (pc0 := 50) (pc' := 54) rfl (hb hby at_50) (by decide) (by decide) ?_
      show Steps p.tables e below (T38.setTop (mkF m 54 #[.val (.int p0), .val (.int ((p0 &&& (2147483647 : Int32)) % (18 : Int32))), .val (.ref (own_pick en ((p0 &&& (2147483647 : Int32)) % (18 : Int32)))), .val (.ref r35), .val (.ref b36), .unset] [(.int (1 : Int32))])) _
      refine XS.istore X38.here hx rfl (hb hby at_54) rfl (l' := #[.val (.int p0), .val (.int ((p0 &&& (2147483647 : Int32)) % (18 : Int32))), .val (.ref (own_pick en ((p0 &&& (2147483647 : Int32)) % (18 : Int32)))), .val (.ref r35), .val (.ref b36), .val (.int (1 : Int32))]) rfl ?_
      show Steps p.tables e below (T38.setTop (mkF m 56 #[.val (.int p0), .val (.int ((p0 &&& (2147483647 : Int32)) % (18 : Int32))), .val (.ref (own_pick en ((p0 &&& (2147483647 : Int32)) % (18 : Int32)))), .val (.ref r35), .val (.ref b36), .val (.int (1 : Int32))] [])) _
      refine XS.aloadN X38.here hx rfl (hb hby at_56) rfl rfl ?_
      show Steps p.tables e below (T38.setTop (mkF m 57 #[.val (.int p0), .val (.int ((p0 &&& (2147483647 : Int32)) % (18 : Int32))), .val (.ref (own_pick en ((p0 &&& (2147483647 : Int32)) % (18 : Int32)))), .val (.ref r35), .val (.ref b36), .val (.int (1 : Int32))] [(.ref r35)])) _
      refine XS.aload X38.here hx rfl (hb hby at_57) rfl rfl ?_
      show Steps p.tables e below (T38.setTop (mkF m 59 #[.val (.int p0), .val (.int ((p0 &&& (2147483647 : Int32)) % (18 : Int32))), .val (.ref (own_pick en ((p0 &&& (2147483647 : Int32)) % (18 : Int32)))), .val (.ref r35), .val (.ref b36), .val (.int (1 : Int32))] [(.ref b36), (.ref r35)])) _
      refine st42.trans ?_
      show Steps p.tables e below (T42.setTop (mkF m 62 #[.val (.int p0), .val (.int ((p0 &&& (2147483647 : Int32)) % (18 : Int32))), .val (.ref (own_pick en ((p0 &&& (2147483647 : Int32)) % (18 : Int32)))), .val (.ref r35), .val (.ref b36), .val (.int (1 : Int32))] [(.int (1 : Int32))])) _
      refine XS.ifNo X42.here hx rfl (hb hby at_62) rfl ((if0 _ _).trans (feq (by decide)).1) ?_
      show Steps p.tables e below (T42.setTop (mkF m 65 #[.val (.int p0), .val (.int ((p0 &&& (2147483647 : Int32)) % (18 : Int32))), .val (.ref (own_pick en ((p0 &&& (2147483647 : Int32)) % (18 : Int32)))), .val (.ref r35), .val (.ref b36), .val (.int (1 : Int32))] [])) _
      exact q)
    obtain ⟨b49, T49, h49, kk49, bb49, kb49, X49, e49, E49, hS49, hk49, hZ49, hown49, Ex49, Fc49, Fv49, V49, -, -, hC49, -, -, st49⟩ := ldcCH (vm0 := T36.vm) X42 hx hZ hown (hw _ (List.mem_of_getElem? (i := 23) rfl)) hstr e42 hS36 hk36 hEL (List.mem_of_getElem? (i := 3) rfl) CHl36 (vs := [(.int (83 : Int32)), (.int (101 : Int32)), (.int (110 : Int32)), (.int (100 : Int32)), (.int (101 : Int32)), (.int (114 : Int32))]) (z := (6 : Int32)) ⟨by decide, rfl⟩ (by decide) rfl (g := (mkF m 68 #[.val (.int p0), .val (.int ((p0 &&& (2147483647 : Int32)) % (18 : Int32))), .val (.ref (own_pick en ((p0 &&& (2147483647 : Int32)) % (18 : Int32)))), .val (.ref r35), .val (.ref b36), .val (.int (1 : Int32))] [(.ref r35), (.int (1 : Int32))])) rfl (hb hby at_68) (n := 24) (by decide) (by decide) (by decide) (by decide)
    have hZ := hZ49
    have hown := hown49
    have CRl49 := CRl36.trans hC49
    have CHl49 := CRl49.1
    have F51 := (F43.ext E49)
    have F52 := (F44.ext E49)
    have F53 := (F45.ext E49)
    have F54 := (F46.ext E49)
    have K55 : Keep h0 h49 [] := (K39.ext E49)
    have O56 : Old Z n0 h49 := (O47.ext E49)
    obtain ⟨cq50, kq50, q50a, q50b, q50c⟩ := isOf hZ e49 F51
    obtain ⟨_, _, ⟨T50, L50, kk50, n50⟩, -, X50, ⟨Lc50, hQ50, l50, y50, z50⟩, st50⟩ := X49.virtualBack hx (y := (⟨"java/lang/String", "equals", "(Ljava/lang/Object;)Z"⟩ : MethodName)) (z := (⟨"java/lang/String", "equals", "(Ljava/lang/Object;)Z"⟩ : MethodName)) hown (mvT hZ (hw _ (List.mem_of_getElem? (i := 29) rfl))) (mvT hZ (hw _ (List.mem_of_getElem? (i := 30) rfl))) (notFace_of_selects (args := #[]) (mvT hZ (hw _ (List.mem_of_getElem? (i := 32) rfl)))) (mvT hZ (hw _ (List.mem_of_getElem? (i := 32) rfl))) (mvT hZ (hw _ (List.mem_of_getElem? (i := 31) rfl))) (by decide) (backOf (W := 1) (rmE1 l Z a0 hw [] r35 b49 cs rb35 kc35 (6 : Int32) [(.int (83 : Int32)), (.int (101 : Int32)), (.int (110 : Int32)), (.int (100 : Int32)), (.int (101 : Int32)), (.int (114 : Int32))] bb49 kb49 h49 n0 (Nat.le_trans Z0 K55.1) F51 F52 F53 F54 Ex49 Fc49 Fv49 V49 SC hcs O56) hZ (hw _ (List.mem_of_getElem? (i := 33) rfl)) (hw _ (List.mem_of_getElem? (i := 16) rfl)) (by decide) (by decide)) q50a q50c (g := (mkF m 70 #[.val (.int p0), .val (.int ((p0 &&& (2147483647 : Int32)) % (18 : Int32))), .val (.ref (own_pick en ((p0 &&& (2147483647 : Int32)) % (18 : Int32)))), .val (.ref r35), .val (.ref b36), .val (.int (1 : Int32))] [(.ref b49), (.ref r35), (.int (1 : Int32))])) rfl (by rw [hml]; rfl) (Steps.refl _) (argsL := [(.ref b49)]) (rest := [(.int (1 : Int32))]) (lenOf own_pd3 rfl) rfl (by show 2 * 0 + _ ≤ _; exact Nat.le_of_eq rfl) (hb hby at_70) (fun _ _ => ⟨rfl, e49, (by decide : 6 + 0 ≤ _), (by decide : 84 + 0 ≤ _)⟩)
    dsimp only [Pt.U, Pt.locs, Pt.cells, Pt.slots] at X50 l50 y50 z50 st50 hQ50
    subst l50 y50 z50
    obtain ⟨rfl, N50q, e50⟩ := hQ50
    have N50 := Fr.app N42 N50q
    obtain ⟨b57, T57, h57, kk57, bb57, kb57, X57, e57, E57, hS57, hk57, hZ57, hown57, Ex57, Fc57, Fv57, V57, -, -, hC57, -, -, st57⟩ := ldcCH (vm0 := T49.vm) X50 hx hZ hown (hw _ (List.mem_of_getElem? (i := 34) rfl)) hstr e50 hS49 hk49 hEL (List.mem_of_getElem? (i := 2) rfl) CHl49 (vs := [(.int (82 : Int32)), (.int (101 : Int32)), (.int (99 : Int32)), (.int (101 : Int32)), (.int (105 : Int32)), (.int (118 : Int32)), (.int (101 : Int32)), (.int (114 : Int32))]) (z := (8 : Int32)) ⟨by decide, rfl⟩ (by decide) rfl (g := (mkF m 79 #[.val (.int p0), .val (.int ((p0 &&& (2147483647 : Int32)) % (18 : Int32))), .val (.ref (own_pick en ((p0 &&& (2147483647 : Int32)) % (18 : Int32)))), .val (.ref r35), .val (.ref b36), .val (.int (1 : Int32))] [(.ref r35), (.int (1 : Int32))])) rfl (hb hby at_79) (n := 32) (by decide) (by decide) (by decide) (by decide)
    have hZ := hZ57
    have hown := hown57
    have CRl57 := CRl49.trans hC57
    have CHl57 := CRl57.1
    have F59 := (F51.ext E57)
    have F60 := (F52.ext E57)
    have F61 := (F53.ext E57)
    have F62 := (F54.ext E57)
    have K63 : Keep h0 h57 [] := (K55.ext E57)
    have O64 : Old Z n0 h57 := (O56.ext E57)
    obtain ⟨cq58, kq58, q58a, q58b, q58c⟩ := isOf hZ e57 F59
    obtain ⟨_, _, ⟨T58, L58, kk58, n58⟩, -, X58, ⟨Lc58, hQ58, l58, y58, z58⟩, st58⟩ := X57.virtualBack hx (y := (⟨"java/lang/String", "equals", "(Ljava/lang/Object;)Z"⟩ : MethodName)) (z := (⟨"java/lang/String", "equals", "(Ljava/lang/Object;)Z"⟩ : MethodName)) hown (mvT hZ (hw _ (List.mem_of_getElem? (i := 29) rfl))) (mvT hZ (hw _ (List.mem_of_getElem? (i := 30) rfl))) (notFace_of_selects (args := #[]) (mvT hZ (hw _ (List.mem_of_getElem? (i := 32) rfl)))) (mvT hZ (hw _ (List.mem_of_getElem? (i := 32) rfl))) (mvT hZ (hw _ (List.mem_of_getElem? (i := 31) rfl))) (by decide) (backOf (W := 1) (rmE0 l Z a0 hw [] r35 b57 cs rb35 kc35 (6 : Int32) [(.int (83 : Int32)), (.int (101 : Int32)), (.int (110 : Int32)), (.int (100 : Int32)), (.int (101 : Int32)), (.int (114 : Int32))] bb57 kb57 (8 : Int32) [(.int (82 : Int32)), (.int (101 : Int32)), (.int (99 : Int32)), (.int (101 : Int32)), (.int (105 : Int32)), (.int (118 : Int32)), (.int (101 : Int32)), (.int (114 : Int32))] h57 n0 (Nat.le_trans Z0 K63.1) F59 F60 F61 F62 Ex57 Fc57 Fv57 V57 SC hcs O64 (by decide)) hZ (hw _ (List.mem_of_getElem? (i := 33) rfl)) (hw _ (List.mem_of_getElem? (i := 16) rfl)) (by decide) (by decide)) q58a q58c (g := (mkF m 81 #[.val (.int p0), .val (.int ((p0 &&& (2147483647 : Int32)) % (18 : Int32))), .val (.ref (own_pick en ((p0 &&& (2147483647 : Int32)) % (18 : Int32)))), .val (.ref r35), .val (.ref b36), .val (.int (1 : Int32))] [(.ref b57), (.ref r35), (.int (1 : Int32))])) rfl (by rw [hml]; rfl) (Steps.refl _) (argsL := [(.ref b57)]) (rest := [(.int (1 : Int32))]) (lenOf own_pd3 rfl) rfl (by show 2 * 0 + _ ≤ _; exact Nat.le_of_eq rfl) (hb hby at_81) (fun _ _ => ⟨rfl, e57, (by decide : 8 + 0 ≤ _), (by decide : 120 + 0 ≤ _)⟩)
    dsimp only [Pt.U, Pt.locs, Pt.cells, Pt.slots] at X58 l58 y58 z58 st58 hQ58
    subst l58 y58 z58
    obtain ⟨rfl, N58q, e58⟩ := hQ58
    have N58 := Fr.app N50 N58q
    have k65 : own_To p e below T58 (mkF m 92 #[.val (.int p0), .val (.int ((p0 &&& (2147483647 : Int32)) % (18 : Int32))), .val (.ref (own_pick en ((p0 &&& (2147483647 : Int32)) % (18 : Int32)))), .val (.ref r35), .val (.ref b36), .val (.int (1 : Int32))] [(.int (1 : Int32))]) s₁ (mkF m 0 #[.val (.int p0), .unset, .unset, .unset, .unset, .unset] []) := fun t q => k48 t (by
      refine XS.iload X42.here hx rfl (hb hby at_65) rfl ?_
      show Steps p.tables e below (T42.setTop (mkF m 67 #[.val (.int p0), .val (.int ((p0 &&& (2147483647 : Int32)) % (18 : Int32))), .val (.ref (own_pick en ((p0 &&& (2147483647 : Int32)) % (18 : Int32)))), .val (.ref r35), .val (.ref b36), .val (.int (1 : Int32))] [(.int (1 : Int32))])) _
      refine XS.aloadN X42.here hx rfl (hb hby at_67) rfl rfl ?_
      show Steps p.tables e below (T42.setTop (mkF m 68 #[.val (.int p0), .val (.int ((p0 &&& (2147483647 : Int32)) % (18 : Int32))), .val (.ref (own_pick en ((p0 &&& (2147483647 : Int32)) % (18 : Int32)))), .val (.ref r35), .val (.ref b36), .val (.int (1 : Int32))] [(.ref r35), (.int (1 : Int32))])) _
      refine st49 _ ?_
      show Steps p.tables e below (T49.setTop (mkF m 70 #[.val (.int p0), .val (.int ((p0 &&& (2147483647 : Int32)) % (18 : Int32))), .val (.ref (own_pick en ((p0 &&& (2147483647 : Int32)) % (18 : Int32)))), .val (.ref r35), .val (.ref b36), .val (.int (1 : Int32))] [(.ref b49), (.ref r35), (.int (1 : Int32))])) _
      refine st50.trans ?_
      show Steps p.tables e below (T50.setTop (mkF m 73 #[.val (.int p0), .val (.int ((p0 &&& (2147483647 : Int32)) % (18 : Int32))), .val (.ref (own_pick en ((p0 &&& (2147483647 : Int32)) % (18 : Int32)))), .val (.ref r35), .val (.ref b36), .val (.int (1 : Int32))] [(.int (1 : Int32)), (.int (1 : Int32))])) _
      refine XS.icmpNo X50.here hx rfl (hb hby at_73) rfl (teq rfl).2 ?_
      show Steps p.tables e below (T50.setTop (mkF m 76 #[.val (.int p0), .val (.int ((p0 &&& (2147483647 : Int32)) % (18 : Int32))), .val (.ref (own_pick en ((p0 &&& (2147483647 : Int32)) % (18 : Int32)))), .val (.ref r35), .val (.ref b36), .val (.int (1 : Int32))] [])) _
      refine XS.iload X50.here hx rfl (hb hby at_76) rfl ?_
      show Steps p.tables e below (T50.setTop (mkF m 78 #[.val (.int p0), .val (.int ((p0 &&& (2147483647 : Int32)) % (18 : Int32))), .val (.ref (own_pick en ((p0 &&& (2147483647 : Int32)) % (18 : Int32)))), .val (.ref r35), .val (.ref b36), .val (.int (1 : Int32))] [(.int (1 : Int32))])) _
      refine XS.aloadN X50.here hx rfl (hb hby at_78) rfl rfl ?_
      show Steps p.tables e below (T50.setTop (mkF m 79 #[.val (.int p0), .val (.int ((p0 &&& (2147483647 : Int32)) % (18 : Int32))), .val (.ref (own_pick en ((p0 &&& (2147483647 : Int32)) % (18 : Int32)))), .val (.ref r35), .val (.ref b36), .val (.int (1 : Int32))] [(.ref r35), (.int (1 : Int32))])) _
      refine st57 _ ?_
      show Steps p.tables e below (T57.setTop (mkF m 81 #[.val (.int p0), .val (.int ((p0 &&& (2147483647 : Int32)) % (18 : Int32))), .val (.ref (own_pick en ((p0 &&& (2147483647 : Int32)) % (18 : Int32)))), .val (.ref r35), .val (.ref b36), .val (.int (1 : Int32))] [(.ref b57), (.ref r35), (.int (1 : Int32))])) _
      refine st58.trans ?_
      show Steps p.tables e below (T58.setTop (mkF m 84 #[.val (.int p0), .val (.int ((p0 &&& (2147483647 : Int32)) % (18 : Int32))), .val (.ref (own_pick en ((p0 &&& (2147483647 : Int32)) % (18 : Int32)))), .val (.ref r35), .val (.ref b36), .val (.int (1 : Int32))] [(.int (0 : Int32)), (.int (1 : Int32))])) _
      refine XS.icmpNo X58.here hx rfl (hb hby at_84) rfl (feq (by decide)).1 ?_
      show Steps p.tables e below (T58.setTop (mkF m 87 #[.val (.int p0), .val (.int ((p0 &&& (2147483647 : Int32)) % (18 : Int32))), .val (.ref (own_pick en ((p0 &&& (2147483647 : Int32)) % (18 : Int32)))), .val (.ref r35), .val (.ref b36), .val (.int (1 : Int32))] [])) _
      refine XS.iconst X58.here hx rfl (hb hby at_87) ?_
      show Steps p.tables e below (T58.setTop (mkF m 88 #[.val (.int p0), .val (.int ((p0 &&& (2147483647 : Int32)) % (18 : Int32))), .val (.ref (own_pick en ((p0 &&& (2147483647 : Int32)) % (18 : Int32)))), .val (.ref r35), .val (.ref b36), .val (.int (1 : Int32))] [(.int (1 : Int32))])) _
      refine XS.goto X58.here hx rfl (pc0 := 88) (pc' := 92) rfl (hb hby at_88) (by decide) (by decide) ?_
      show Steps p.tables e below (T58.setTop (mkF m 92 #[.val (.int p0), .val (.int ((p0 &&& (2147483647 : Int32)) % (18 : Int32))), .val (.ref (own_pick en ((p0 &&& (2147483647 : Int32)) % (18 : Int32)))), .val (.ref r35), .val (.ref b36), .val (.int (1 : Int32))] [(.int (1 : Int32))])) _
      exact q)
    have hCe := CRl57.trans (CHv.at (vm0 := T57.vm) X58 hZ hEL CHl57)
    obtain ⟨fs, hr, hrun, hended, hEnd⟩ := Stand.leaveW (s := s) (vm₁ := T57.vm) X58 hS57 (by rw [e58]; exact hk57) (v := some (.int (1 : Int32))) (fun h => by rw [Bd.returns] at h; cases h)
    refine ⟨_, _, k0 _ (k65 _ ?_), hrun, hended, _, _, rfl, ?_, ?_, hEnd.1, hEnd.2.1, hEnd.2.2.1, hEnd.2.2.2.mono (by decide) (by decide)⟩
    · show Steps p.tables e below (T58.setTop (mkF m 92 #[.val (.int p0), .val (.int ((p0 &&& (2147483647 : Int32)) % (18 : Int32))), .val (.ref (own_pick en ((p0 &&& (2147483647 : Int32)) % (18 : Int32)))), .val (.ref r35), .val (.ref b36), .val (.int (1 : Int32))] [(.int (1 : Int32))])) _
      exact retN X58 hx (t := .boolean) Bd.returns (by simp) (hb hby at_92) hr
    · show Q0 Z p0 en cs h0 n0 _ T58.heap _
      rw [e58]
      exact ⟨rfl, N58⟩
    · show CHr Z own_EL s.vm s.heap T58.vm T58.heap
      rw [hh, e58]; exact hCe
theorem own_fld {s : State} {args : Array Value} {t : Term} {x : Addr} {k : Int32} (ev : t.eval args s none [] s = some (.ref x)) (h : (Jvm.Cond.eq (Term.field t "com/example/issuer/issuer/protocol/ErrorCode" "httpStatus" "I") (Term.int k)).value args s none s [] = some true) : Fld s s.heap x "com/example/issuer/issuer/protocol/ErrorCode" "httpStatus" "I" (.int k) :=
  Fld.start (by rw [← fld_at ev]; exact Cond.eq_int (by simp [Cond.holds, h]) (Term.int_eval k))
set_option maxRecDepth 65536 in
set_option maxHeartbeats 40000000 in
theorem comes_1 {Post : Tables → Env → Array Value → State → Outcome → State → Prop} (hpost : ∀ tb e args s v u, (limb_1_1.after args s (.returned v) u = true ∧ limb_1_2.after args s (.returned v) u = true ∧ True) → ReturnedEndW s (.returned v) u (Jvm.fieldLocs frame_1_writes args s ++ Jvm.arrayLocs frame_1_arrays args s ++ Jvm.staticLocs frame_1_statics s) 8 4160 → Post tb e args s (.returned v) u) :
    ArmFor flags0 classFile x code maxLocals ret World_1 tables_1 room_1 Calls_1 rest_1 Pre_1 Post := by
  intro l hfl _ _ p e ha hc hk s m args below hf hA hF happ hP
  obtain ⟨hcalls, hrest, hpre⟩ := hP
  obtain ⟨-, -, -, hnamed, -, -, -, hat⟩ := (Spec.applies_iff hf).mp happ
  obtain ⟨hg, hn⟩ := and_e (Cond.before_iff.mp (show (Jvm.Cond.and given_1 narrow_1).before args s = true from hpre))
  obtain ⟨hgc, hg0⟩ := and_e hg
  obtain ⟨w0, rfl⟩ : ∃ w0 : Value, args = #[w0] := by
    have hs : args.size = 1 := by simpa [Cond.value, given_1] using hgc
    obtain ⟨L⟩ := args
    match L, hs with
    | [w0], _ => exact ⟨w0, rfl⟩
  have hw := fun d (hd : d ∈ tables_1) => atoms_spec (ws := Jvm.Cond.code x code maxLocals ret :: tables_1) hat d (List.mem_cons_of_mem _ hd)
  have hfit : Fit s := fun {y c} hc i hi => by
    obtain ⟨ha, rfl⟩ := Array.getElem?_eq_some_iff.mp hc
    have q := List.all_eq_true.mp ((Array.all_eq_true_iff_forall_mem.mp hF) _ (Array.getElem_mem ha)) i (List.mem_range.mpr hi)
    simpa [Array.getElem?_eq_getElem hi] using q
  obtain ⟨hsets, hown0⟩ := atoms_of _ (rest_1_c_eq ▸ (show rest_1_c.before _ s = true from hrest))
  have hr0 := Cond.before_iff.mp hown0
  obtain ⟨i0, ei0⟩ := is_v hg0
  obtain rfl : w0 = (.int i0) := Option.some.inj ei0
  obtain ⟨c0, hn0⟩ := and_e hn
  obtain ⟨c1, hn1⟩ := and_e hn0
  obtain ⟨c2, hn2⟩ := and_e hn1
  obtain ⟨c3, hn3⟩ := and_e hn2
  obtain ⟨c4, hn4⟩ := and_e hn3
  obtain ⟨c5, hn5⟩ := and_e hn4
  obtain ⟨c6, hn6⟩ := and_e hn5
  obtain ⟨c7, hn7⟩ := and_e hn6
  obtain ⟨c8, hn8⟩ := and_e hn7
  obtain ⟨c9, hn9⟩ := and_e hn8
  obtain ⟨c10, hn10⟩ := and_e hn9
  obtain ⟨c11, hn11⟩ := and_e hn10
  obtain ⟨c12, hn12⟩ := and_e hn11
  obtain ⟨c13, hn13⟩ := and_e hn12
  obtain ⟨c14, hn14⟩ := and_e hn13
  obtain ⟨c15, hn15⟩ := and_e hn14
  obtain ⟨c16, hn16⟩ := and_e hn15
  obtain ⟨c17, hn17⟩ := and_e hn16
  obtain ⟨c18, hn18⟩ := and_e hn17
  obtain ⟨c19, hn19⟩ := and_e hn18
  obtain ⟨c20, hn20⟩ := and_e hn19
  obtain ⟨c21, hn21⟩ := and_e hn20
  obtain ⟨c22, hn22⟩ := and_e hn21
  obtain ⟨c23, hn23⟩ := and_e hn22
  obtain ⟨c24, hn24⟩ := and_e hn23
  obtain ⟨c25, hn25⟩ := and_e hn24
  obtain ⟨c26, hn26⟩ := and_e hn25
  obtain ⟨c27, hn27⟩ := and_e hn26
  obtain ⟨c28, hn28⟩ := and_e hn27
  obtain ⟨c29, hn29⟩ := and_e hn28
  obtain ⟨c30, hn30⟩ := and_e hn29
  obtain ⟨c31, hn31⟩ := and_e hn30
  obtain ⟨c32, hn32⟩ := and_e hn31
  obtain ⟨c33, hn33⟩ := and_e hn32
  obtain ⟨c34, hn34⟩ := and_e hn33
  obtain ⟨e0, v0⟩ := exa_v c0
  have x0 := Exa.start v0 c0
  have s0 := Sta.start v0 (Or.inr ⟨(hw _ (List.mem_of_getElem? (i := 6) rfl)), (hw _ (List.mem_of_getElem? (i := 7) rfl))⟩)
  have o0 := own_fld v0 c1
  obtain ⟨e1, v1⟩ := exa_v c6
  have x1 := Exa.start v1 c6
  have s1 := Sta.start v1 (Or.inr ⟨(hw _ (List.mem_of_getElem? (i := 6) rfl)), (hw _ (List.mem_of_getElem? (i := 49) rfl))⟩)
  have o1 := own_fld v1 c7
  obtain ⟨e2, v2⟩ := exa_v c4
  have x2 := Exa.start v2 c4
  have s2 := Sta.start v2 (Or.inr ⟨(hw _ (List.mem_of_getElem? (i := 6) rfl)), (hw _ (List.mem_of_getElem? (i := 47) rfl))⟩)
  have o2 := own_fld v2 c5
  obtain ⟨e3, v3⟩ := exa_v c2
  have x3 := Exa.start v3 c2
  have s3 := Sta.start v3 (Or.inr ⟨(hw _ (List.mem_of_getElem? (i := 6) rfl)), (hw _ (List.mem_of_getElem? (i := 45) rfl))⟩)
  have o3 := own_fld v3 c3
  obtain ⟨e4, v4⟩ := exa_v c12
  have x4 := Exa.start v4 c12
  have s4 := Sta.start v4 (Or.inr ⟨(hw _ (List.mem_of_getElem? (i := 6) rfl)), (hw _ (List.mem_of_getElem? (i := 55) rfl))⟩)
  have o4 := own_fld v4 c13
  obtain ⟨e5, v5⟩ := exa_v c32
  have x5 := Exa.start v5 c32
  have s5 := Sta.start v5 (Or.inr ⟨(hw _ (List.mem_of_getElem? (i := 6) rfl)), (hw _ (List.mem_of_getElem? (i := 76) rfl))⟩)
  have o5 := own_fld v5 c33
  obtain ⟨e6, v6⟩ := exa_v c26
  have x6 := Exa.start v6 c26
  have s6 := Sta.start v6 (Or.inr ⟨(hw _ (List.mem_of_getElem? (i := 6) rfl)), (hw _ (List.mem_of_getElem? (i := 69) rfl))⟩)
  have o6 := own_fld v6 c27
  obtain ⟨e7, v7⟩ := exa_v c8
  have x7 := Exa.start v7 c8
  have s7 := Sta.start v7 (Or.inr ⟨(hw _ (List.mem_of_getElem? (i := 6) rfl)), (hw _ (List.mem_of_getElem? (i := 51) rfl))⟩)
  have o7 := own_fld v7 c9
  obtain ⟨e8, v8⟩ := exa_v c14
  have x8 := Exa.start v8 c14
  have s8 := Sta.start v8 (Or.inr ⟨(hw _ (List.mem_of_getElem? (i := 6) rfl)), (hw _ (List.mem_of_getElem? (i := 57) rfl))⟩)
  have o8 := own_fld v8 c15
  obtain ⟨e9, v9⟩ := exa_v c34
  have x9 := Exa.start v9 c34
  have s9 := Sta.start v9 (Or.inr ⟨(hw _ (List.mem_of_getElem? (i := 6) rfl)), (hw _ (List.mem_of_getElem? (i := 78) rfl))⟩)
  have o9 := own_fld v9 hn34
  obtain ⟨e10, v10⟩ := exa_v c22
  have x10 := Exa.start v10 c22
  have s10 := Sta.start v10 (Or.inr ⟨(hw _ (List.mem_of_getElem? (i := 6) rfl)), (hw _ (List.mem_of_getElem? (i := 65) rfl))⟩)
  have o10 := own_fld v10 c23
  obtain ⟨e11, v11⟩ := exa_v c10
  have x11 := Exa.start v11 c10
  have s11 := Sta.start v11 (Or.inr ⟨(hw _ (List.mem_of_getElem? (i := 6) rfl)), (hw _ (List.mem_of_getElem? (i := 53) rfl))⟩)
  have o11 := own_fld v11 c11
  obtain ⟨e12, v12⟩ := exa_v c16
  have x12 := Exa.start v12 c16
  have s12 := Sta.start v12 (Or.inr ⟨(hw _ (List.mem_of_getElem? (i := 6) rfl)), (hw _ (List.mem_of_getElem? (i := 59) rfl))⟩)
  have o12 := own_fld v12 c17
  obtain ⟨e13, v13⟩ := exa_v c24
  have x13 := Exa.start v13 c24
  have s13 := Sta.start v13 (Or.inr ⟨(hw _ (List.mem_of_getElem? (i := 6) rfl)), (hw _ (List.mem_of_getElem? (i := 67) rfl))⟩)
  have o13 := own_fld v13 c25
  obtain ⟨e14, v14⟩ := exa_v c30
  have x14 := Exa.start v14 c30
  have s14 := Sta.start v14 (Or.inr ⟨(hw _ (List.mem_of_getElem? (i := 6) rfl)), (hw _ (List.mem_of_getElem? (i := 74) rfl))⟩)
  have o14 := own_fld v14 c31
  obtain ⟨e15, v15⟩ := exa_v c20
  have x15 := Exa.start v15 c20
  have s15 := Sta.start v15 (Or.inr ⟨(hw _ (List.mem_of_getElem? (i := 6) rfl)), (hw _ (List.mem_of_getElem? (i := 63) rfl))⟩)
  have o15 := own_fld v15 c21
  obtain ⟨e16, v16⟩ := exa_v c18
  have x16 := Exa.start v16 c18
  have s16 := Sta.start v16 (Or.inr ⟨(hw _ (List.mem_of_getElem? (i := 6) rfl)), (hw _ (List.mem_of_getElem? (i := 61) rfl))⟩)
  have o16 := own_fld v16 c19
  obtain ⟨e17, v17⟩ := exa_v c28
  have x17 := Exa.start v17 c28
  have s17 := Sta.start v17 (Or.inr ⟨(hw _ (List.mem_of_getElem? (i := 6) rfl)), (hw _ (List.mem_of_getElem? (i := 71) rfl))⟩)
  have o17 := own_fld v17 c29
  have HE : own_en s (fun i => match i with | 0 => e0 | 1 => e1 | 2 => e2 | 3 => e3 | 4 => e4 | 5 => e5 | 6 => e6 | 7 => e7 | 8 => e8 | 9 => e9 | 10 => e10 | 11 => e11 | 12 => e12 | 13 => e13 | 14 => e14 | 15 => e15 | 16 => e16 | _ => e17) := ⟨⟨s0, s1, s2, s3, s4, s5, s6, s7, s8, s9, s10, s11, s12, s13, s14, s15, s16, s17⟩, fun i hi => match i, hi with | 0, _ => ⟨x0, o0⟩ | 1, _ => ⟨x1, o1⟩ | 2, _ => ⟨x2, o2⟩ | 3, _ => ⟨x3, o3⟩ | 4, _ => ⟨x4, o4⟩ | 5, _ => ⟨x5, o5⟩ | 6, _ => ⟨x6, o6⟩ | 7, _ => ⟨x7, o7⟩ | 8, _ => ⟨x8, o8⟩ | 9, _ => ⟨x9, o9⟩ | 10, _ => ⟨x10, o10⟩ | 11, _ => ⟨x11, o11⟩ | 12, _ => ⟨x12, o12⟩ | 13, _ => ⟨x13, o13⟩ | 14, _ => ⟨x14, o14⟩ | 15, _ => ⟨x15, o15⟩ | 16, _ => ⟨x16, o16⟩ | 17, _ => ⟨x17, o17⟩ | n + 18, hi => absurd hi (by omega)⟩
  obtain ⟨cs, ecs⟩ := is_v (Cond.before_iff.mp (hsets _ (List.mem_of_getElem? (i := 1) rfl)))
  have SC := Sta.start ecs (Or.inl (hsets _ (List.mem_of_getElem? (i := 0) rfl)))
  have hcs : ¬ cs = (0 : Int32) := gotF (Cond.eq_ints ecs (Term.int_eval 0)) (by have q := not_v (Cond.before_iff.mp (hsets _ (List.mem_of_getElem? (i := 2) rfl))); exact q)
  have hEL := own_EW s _ hw
  have hCH : CHv s own_EL s.vm s.heap := CHv.start hEL (fun p hp => hcalls.1 p hp) (hsets _ (List.mem_of_getElem? (i := 2) rfl)) (hw _ (List.mem_of_getElem? (i := 18) rfl)) (hw _ (List.mem_of_getElem? (i := 17) rfl))
  obtain ⟨n, o, h1, h2, h3, _, L, rfl, ⟨rfl, N⟩, -, hq⟩ := rm0 l s _ hw tables_1 i0 _ cs s.heap s.heap.size (Nat.le_refl _) HE (Old.start s) SC hcs hEL p e ha hc hk s m _ below hf ((Spec.applies_iff_loose hf).mp happ).1 ⟨rfl, State.Warmed39.refl s, rfl, hCH⟩ trivial
  refine ⟨n, _, h1, h2, h3, hpost _ _ _ _ _ _ ⟨Cond.after_iff.mpr rfl, Cond.after_iff.mpr (eq_i res_at (Term.int_eval (1)) rfl), trivial⟩ ⟨hq.1, hq.2.1, hq.2.2.1, (hq.2.2.2.sift fun y hy => Or.inr (N y hy)).mono (by decide) (by decide)⟩⟩
theorem main_1_1 : Claimed_1_1 := comes_1 fun _ _ _ _ _ _ h hF => ⟨h.1, hF⟩
theorem main_1_2 : Claimed_1_2 := comes_1 fun _ _ _ _ _ _ h hF => ⟨h.2.1, hF⟩
end Jvm.Pilot.@@N@@
namespace Jvm.Pilot.@@N@@
open Jvm Jvm.ClassFile Sem Op Lib Jvm.Free Jvm.Stand Jvm.Pilot.@@N@@.Jvm.D
/-! MADE BY PROGRAM (witnessworld.py) out of the Statement's table words and the real class files: 18 classes; the members and pool entries that the words name. The judged class is class 1, her method 2. -/
namespace start1
open Jvm.ClassFile
def u (s : String) : CpInfo := .utf8 (stringToUtf16 s)
/-- a pool by its gaps: so many unusable entries, then the entry; so many at the end -/
def gap : Nat → List CpInfo → List CpInfo
  | 0, r => r
  | n + 1, r => .unusable :: gap n r
def poolList (es : List (Nat × CpInfo)) (last : Nat) : List CpInfo := es.foldr (fun e r => gap e.1 (e.2 :: r)) (gap last [])
def pool (es : List (Nat × CpInfo)) (last : Nat) : Array CpInfo := ⟨poolList es last⟩
def fileOf (pool : Array CpInfo) (this : Nat) (attrs : Array Attribute := #[]) (ms : Array MethodInfo := #[]) (fl : Nat := 33) (sup : Nat := 0) (ifs : Array Nat := #[]) (fds : Array FieldInfo := #[]) : ClassFile where
  minorVersion := 0
  majorVersion := 65
  constantPool := pool
  accessFlags := fl
  thisClass := this
  superClass := sup
  interfaces := ifs
  fields := fds
  methods := ms
  attributes := attrs
def plain (name : String) (sup : Option ClassId) : Class where
  name := name
  kind := .ordinary
  loader := none
  accessFlags := 33
  super := sup
  interfaces := #[]
  cf := none
  fields := #[]
  methods := #[]
  instanceTypes := #[]
  staticTypes := #[]
  resolved := #[]
  callSites := []
  init := .initialized
  statics := none
  mirror := none

def pool0 : Array CpInfo := pool [(5, u "<init>"), (0, u "()V"), (1, .class_ 10), (1, u "java/lang/Object")] 113

def k0m0 : Method := { name := "<init>", desc := "()V", sig := { parameters := [], returnType := none }, accessFlags := 1, code := none }
/-- java/lang/Object -/
def k0 : Class := { plain "java/lang/Object" none with
  accessFlags := 33
  interfaces := #[]
  cf := some (fileOf pool0 8 #[] #[{ accessFlags := 1, nameIndex := 5, descriptorIndex := 6, attributes := #[] }] 33 0 #[] #[])
  fields := #[]
  methods := #[k0m0]
  instanceTypes := #[]
  staticTypes := #[]
  resolved := Array.replicate 124 none
  statics := none }

def pool1 : Array CpInfo := pool [(2, .class_ 4), (1, u "java/lang/Object"), (0, u "<init>"), (0, u "()V"), (0, .fieldref 8 9), (0, .class_ 10), (0, .nameAndType 11 12), (0, u "com/example/issuer/issuer/protocol/ErrorCode"), (0, u "VALIDATION_ERROR"), (0, u "Lcom/example/issuer/issuer/protocol/ErrorCode;"), (0, .fieldref 8 14), (0, .nameAndType 15 12), (0, u "INVALID_PARAMETER_VALUE"), (0, .fieldref 8 17), (0, .nameAndType 18 12), (0, u "MALFORMED_POLICY_DOCUMENT"), (0, .fieldref 8 20), (0, .nameAndType 21 12), (0, u "PACKED_POLICY_TOO_LARGE"), (0, .fieldref 8 23), (0, .nameAndType 24 12), (0, u "MISSING_ACTION"), (0, .fieldref 8 26), (0, .nameAndType 27 12), (0, u "INVALID_ACTION"), (0, .fieldref 8 29), (0, .nameAndType 30 12), (0, u "INVALID_IDENTITY_TOKEN"), (0, .fieldref 8 32), (0, .nameAndType 33 12), (0, u "EXPIRED_TOKEN_EXCEPTION"), (0, .fieldref 8 35), (0, .nameAndType 36 12), (0, u "MISSING_AUTHENTICATION_TOKEN"), (0, .fieldref 8 38), (0, .nameAndType 39 12), (0, u "INCOMPLETE_SIGNATURE"), (0, .fieldref 8 41), (0, .nameAndType 42 12), (0, u "INVALID_CLIENT_TOKEN_ID"), (0, .fieldref 8 44), (0, .nameAndType 45 12), (0, u "EXPIRED_TOKEN"), (0, .fieldref 8 47), (0, .nameAndType 48 12), (0, u "SIGNATURE_DOES_NOT_MATCH"), (0, .fieldref 8 50), (0, .nameAndType 51 12), (0, u "ACCESS_DENIED"), (0, .fieldref 8 53), (0, .nameAndType 54 12), (0, u "INVALID_REQUEST"), (0, .fieldref 8 56), (0, .nameAndType 57 12), (0, u "METHOD_NOT_ALLOWED"), (0, .fieldref 8 59), (0, .nameAndType 60 12), (0, u "REQUEST_TOO_LARGE"), (0, .fieldref 8 62), (0, .nameAndType 63 12), (0, u "INTERNAL_FAILURE"), (0, .integer 2147483647), (0, .methodref 66 67), (0, .class_ 68), (0, .nameAndType 69 70), (0, u "com/example/issuer/issuer/protocol/ErrorCodeGetTypePinLaw"), (0, u "pick"), (0, u "(I)Lcom/example/issuer/issuer/protocol/ErrorCode;"), (0, .methodref 8 72), (0, .nameAndType 73 74), (0, u "getType"), (0, u "()Ljava/lang/String;"), (0, .string 76), (0, u "Receiver"), (0, .string 78), (0, u "Sender"), (0, .methodref 8 80), (0, .nameAndType 81 82), (0, u "getHttpStatus"), (0, u "()I"), (0, .methodref 84 85), (0, .class_ 86), (0, .nameAndType 87 88), (0, u "java/lang/String"), (0, u "equals"), (0, u "(Ljava/lang/Object;)Z"), (3, u "law"), (0, u "(I)Z")] 2

def k1m0 : Method := { name := "<init>", desc := "()V", sig := { parameters := [], returnType := none }, accessFlags := 1, code := none }
def k1c1 : Code := { maxStack := 2, maxLocals := 1, code := method_2_code, exceptionTable := #[], attributes := #[] }
def k1m1 : Method := { name := "pick", desc := "(I)Lcom/example/issuer/issuer/protocol/ErrorCode;", sig := { parameters := [.int], returnType := some (.object "com/example/issuer/issuer/protocol/ErrorCode") }, accessFlags := 10, code := some k1c1 }
def k1c2 : Code := { maxStack := 3, maxLocals := 6, code := code, exceptionTable := #[], attributes := #[] }
def k1m2 : Method := { name := "law", desc := "(I)Z", sig := { parameters := [.int], returnType := some .boolean }, accessFlags := 9, code := some k1c2 }
/-- com/example/issuer/issuer/protocol/ErrorCodeGetTypePinLaw -/
def k1 : Class := { plain "com/example/issuer/issuer/protocol/ErrorCodeGetTypePinLaw" (some 0) with
  accessFlags := 49
  interfaces := #[]
  cf := some (fileOf pool1 66 #[] #[{ accessFlags := 1, nameIndex := 5, descriptorIndex := 6, attributes := #[] }, { accessFlags := 10, nameIndex := 69, descriptorIndex := 70, attributes := #[] }, { accessFlags := 9, nameIndex := 92, descriptorIndex := 93, attributes := #[] }] 49 2 #[] #[])
  fields := #[]
  methods := #[k1m0, k1m1, k1m2]
  instanceTypes := #[]
  staticTypes := #[]
  resolved := Array.replicate 96 none
  statics := none }

def pool2 : Array CpInfo := pool [(1, .class_ 2), (0, u "java/lang/constant/Constable"), (0, .class_ 4), (0, u "java/lang/Object")] 6

/-- java/lang/constant/Constable -/
def k2 : Class := { plain "java/lang/constant/Constable" (some 0) with
  accessFlags := 1537
  interfaces := #[]
  cf := some (fileOf pool2 1 #[] #[] 1537 3 #[] #[])
  fields := #[]
  methods := #[]
  instanceTypes := #[]
  staticTypes := #[]
  resolved := Array.replicate 11 none
  statics := none }

def pool3 : Array CpInfo := pool [(1, .class_ 2), (0, u "java/lang/Comparable"), (0, .class_ 4), (0, u "java/lang/Object")] 7

/-- java/lang/Comparable -/
def k3 : Class := { plain "java/lang/Comparable" (some 0) with
  accessFlags := 1537
  interfaces := #[]
  cf := some (fileOf pool3 1 #[] #[] 1537 3 #[] #[])
  fields := #[]
  methods := #[]
  instanceTypes := #[]
  staticTypes := #[]
  resolved := Array.replicate 12 none
  statics := none }

def pool4 : Array CpInfo := pool [(1, .class_ 2), (0, u "java/io/Serializable"), (0, .class_ 4), (0, u "java/lang/Object")] 2

/-- java/io/Serializable -/
def k4 : Class := { plain "java/io/Serializable" (some 0) with
  accessFlags := 1537
  interfaces := #[]
  cf := some (fileOf pool4 1 #[] #[] 1537 3 #[] #[])
  fields := #[]
  methods := #[]
  instanceTypes := #[]
  staticTypes := #[]
  resolved := Array.replicate 7 none
  statics := none }

def pool5 : Array CpInfo := pool [(2, .class_ 4), (1, u "java/lang/Enum"), (0, u "name"), (0, u "Ljava/lang/String;"), (2, u "ordinal"), (0, u "I"), (1, .class_ 14), (1, u "java/lang/Object"), (4, u "hash"), (86, .class_ 108), (1, u "java/lang/Enum$EnumDesc"), (2, .class_ 112), (0, u "java/lang/constant/Constable"), (0, .class_ 114), (0, u "java/lang/Comparable"), (0, .class_ 116), (0, u "java/io/Serializable")] 87

/-- java/lang/Enum -/
def k5 : Class := { plain "java/lang/Enum" (some 0) with
  accessFlags := 1057
  interfaces := #[2, 3, 4]
  cf := some (fileOf pool5 2 #[.nestMembers #[106]] #[] 1057 12 #[111, 113, 115] #[{ accessFlags := 18, nameIndex := 5, descriptorIndex := 6, attributes := #[] }, { accessFlags := 18, nameIndex := 9, descriptorIndex := 10, attributes := #[] }, { accessFlags := 2, nameIndex := 19, descriptorIndex := 10, attributes := #[] }])
  fields := #[{ name := "name", type := (.object "java/lang/String"), accessFlags := 18, slot := 0, constantValue := 0 }, { name := "ordinal", type := .int, accessFlags := 18, slot := 1, constantValue := 0 }, { name := "hash", type := .int, accessFlags := 2, slot := 2, constantValue := 0 }]
  methods := #[]
  instanceTypes := #[(.object "java/lang/String"), .int, .int]
  staticTypes := #[]
  resolved := Array.replicate 204 none
  statics := none }

def pool6 : Array CpInfo := pool [(1, .class_ 2), (0, u "com/example/issuer/issuer/protocol/ErrorCode"), (2, u "VALIDATION_ERROR"), (0, u "Lcom/example/issuer/issuer/protocol/ErrorCode;"), (2, u "INVALID_PARAMETER_VALUE"), (2, u "MALFORMED_POLICY_DOCUMENT"), (2, u "PACKED_POLICY_TOO_LARGE"), (2, u "MISSING_ACTION"), (2, u "INVALID_ACTION"), (2, u "INVALID_IDENTITY_TOKEN"), (2, u "EXPIRED_TOKEN_EXCEPTION"), (2, u "MISSING_AUTHENTICATION_TOKEN"), (2, u "INCOMPLETE_SIGNATURE"), (2, u "INVALID_CLIENT_TOKEN_ID"), (2, u "EXPIRED_TOKEN"), (2, u "SIGNATURE_DOES_NOT_MATCH"), (2, u "ACCESS_DENIED"), (2, u "INVALID_REQUEST"), (2, u "METHOD_NOT_ALLOWED"), (2, u "REQUEST_TOO_LARGE"), (2, u "INTERNAL_FAILURE"), (2, u "$VALUES"), (0, u "[Lcom/example/issuer/issuer/protocol/ErrorCode;"), (6, .class_ 70), (1, u "java/lang/Enum"), (8, u "code"), (0, u "Ljava/lang/String;"), (0, .fieldref 1 82), (0, .nameAndType 83 84), (0, u "httpStatus"), (0, u "I"), (0, .string 86), (0, u "Sender"), (0, .string 88), (0, u "Receiver"), (68, u "()Ljava/lang/String;"), (0, u "getHttpStatus"), (0, u "()I"), (0, u "getType")] 8

def k6c0 : Code := { maxStack := 1, maxLocals := 1, code := prog_43_method_5_code, exceptionTable := #[], attributes := #[] }
def k6m0 : Method := { name := "getHttpStatus", desc := "()I", sig := { parameters := [], returnType := some .int }, accessFlags := 1, code := some k6c0 }
def k6c1 : Code := { maxStack := 2, maxLocals := 1, code := prog_43_method_6_code, exceptionTable := #[], attributes := #[] }
def k6m1 : Method := { name := "getType", desc := "()Ljava/lang/String;", sig := { parameters := [], returnType := some (.object "java/lang/String") }, accessFlags := 1, code := some k6c1 }
/-- com/example/issuer/issuer/protocol/ErrorCode -/
def k6 : Class := { plain "com/example/issuer/issuer/protocol/ErrorCode" (some 5) with
  accessFlags := 16433
  interfaces := #[]
  cf := some (fileOf pool6 1 #[] #[{ accessFlags := 1, nameIndex := 158, descriptorIndex := 159, attributes := #[] }, { accessFlags := 1, nameIndex := 160, descriptorIndex := 157, attributes := #[] }] 16433 68 #[] #[{ accessFlags := 16409, nameIndex := 5, descriptorIndex := 6, attributes := #[] }, { accessFlags := 16409, nameIndex := 9, descriptorIndex := 6, attributes := #[] }, { accessFlags := 16409, nameIndex := 12, descriptorIndex := 6, attributes := #[] }, { accessFlags := 16409, nameIndex := 15, descriptorIndex := 6, attributes := #[] }, { accessFlags := 16409, nameIndex := 18, descriptorIndex := 6, attributes := #[] }, { accessFlags := 16409, nameIndex := 21, descriptorIndex := 6, attributes := #[] }, { accessFlags := 16409, nameIndex := 24, descriptorIndex := 6, attributes := #[] }, { accessFlags := 16409, nameIndex := 27, descriptorIndex := 6, attributes := #[] }, { accessFlags := 16409, nameIndex := 30, descriptorIndex := 6, attributes := #[] }, { accessFlags := 16409, nameIndex := 33, descriptorIndex := 6, attributes := #[] }, { accessFlags := 16409, nameIndex := 36, descriptorIndex := 6, attributes := #[] }, { accessFlags := 16409, nameIndex := 39, descriptorIndex := 6, attributes := #[] }, { accessFlags := 16409, nameIndex := 42, descriptorIndex := 6, attributes := #[] }, { accessFlags := 16409, nameIndex := 45, descriptorIndex := 6, attributes := #[] }, { accessFlags := 16409, nameIndex := 48, descriptorIndex := 6, attributes := #[] }, { accessFlags := 16409, nameIndex := 51, descriptorIndex := 6, attributes := #[] }, { accessFlags := 16409, nameIndex := 54, descriptorIndex := 6, attributes := #[] }, { accessFlags := 16409, nameIndex := 57, descriptorIndex := 6, attributes := #[] }, { accessFlags := 18, nameIndex := 79, descriptorIndex := 80, attributes := #[] }, { accessFlags := 18, nameIndex := 83, descriptorIndex := 84, attributes := #[] }, { accessFlags := 4122, nameIndex := 60, descriptorIndex := 61, attributes := #[] }])
  fields := #[{ name := "VALIDATION_ERROR", type := (.object "com/example/issuer/issuer/protocol/ErrorCode"), accessFlags := 16409, slot := 0, constantValue := 0 }, { name := "INVALID_PARAMETER_VALUE", type := (.object "com/example/issuer/issuer/protocol/ErrorCode"), accessFlags := 16409, slot := 1, constantValue := 0 }, { name := "MALFORMED_POLICY_DOCUMENT", type := (.object "com/example/issuer/issuer/protocol/ErrorCode"), accessFlags := 16409, slot := 2, constantValue := 0 }, { name := "PACKED_POLICY_TOO_LARGE", type := (.object "com/example/issuer/issuer/protocol/ErrorCode"), accessFlags := 16409, slot := 3, constantValue := 0 }, { name := "MISSING_ACTION", type := (.object "com/example/issuer/issuer/protocol/ErrorCode"), accessFlags := 16409, slot := 4, constantValue := 0 }, { name := "INVALID_ACTION", type := (.object "com/example/issuer/issuer/protocol/ErrorCode"), accessFlags := 16409, slot := 5, constantValue := 0 }, { name := "INVALID_IDENTITY_TOKEN", type := (.object "com/example/issuer/issuer/protocol/ErrorCode"), accessFlags := 16409, slot := 6, constantValue := 0 }, { name := "EXPIRED_TOKEN_EXCEPTION", type := (.object "com/example/issuer/issuer/protocol/ErrorCode"), accessFlags := 16409, slot := 7, constantValue := 0 }, { name := "MISSING_AUTHENTICATION_TOKEN", type := (.object "com/example/issuer/issuer/protocol/ErrorCode"), accessFlags := 16409, slot := 8, constantValue := 0 }, { name := "INCOMPLETE_SIGNATURE", type := (.object "com/example/issuer/issuer/protocol/ErrorCode"), accessFlags := 16409, slot := 9, constantValue := 0 }, { name := "INVALID_CLIENT_TOKEN_ID", type := (.object "com/example/issuer/issuer/protocol/ErrorCode"), accessFlags := 16409, slot := 10, constantValue := 0 }, { name := "EXPIRED_TOKEN", type := (.object "com/example/issuer/issuer/protocol/ErrorCode"), accessFlags := 16409, slot := 11, constantValue := 0 }, { name := "SIGNATURE_DOES_NOT_MATCH", type := (.object "com/example/issuer/issuer/protocol/ErrorCode"), accessFlags := 16409, slot := 12, constantValue := 0 }, { name := "ACCESS_DENIED", type := (.object "com/example/issuer/issuer/protocol/ErrorCode"), accessFlags := 16409, slot := 13, constantValue := 0 }, { name := "INVALID_REQUEST", type := (.object "com/example/issuer/issuer/protocol/ErrorCode"), accessFlags := 16409, slot := 14, constantValue := 0 }, { name := "METHOD_NOT_ALLOWED", type := (.object "com/example/issuer/issuer/protocol/ErrorCode"), accessFlags := 16409, slot := 15, constantValue := 0 }, { name := "REQUEST_TOO_LARGE", type := (.object "com/example/issuer/issuer/protocol/ErrorCode"), accessFlags := 16409, slot := 16, constantValue := 0 }, { name := "INTERNAL_FAILURE", type := (.object "com/example/issuer/issuer/protocol/ErrorCode"), accessFlags := 16409, slot := 17, constantValue := 0 }, { name := "code", type := (.object "java/lang/String"), accessFlags := 18, slot := 3, constantValue := 0 }, { name := "httpStatus", type := .int, accessFlags := 18, slot := 4, constantValue := 0 }, { name := "$VALUES", type := (.array (.object "com/example/issuer/issuer/protocol/ErrorCode")), accessFlags := 4122, slot := 18, constantValue := 0 }]
  methods := #[k6m0, k6m1]
  instanceTypes := #[(.object "java/lang/String"), .int, .int, (.object "java/lang/String"), .int]
  staticTypes := #[(.object "com/example/issuer/issuer/protocol/ErrorCode"), (.object "com/example/issuer/issuer/protocol/ErrorCode"), (.object "com/example/issuer/issuer/protocol/ErrorCode"), (.object "com/example/issuer/issuer/protocol/ErrorCode"), (.object "com/example/issuer/issuer/protocol/ErrorCode"), (.object "com/example/issuer/issuer/protocol/ErrorCode"), (.object "com/example/issuer/issuer/protocol/ErrorCode"), (.object "com/example/issuer/issuer/protocol/ErrorCode"), (.object "com/example/issuer/issuer/protocol/ErrorCode"), (.object "com/example/issuer/issuer/protocol/ErrorCode"), (.object "com/example/issuer/issuer/protocol/ErrorCode"), (.object "com/example/issuer/issuer/protocol/ErrorCode"), (.object "com/example/issuer/issuer/protocol/ErrorCode"), (.object "com/example/issuer/issuer/protocol/ErrorCode"), (.object "com/example/issuer/issuer/protocol/ErrorCode"), (.object "com/example/issuer/issuer/protocol/ErrorCode"), (.object "com/example/issuer/issuer/protocol/ErrorCode"), (.object "com/example/issuer/issuer/protocol/ErrorCode"), (.array (.object "com/example/issuer/issuer/protocol/ErrorCode"))]
  resolved := Array.replicate 169 none
  statics := some 0 }

def pool7 : Array CpInfo := pool [(2, .class_ 4), (1, u "java/lang/CharSequence"), (42, .class_ 48), (0, u "java/lang/CharSequence$1CodePointIterator"), (10, .class_ 60), (0, u "java/lang/CharSequence$1CharIterator"), (5, .class_ 67), (0, u "java/lang/Object")] 63

/-- java/lang/CharSequence -/
def k7 : Class := { plain "java/lang/CharSequence" (some 0) with
  accessFlags := 1537
  interfaces := #[]
  cf := some (fileOf pool7 2 #[.nestMembers #[47, 59]] #[] 1537 66 #[] #[])
  fields := #[]
  methods := #[]
  instanceTypes := #[]
  staticTypes := #[]
  resolved := Array.replicate 131 none
  statics := none }

def pool8 : Array CpInfo := pool [(1, .class_ 2), (0, u "java/lang/constant/ConstantDesc"), (0, .class_ 4), (0, u "java/lang/Object")] 32

/-- java/lang/constant/ConstantDesc -/
def k8 : Class := { plain "java/lang/constant/ConstantDesc" (some 0) with
  accessFlags := 1537
  interfaces := #[]
  cf := some (fileOf pool8 1 #[] #[] 1537 3 #[] #[])
  fields := #[]
  methods := #[]
  instanceTypes := #[]
  staticTypes := #[]
  resolved := Array.replicate 37 none
  statics := none }

def pool9 : Array CpInfo := pool [(2, .class_ 4), (1, u "java/lang/Object"), (0, u "<init>"), (0, u "()V"), (2, .fieldref 10 11), (0, .class_ 12), (0, .nameAndType 13 14), (0, u "java/lang/String"), (0, u "value"), (0, u "[B"), (0, .fieldref 10 16), (0, .nameAndType 17 18), (0, u "coder"), (0, u "B"), (2, u "hash"), (0, u "I"), (2, u "hashIsZero"), (0, u "Z"), (11, .fieldref 10 39), (0, .nameAndType 40 26), (0, u "COMPACT_STRINGS"), (66, .class_ 109), (1, u "java/lang/StringLatin1"), (431, .methodref 107 542), (0, .nameAndType 543 544), (0, u "equals"), (0, u "([B[B)Z"), (28, u "(Ljava/lang/Object;)Z"), (1, .class_ 576), (0, u "java/lang/CharSequence"), (22, u "CASE_INSENSITIVE_ORDER"), (0, u "Ljava/util/Comparator;"), (500, u "serialPersistentFields"), (0, u "[Ljava/io/ObjectStreamField;"), (0, .class_ 1104), (0, u "java/lang/String$CaseInsensitiveComparator"), (1, .class_ 1107), (0, u "java/io/Serializable"), (0, .class_ 1109), (0, u "java/lang/Comparable"), (0, .class_ 1111), (0, u "java/lang/constant/Constable"), (0, .class_ 1113), (0, u "java/lang/constant/ConstantDesc"), (2, u "serialVersionUID"), (0, u "J"), (3, u "REPL"), (0, u "C"), (2, u "LATIN1"), (1, u "UTF16")] 323

def k9m0 : Method := { name := "<init>", desc := "()V", sig := { parameters := [], returnType := none }, accessFlags := 1, code := none }
def k9c1 : Code := { maxStack := 2, maxLocals := 3, code := jdk_42_method_66_code, exceptionTable := #[], attributes := #[] }
def k9m1 : Method := { name := "equals", desc := "(Ljava/lang/Object;)Z", sig := { parameters := [(.object "java/lang/Object")], returnType := some .boolean }, accessFlags := 1, code := some k9c1 }
/-- java/lang/String -/
def k9 : Class := { plain "java/lang/String" (some 0) with
  accessFlags := 49
  interfaces := #[4, 3, 7, 2, 8]
  cf := some (fileOf pool9 10 #[.nestMembers #[1103]] #[{ accessFlags := 1, nameIndex := 5, descriptorIndex := 6, attributes := #[] }, { accessFlags := 1, nameIndex := 543, descriptorIndex := 573, attributes := #[] }] 49 2 #[1106, 1108, 575, 1110, 1112] #[{ accessFlags := 18, nameIndex := 13, descriptorIndex := 14, attributes := #[] }, { accessFlags := 18, nameIndex := 17, descriptorIndex := 18, attributes := #[] }, { accessFlags := 2, nameIndex := 21, descriptorIndex := 22, attributes := #[] }, { accessFlags := 2, nameIndex := 25, descriptorIndex := 26, attributes := #[] }, { accessFlags := 26, nameIndex := 1116, descriptorIndex := 1117, attributes := #[] }, { accessFlags := 24, nameIndex := 40, descriptorIndex := 26, attributes := #[] }, { accessFlags := 26, nameIndex := 1101, descriptorIndex := 1102, attributes := #[] }, { accessFlags := 26, nameIndex := 1121, descriptorIndex := 1122, attributes := #[] }, { accessFlags := 25, nameIndex := 599, descriptorIndex := 600, attributes := #[] }, { accessFlags := 24, nameIndex := 1125, descriptorIndex := 18, attributes := #[] }, { accessFlags := 24, nameIndex := 1127, descriptorIndex := 18, attributes := #[] }])
  fields := #[{ name := "value", type := (.array .byte), accessFlags := 18, slot := 0, constantValue := 0 }, { name := "coder", type := .byte, accessFlags := 18, slot := 1, constantValue := 0 }, { name := "hash", type := .int, accessFlags := 2, slot := 2, constantValue := 0 }, { name := "hashIsZero", type := .boolean, accessFlags := 2, slot := 3, constantValue := 0 }, { name := "serialVersionUID", type := .long, accessFlags := 26, slot := 0, constantValue := 0 }, { name := "COMPACT_STRINGS", type := .boolean, accessFlags := 24, slot := 1, constantValue := 0 }, { name := "serialPersistentFields", type := (.array (.object "java/io/ObjectStreamField")), accessFlags := 26, slot := 2, constantValue := 0 }, { name := "REPL", type := .char, accessFlags := 26, slot := 3, constantValue := 0 }, { name := "CASE_INSENSITIVE_ORDER", type := (.object "java/util/Comparator"), accessFlags := 25, slot := 4, constantValue := 0 }, { name := "LATIN1", type := .byte, accessFlags := 24, slot := 5, constantValue := 0 }, { name := "UTF16", type := .byte, accessFlags := 24, slot := 6, constantValue := 0 }]
  methods := #[k9m0, k9m1]
  instanceTypes := #[(.array .byte), .byte, .int, .boolean]
  staticTypes := #[.long, .boolean, (.array (.object "java/io/ObjectStreamField")), .char, (.object "java/util/Comparator"), .byte, .byte]
  resolved := Array.replicate 1451 none
  statics := some 1 }

def pool10 : Array CpInfo := pool [(4, .class_ 6), (1, u "java/lang/Object"), (0, u "<init>"), (0, u "()V"), (5, .class_ 16), (1, u "java/lang/StringLatin1"), (104, u "$assertionsDisabled"), (0, u "Z"), (98, .class_ 223), (1, u "java/lang/StringLatin1$LinesSpliterator"), (57, u "equals"), (0, u "([B[B)Z"), (107, .class_ 391), (0, u "java/lang/StringLatin1$CharsSpliterator")] 3

def k10m0 : Method := { name := "<init>", desc := "()V", sig := { parameters := [], returnType := none }, accessFlags := 0, code := none }
def k10c1 : Code := { maxStack := 3, maxLocals := 3, code := jdk_43_method_13_code, exceptionTable := #[], attributes := #[] }
def k10m1 : Method := { name := "equals", desc := "([B[B)Z", sig := { parameters := [(.array .byte), (.array .byte)], returnType := some .boolean }, accessFlags := 9, code := some k10c1 }
/-- java/lang/StringLatin1 -/
def k10 : Class := { plain "java/lang/StringLatin1" (some 0) with
  accessFlags := 48
  interfaces := #[]
  cf := some (fileOf pool10 14 #[.nestMembers #[390, 221]] #[{ accessFlags := 0, nameIndex := 7, descriptorIndex := 8, attributes := #[] }, { accessFlags := 9, nameIndex := 281, descriptorIndex := 282, attributes := #[] }] 48 4 #[] #[{ accessFlags := 4120, nameIndex := 121, descriptorIndex := 122, attributes := #[] }])
  fields := #[{ name := "$assertionsDisabled", type := .boolean, accessFlags := 4120, slot := 0, constantValue := 0 }]
  methods := #[k10m0, k10m1]
  instanceTypes := #[]
  staticTypes := #[.boolean]
  resolved := Array.replicate 395 none
  statics := none }

def pool11 : Array CpInfo := pool [(2, .class_ 4), (1, u "java/lang/Object"), (0, u "<init>"), (0, u "()V"), (17, .class_ 26), (1, u "jdk/internal/util/Preconditions"), (28, .class_ 56), (0, u "jdk/internal/util/Preconditions$4"), (57, .class_ 115), (0, u "jdk/internal/util/Preconditions$1"), (7, u "SIOOBE_FORMATTER"), (0, u "Ljava/util/function/BiFunction;"), (0, .class_ 126), (0, u "jdk/internal/util/Preconditions$2"), (3, u "AIOOBE_FORMATTER"), (0, .class_ 132), (0, u "jdk/internal/util/Preconditions$3"), (3, u "IOOBE_FORMATTER")] 57

def k11m0 : Method := { name := "<init>", desc := "()V", sig := { parameters := [], returnType := none }, accessFlags := 1, code := none }
/-- jdk/internal/util/Preconditions -/
def k11 : Class := { plain "jdk/internal/util/Preconditions" (some 0) with
  accessFlags := 33
  interfaces := #[]
  cf := some (fileOf pool11 24 #[.nestMembers #[55, 131, 125, 114]] #[{ accessFlags := 1, nameIndex := 5, descriptorIndex := 6, attributes := #[] }] 33 2 #[] #[{ accessFlags := 25, nameIndex := 123, descriptorIndex := 124, attributes := #[] }, { accessFlags := 25, nameIndex := 130, descriptorIndex := 124, attributes := #[] }, { accessFlags := 25, nameIndex := 136, descriptorIndex := 124, attributes := #[] }])
  fields := #[{ name := "SIOOBE_FORMATTER", type := (.object "java/util/function/BiFunction"), accessFlags := 25, slot := 0, constantValue := 0 }, { name := "AIOOBE_FORMATTER", type := (.object "java/util/function/BiFunction"), accessFlags := 25, slot := 1, constantValue := 0 }, { name := "IOOBE_FORMATTER", type := (.object "java/util/function/BiFunction"), accessFlags := 25, slot := 2, constantValue := 0 }]
  methods := #[k11m0]
  instanceTypes := #[]
  staticTypes := #[(.object "java/util/function/BiFunction"), (.object "java/util/function/BiFunction"), (.object "java/util/function/BiFunction")]
  resolved := Array.replicate 194 none
  statics := some 2 }

def pool12 : Array CpInfo := pool [(9, u "<init>"), (6, .class_ 18), (1, u "java/lang/Object"), (0, u "()V"), (1, .class_ 23), (1, u "jdk/internal/util/ArraysSupport"), (0, u "LOG2_ARRAY_LONG_INDEX_SCALE"), (0, u "I"), (2, u "U"), (0, u "Ljdk/internal/misc/Unsafe;"), (8, u "BIG_ENDIAN"), (0, u "Z"), (8, u "LOG2_BYTE_BIT_SIZE"), (4, u "LOG2_ARRAY_INT_INDEX_SCALE"), (54, u "JLA"), (0, u "Ljdk/internal/access/JavaLangAccess;"), (11, u "LOG2_ARRAY_BOOLEAN_INDEX_SCALE"), (9, u "LOG2_ARRAY_BYTE_INDEX_SCALE"), (5, u "LOG2_ARRAY_CHAR_INDEX_SCALE"), (5, u "LOG2_ARRAY_SHORT_INDEX_SCALE"), (18, u "LOG2_ARRAY_FLOAT_INDEX_SCALE"), (24, u "LOG2_ARRAY_DOUBLE_INDEX_SCALE"), (89, u "T_BOOLEAN"), (2, u "T_CHAR"), (1, u "T_FLOAT"), (1, u "T_DOUBLE"), (1, u "T_BYTE"), (1, u "T_SHORT"), (1, u "T_INT"), (1, u "T_LONG"), (1, u "SOFT_MAX_ARRAY_LENGTH")] 83

def k12m0 : Method := { name := "<init>", desc := "()V", sig := { parameters := [], returnType := none }, accessFlags := 2, code := none }
/-- jdk/internal/util/ArraysSupport -/
def k12 : Class := { plain "jdk/internal/util/ArraysSupport" (some 0) with
  accessFlags := 33
  interfaces := #[]
  cf := some (fileOf pool12 21 #[] #[{ accessFlags := 2, nameIndex := 9, descriptorIndex := 19, attributes := #[] }] 33 16 #[] #[{ accessFlags := 24, nameIndex := 28, descriptorIndex := 29, attributes := #[] }, { accessFlags := 26, nameIndex := 38, descriptorIndex := 39, attributes := #[] }, { accessFlags := 25, nameIndex := 121, descriptorIndex := 25, attributes := #[] }, { accessFlags := 25, nameIndex := 131, descriptorIndex := 25, attributes := #[] }, { accessFlags := 25, nameIndex := 137, descriptorIndex := 25, attributes := #[] }, { accessFlags := 25, nameIndex := 143, descriptorIndex := 25, attributes := #[] }, { accessFlags := 25, nameIndex := 53, descriptorIndex := 25, attributes := #[] }, { accessFlags := 25, nameIndex := 24, descriptorIndex := 25, attributes := #[] }, { accessFlags := 25, nameIndex := 162, descriptorIndex := 25, attributes := #[] }, { accessFlags := 25, nameIndex := 187, descriptorIndex := 25, attributes := #[] }, { accessFlags := 26, nameIndex := 48, descriptorIndex := 25, attributes := #[] }, { accessFlags := 25, nameIndex := 277, descriptorIndex := 25, attributes := #[] }, { accessFlags := 25, nameIndex := 280, descriptorIndex := 25, attributes := #[] }, { accessFlags := 25, nameIndex := 282, descriptorIndex := 25, attributes := #[] }, { accessFlags := 25, nameIndex := 284, descriptorIndex := 25, attributes := #[] }, { accessFlags := 25, nameIndex := 286, descriptorIndex := 25, attributes := #[] }, { accessFlags := 25, nameIndex := 288, descriptorIndex := 25, attributes := #[] }, { accessFlags := 25, nameIndex := 290, descriptorIndex := 25, attributes := #[] }, { accessFlags := 25, nameIndex := 292, descriptorIndex := 25, attributes := #[] }, { accessFlags := 26, nameIndex := 108, descriptorIndex := 109, attributes := #[] }, { accessFlags := 25, nameIndex := 294, descriptorIndex := 25, attributes := #[] }])
  fields := #[{ name := "U", type := (.object "jdk/internal/misc/Unsafe"), accessFlags := 24, slot := 0, constantValue := 0 }, { name := "BIG_ENDIAN", type := .boolean, accessFlags := 26, slot := 1, constantValue := 0 }, { name := "LOG2_ARRAY_BOOLEAN_INDEX_SCALE", type := .int, accessFlags := 25, slot := 2, constantValue := 0 }, { name := "LOG2_ARRAY_BYTE_INDEX_SCALE", type := .int, accessFlags := 25, slot := 3, constantValue := 0 }, { name := "LOG2_ARRAY_CHAR_INDEX_SCALE", type := .int, accessFlags := 25, slot := 4, constantValue := 0 }, { name := "LOG2_ARRAY_SHORT_INDEX_SCALE", type := .int, accessFlags := 25, slot := 5, constantValue := 0 }, { name := "LOG2_ARRAY_INT_INDEX_SCALE", type := .int, accessFlags := 25, slot := 6, constantValue := 0 }, { name := "LOG2_ARRAY_LONG_INDEX_SCALE", type := .int, accessFlags := 25, slot := 7, constantValue := 0 }, { name := "LOG2_ARRAY_FLOAT_INDEX_SCALE", type := .int, accessFlags := 25, slot := 8, constantValue := 0 }, { name := "LOG2_ARRAY_DOUBLE_INDEX_SCALE", type := .int, accessFlags := 25, slot := 9, constantValue := 0 }, { name := "LOG2_BYTE_BIT_SIZE", type := .int, accessFlags := 26, slot := 10, constantValue := 0 }, { name := "T_BOOLEAN", type := .int, accessFlags := 25, slot := 11, constantValue := 0 }, { name := "T_CHAR", type := .int, accessFlags := 25, slot := 12, constantValue := 0 }, { name := "T_FLOAT", type := .int, accessFlags := 25, slot := 13, constantValue := 0 }, { name := "T_DOUBLE", type := .int, accessFlags := 25, slot := 14, constantValue := 0 }, { name := "T_BYTE", type := .int, accessFlags := 25, slot := 15, constantValue := 0 }, { name := "T_SHORT", type := .int, accessFlags := 25, slot := 16, constantValue := 0 }, { name := "T_INT", type := .int, accessFlags := 25, slot := 17, constantValue := 0 }, { name := "T_LONG", type := .int, accessFlags := 25, slot := 18, constantValue := 0 }, { name := "JLA", type := (.object "jdk/internal/access/JavaLangAccess"), accessFlags := 26, slot := 19, constantValue := 0 }, { name := "SOFT_MAX_ARRAY_LENGTH", type := .int, accessFlags := 25, slot := 20, constantValue := 0 }]
  methods := #[k12m0]
  instanceTypes := #[]
  staticTypes := #[(.object "jdk/internal/misc/Unsafe"), .boolean, .int, .int, .int, .int, .int, .int, .int, .int, .int, .int, .int, .int, .int, .int, .int, .int, .int, (.object "jdk/internal/access/JavaLangAccess"), .int]
  resolved := Array.replicate 378 none
  statics := none }

def pool13 : Array CpInfo := pool [(1, u "java/lang/Cloneable"), (0, .class_ 1), (0, u "java/lang/Object"), (0, .class_ 3)] 3

/-- java/lang/Cloneable -/
def k13 : Class := { plain "java/lang/Cloneable" (some 0) with
  accessFlags := 1537
  interfaces := #[]
  cf := some (fileOf pool13 2 #[] #[] 1537 4 #[] #[])
  fields := #[]
  methods := #[]
  instanceTypes := #[]
  staticTypes := #[]
  resolved := Array.replicate 8 none
  statics := none }

/-- the primitive byte -/
def k14 : Class := { plain "byte" none with kind := .primitive 'B', accessFlags := 0x411 }
/-- [B -/
def k15 : Class := { plain "[B" (some 0) with kind := .array 14 .byte, interfaces := #[13, 4], accessFlags := 1041 }

/-- the primitive int -/
def k16 : Class := { plain "int" none with kind := .primitive 'I', accessFlags := 0x411 }
/-- [I -/
def k17 : Class := { plain "[I" (some 0) with kind := .array 16 .int, interfaces := #[13, 4], accessFlags := 1041 }

def heap : Heap := #[{ cls := 6, slots := #[.ref 3, .ref 4, .ref 5, .ref 6, .ref 7, .ref 8, .ref 9, .ref 10, .ref 11, .ref 12, .ref 13, .ref 14, .ref 15, .ref 16, .ref 17, .ref 18, .ref 19, .ref 20, .null], vm := .statics 6 },
  { cls := 9, slots := #[.long 0, .int 1, .null, .int 0, .null, .int 0, .int 0], vm := .statics 9 },
  { cls := 11, slots := #[.null, .null, .null], vm := .statics 11 },
  { cls := 6, slots := #[.null, .int 0, .int 0, .null, .int 400], vm := .none },
  { cls := 6, slots := #[.null, .int 1, .int 0, .null, .int 400], vm := .none },
  { cls := 6, slots := #[.null, .int 2, .int 0, .null, .int 400], vm := .none },
  { cls := 6, slots := #[.null, .int 3, .int 0, .null, .int 400], vm := .none },
  { cls := 6, slots := #[.null, .int 4, .int 0, .null, .int 400], vm := .none },
  { cls := 6, slots := #[.null, .int 5, .int 0, .null, .int 400], vm := .none },
  { cls := 6, slots := #[.null, .int 6, .int 0, .null, .int 400], vm := .none },
  { cls := 6, slots := #[.null, .int 7, .int 0, .null, .int 400], vm := .none },
  { cls := 6, slots := #[.null, .int 8, .int 0, .null, .int 403], vm := .none },
  { cls := 6, slots := #[.null, .int 9, .int 0, .null, .int 400], vm := .none },
  { cls := 6, slots := #[.null, .int 10, .int 0, .null, .int 403], vm := .none },
  { cls := 6, slots := #[.null, .int 11, .int 0, .null, .int 403], vm := .none },
  { cls := 6, slots := #[.null, .int 12, .int 0, .null, .int 403], vm := .none },
  { cls := 6, slots := #[.null, .int 13, .int 0, .null, .int 403], vm := .none },
  { cls := 6, slots := #[.null, .int 14, .int 0, .null, .int 400], vm := .none },
  { cls := 6, slots := #[.null, .int 15, .int 0, .null, .int 405], vm := .none },
  { cls := 6, slots := #[.null, .int 16, .int 0, .null, .int 413], vm := .none },
  { cls := 6, slots := #[.null, .int 17, .int 0, .null, .int 500], vm := .none }]
def classes : Array Class := #[k0, k1, k2, k3, k4, k5, k6, k7, k8, k9, k10, k11, k12, k13, k14, k15, k16, k17]
def interned : List (Array UInt16 × Addr) := []
def slotsUsed : Nat := 119
def theMethod : MethodId := ⟨1, 2⟩
def args0 : Array Value := #[.int 3]
def aboutOver (below : List Frame) : State where
  vm := { classes := classes, interned := interned.toArray }
  heap := heap
  slotsUsed := slotsUsed
  threads := #[{ frames := .invoking theMethod args0 :: below }]
def below0 : List Frame := [.native { method := ⟨0, 0⟩, args := #[] }]
def about1 : State := aboutOver below0
def p0 : Program := .bare "" "" ""
def e0 : Env := launch0.env 0 0 0
theorem w_frames : about1.frames = Frame.invoking theMethod args0 :: below0 := rfl
set_option maxRecDepth 65536 in
theorem w_args : argsFit about1.vm theMethod args0 = true := by decide +kernel
set_option maxRecDepth 65536 in
theorem w_heap : heapFits about1 = true := by decide +kernel
set_option maxRecDepth 65536 in
theorem w_runnable : about1.curStatus? = some .runnable := by decide +kernel
set_option maxRecDepth 65536 in
theorem w_alone : about1.alone = true := by decide +kernel
set_option maxRecDepth 65536 in
theorem w_named : about1.methodNamed? x = some theMethod := by decide +kernel
set_option maxRecDepth 65536 in
theorem w_hears : about1.hears theMethod below0 = true := by decide +kernel
set_option maxRecDepth 65536 in
theorem w_ripe : about1.ripe theMethod args0 below0 = true := by decide +kernel
theorem w_running : about1.status = .running := rfl
set_option maxRecDepth 65536 in
theorem w_room : about1.hasRoom e0.platform room_1 = true :=
  launch0.hasRoom_least _ room_1 (by decide +kernel) (by decide +kernel) (by decide +kernel) (by decide +kernel) (by decide +kernel) (by decide +kernel)
theorem allAtoms_all (ts : List Jvm.Cond) (a : Array Jvm.Value) (st : Jvm.State) : (allAtoms ts).before a st = ts.all (fun c => c.before a st) := by
  induction ts with
  | nil => rfl
  | cons c t ih =>
    show (Jvm.Cond.and c (allAtoms t)).before a st = _
    rw [Jvm.Cond.before_and, ih, List.all_cons]
def words1 : List Jvm.Cond := Jvm.Cond.code x code maxLocals ret :: tables_1
/-- a 'code' word, met by the world's own term for the bytes: nothing is compared byte by byte -/
theorem code_word {y : MethodName} {bytes : ByteArray} {mx : Nat} {rt : Option FieldType} {a : Array Value} {s : State} {m : MethodId} {meth : Method} {c : Code} (h1 : s.methodNamed? y = some m) (h2 : s.vm.method? m = some meth) (h3 : meth.code = some c) (h4 : c.code = bytes)
    (h5 : (c.maxLocals == mx && c.exceptionTable.isEmpty && decide (c.maxStack ≤ mostOperands) && decide (meth.sig.returnType = rt) && !meth.locks && decide (parseMethodDescriptor y.desc = some meth.sig)) = true) : (Jvm.Cond.code y bytes mx rt).before a s = true := by
  simp only [Bool.and_eq_true, beq_iff_eq, Bool.not_eq_true', decide_eq_true_eq] at h5
  obtain ⟨⟨⟨⟨⟨g1, g2⟩, g3⟩, g4⟩, g5⟩, g6⟩ := h5
  simp [Cond.before, Cond.holds, Cond.value, h1, h2, h3, h4, g1, g2, g3, g4, g5, g6]
def isCode : Jvm.Cond → Bool
  | .code _ _ _ _ => true
  | _ => false
theorem all_split {L : List Jvm.Cond} {P : Jvm.Cond → Bool} (h1 : L.all (fun c => isCode c || P c) = true) (h2 : ∀ c ∈ L.filter isCode, P c = true) : L.all P = true := by
  refine List.all_eq_true.mpr fun c hc => ?_
  have h := List.all_eq_true.mp h1 c hc
  rcases Bool.eq_false_or_eq_true (isCode c) with hi | hi
  · exact h2 c (List.mem_filter.mpr ⟨hc, hi⟩)
  · simpa [hi] using h
set_option maxRecDepth 65536 in
theorem w_c0 : (Jvm.Cond.code x code maxLocals ret).before args0 about1 = true := code_word (m := ⟨1, 2⟩) (meth := k1m2) (c := k1c2) (by decide +kernel) rfl rfl rfl (by decide +kernel)
set_option maxRecDepth 65536 in
theorem w_c1 : (Jvm.Cond.code ({ cls := "com/example/issuer/issuer/protocol/ErrorCodeGetTypePinLaw", name := "pick", desc := "(I)Lcom/example/issuer/issuer/protocol/ErrorCode;" } : Jvm.MethodName) method_2_code (1 : Nat) (Option.some (Jvm.ClassFile.FieldType.object "com/example/issuer/issuer/protocol/ErrorCode"))).before args0 about1 = true := code_word (m := ⟨1, 1⟩) (meth := k1m1) (c := k1c1) (by decide +kernel) rfl rfl rfl (by decide +kernel)
set_option maxRecDepth 65536 in
theorem w_c2 : (Jvm.Cond.code ({ cls := "com/example/issuer/issuer/protocol/ErrorCode", name := "getType", desc := "()Ljava/lang/String;" } : Jvm.MethodName) prog_43_method_6_code (1 : Nat) (Option.some (Jvm.ClassFile.FieldType.object "java/lang/String"))).before args0 about1 = true := code_word (m := ⟨6, 1⟩) (meth := k6m1) (c := k6c1) (by decide +kernel) rfl rfl rfl (by decide +kernel)
set_option maxRecDepth 65536 in
theorem w_c3 : (Jvm.Cond.code ({ cls := "com/example/issuer/issuer/protocol/ErrorCode", name := "getHttpStatus", desc := "()I" } : Jvm.MethodName) prog_43_method_5_code (1 : Nat) (Option.some Jvm.ClassFile.FieldType.int)).before args0 about1 = true := code_word (m := ⟨6, 0⟩) (meth := k6m0) (c := k6c0) (by decide +kernel) rfl rfl rfl (by decide +kernel)
set_option maxRecDepth 65536 in
theorem w_c4 : (Jvm.Cond.code ({ cls := "java/lang/String", name := "equals", desc := "(Ljava/lang/Object;)Z" } : Jvm.MethodName) jdk_42_method_66_code (3 : Nat) (Option.some Jvm.ClassFile.FieldType.boolean)).before args0 about1 = true := code_word (m := ⟨9, 1⟩) (meth := k9m1) (c := k9c1) (by decide +kernel) rfl rfl rfl (by decide +kernel)
set_option maxRecDepth 65536 in
theorem w_c5 : (Jvm.Cond.code ({ cls := "java/lang/StringLatin1", name := "equals", desc := "([B[B)Z" } : Jvm.MethodName) jdk_43_method_13_code (3 : Nat) (Option.some Jvm.ClassFile.FieldType.boolean)).before args0 about1 = true := code_word (m := ⟨10, 1⟩) (meth := k10m1) (c := k10c1) (by decide +kernel) rfl rfl rfl (by decide +kernel)
def codes1 : List Jvm.Cond := [Jvm.Cond.code x code maxLocals ret, Jvm.Cond.code ({ cls := "com/example/issuer/issuer/protocol/ErrorCodeGetTypePinLaw", name := "pick", desc := "(I)Lcom/example/issuer/issuer/protocol/ErrorCode;" } : Jvm.MethodName) method_2_code (1 : Nat) (Option.some (Jvm.ClassFile.FieldType.object "com/example/issuer/issuer/protocol/ErrorCode")), Jvm.Cond.code ({ cls := "com/example/issuer/issuer/protocol/ErrorCode", name := "getType", desc := "()Ljava/lang/String;" } : Jvm.MethodName) prog_43_method_6_code (1 : Nat) (Option.some (Jvm.ClassFile.FieldType.object "java/lang/String")), Jvm.Cond.code ({ cls := "com/example/issuer/issuer/protocol/ErrorCode", name := "getHttpStatus", desc := "()I" } : Jvm.MethodName) prog_43_method_5_code (1 : Nat) (Option.some Jvm.ClassFile.FieldType.int), Jvm.Cond.code ({ cls := "java/lang/String", name := "equals", desc := "(Ljava/lang/Object;)Z" } : Jvm.MethodName) jdk_42_method_66_code (3 : Nat) (Option.some Jvm.ClassFile.FieldType.boolean), Jvm.Cond.code ({ cls := "java/lang/StringLatin1", name := "equals", desc := "([B[B)Z" } : Jvm.MethodName) jdk_43_method_13_code (3 : Nat) (Option.some Jvm.ClassFile.FieldType.boolean)]
set_option maxRecDepth 65536 in
theorem codes_eq : words1.filter isCode = codes1 := rfl
theorem w_codes : ∀ c ∈ words1.filter isCode, c.before args0 about1 = true := by
  rw [codes_eq]
  intro c hc
  simp only [codes1, List.mem_cons, List.not_mem_nil, or_false] at hc
  rcases hc with rfl | rfl | rfl | rfl | rfl | rfl
  · exact w_c0
  · exact w_c1
  · exact w_c2
  · exact w_c3
  · exact w_c4
  · exact w_c5
set_option maxRecDepth 65536 in
theorem w_t1 : (words1.take 24).all (fun c => isCode c || c.before args0 about1) = true := by decide +kernel
set_option maxRecDepth 65536 in
theorem w_t2 : ((words1.drop 24).take 24).all (fun c => isCode c || c.before args0 about1) = true := by decide +kernel
set_option maxRecDepth 65536 in
theorem w_t3 : (((words1.drop 24).drop 24).take 24).all (fun c => isCode c || c.before args0 about1) = true := by decide +kernel
set_option maxRecDepth 65536 in
theorem w_t4 : (((words1.drop 24).drop 24).drop 24).all (fun c => isCode c || c.before args0 about1) = true := by decide +kernel
theorem w_tables : (allAtoms (Jvm.Cond.code x code maxLocals ret :: tables_1)).before args0 about1 = true := by
  rw [allAtoms_all]
  show words1.all (fun c => c.before args0 about1) = true
  refine all_split ?_ w_codes
  rw [← List.take_append_drop 24 words1, List.all_append, w_t1, ← List.take_append_drop 24 (words1.drop 24), List.all_append, w_t2, ← List.take_append_drop 24 ((words1.drop 24).drop 24), List.all_append, w_t3, w_t4]
  rfl
set_option maxRecDepth 65536 in
theorem w_rest : rest_1_c.before args0 about1 = true := by decide +kernel
set_option maxRecDepth 65536 in
theorem w_case : (Jvm.Cond.and given_1 narrow_1).before args0 about1 = true := by decide +kernel
set_option maxRecDepth 65536 in
theorem w_consts : constsHeld consts_1 about1 := Jvm.Lit.constsHeldB_iff.mp (by decide +kernel)
theorem w_applies : (headSpec (Jvm.Cond.code x code maxLocals ret :: tables_1) room_1).applies x e0.platform about1 = true :=
  (Spec.applies_iff w_frames).mpr ⟨w_running, w_runnable, w_alone, w_named, w_hears, w_ripe, w_room, w_tables⟩
theorem atStart : AtStart classFile x code maxLocals ret World_1 tables_1 room_1 Calls_1 rest_1 Pre_1 launch0 p0 e0 about1 theMethod args0 below0 :=
  ⟨lists_1, trivial, launch0.admits_env _ _ _, launch0.least_env, fairChoices_fair.cas, fairChoices_fair.clock, w_frames, w_args, w_heap, w_applies, ⟨w_consts, trivial⟩, w_rest, w_case⟩
end start1
theorem witness_1 : WitnessClaimed_1 := ⟨start1.p0, start1.e0, start1.about1, start1.theMethod, start1.args0, start1.below0, start1.atStart⟩
end Jvm.Pilot.@@N@@
