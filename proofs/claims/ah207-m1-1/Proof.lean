import JvmDerived
import JvmDerived.Pilot.@@N@@Statement
import JvmDerived.Pilot.@@N@@Code
set_option linter.unusedVariables false
set_option linter.unusedSimpArgs false

namespace Jvm.Pilot.@@N@@
open Jvm Jvm.ClassFile Sem Op Lib Jvm.Free Jvm.Stand Jvm.LawKit Jvm.RoadKit Bundle Jvm.Pilot.@@N@@.Jvm.D
/-- from every end that the second place reaches the first does -/
abbrev own_To (p : Program) (e : Env) (below : List Frame) (T' : State) (f' : JFrame) (T : State) (f : JFrame) : Prop := ∀ t, Steps p.tables e below (T'.setTop f') t → Steps p.tables e below (T.setTop f) t
/-- the places written so far, by a name -/
theorem own_fold {p : Program} {l : Launch} {e : Env} {R : Room} {s : State} {m : MethodId} {args : Array Value} {below : List Frame} {meth : Method} {c : Code} {T : State} {locs : List Loc} {cells slots n0 : Nat} (X : Stand p l e R s m args below meth c T locs cells slots) (N : Fr n0 locs) : ∃ L, Fr n0 L ∧ Stand p l e R s m args below meth c T L cells slots := ⟨locs, N, X⟩
theorem own_d3_0 : decode method_2_code 0 = .ok (.iload_n 0, 1) := by decide +kernel
theorem own_d3_1 : decode method_2_code 1 = .ok (.iload_n 1, 1) := by decide +kernel
theorem own_d3_2 : decode method_2_code 2 = .ok (.if_icmp .lt 12, 3) := by decide +kernel
theorem own_d3_5 : decode method_2_code 5 = .ok (.iload_n 0, 1) := by decide +kernel
theorem own_d3_6 : decode method_2_code 6 = .ok (.iload_n 2, 1) := by decide +kernel
theorem own_d3_7 : decode method_2_code 7 = .ok (.if_icmp .gt 7, 3) := by decide +kernel
theorem own_d3_10 : decode method_2_code 10 = .ok (.iconst 1, 1) := by decide +kernel
theorem own_d3_11 : decode method_2_code 11 = .ok (.goto 4, 3) := by decide +kernel
theorem own_d3_14 : decode method_2_code 14 = .ok (.iconst 0, 1) := by decide +kernel
theorem own_d3_15 : decode method_2_code 15 = .ok (.ireturn, 1) := by decide +kernel
theorem own_pn3 : plainName "com/example/hornloom/hornloom/NameCharactersIsNameStartCharPinLaw" = true := by first | (simp [plainName, overriddenIn]; done) | decide +kernel
theorem own_ef3 (m : MethodId) (x0 : Int32) (x1 : Int32) (x2 : Int32) : entryFrame m #[(.int x0), (.int x1), (.int x2)] 3 = mkF m 0 #[.val (.int x0), .val (.int x1), .val (.int x2)] [] := by first | (simp [entryFrame, mkF, argsToLocals, Value.category]; done) | rfl
def own_in (p0 p1 p2 : Int32) : Int32 := (if p0 < p1 then (0 : Int32) else (if p2 < p0 then (0 : Int32) else (1 : Int32)))
def Q3 (Z : State) (p0 : Int32) (p1 : Int32) (p2 : Int32) (h0 : Heap) (n0 : Nat) (v : Option Value) (h : Heap) (L : List Loc) : Prop := v = some (.int (own_in p0 p1 p2)) ∧ Fr n0 L ∧ h = h0
set_option maxRecDepth 65536 in
set_option maxHeartbeats 40000000 in
theorem rm3 (l : Launch) (Z : State) (a0 : Array Value) (hw : ∀ d ∈ tables_1, d.before a0 Z = true) (ws : List Jvm.Cond) (p0 : Int32) (p1 : Int32) (p2 : Int32) (h0 : Heap) (n0 : Nat) (Z0 : n0 ≤ h0.size) :
    MetFree l (⟨"com/example/hornloom/hornloom/NameCharactersIsNameStartCharPinLaw", "in", "(III)Z"⟩ : MethodName) (head1 (Jvm.Cond.code (⟨"com/example/hornloom/hornloom/NameCharactersIsNameStartCharPinLaw", "in", "(III)Z"⟩ : MethodName) method_2_code 3 (some .boolean) :: ws) ({ frames := 0, cells := 0, slots := 0, locals := 0 } : Room)) (fun a U => a = #[(.int p0), (.int p1), (.int p2)] ∧ Z.Warmed39 U.vm ∧ U.heap = h0) (fun _ _ _ _ _ => True) (fun _ U o U' => ∃ v L, o = .returned v ∧ Q3 Z p0 p1 p2 h0 n0 v U'.heap L ∧ FrameEnd U o U' L ({ frames := 0, cells := 0, slots := 0, locals := 0 } : Room).cells ({ frames := 0, cells := 0, slots := 0, locals := 0 } : Room).slots) := by
  refine MetFree.of_bodySF (plainFor_of_name own_pn3) hisR ?_
  intro p e s m args below meth c s₁ Bd hml0 hP hK
  obtain ⟨rfl, hZ, hh⟩ := hP
  have hx := Bd.exec
  have hby := Bd.bytes
  have hml : c.maxLocals = 3 := hml0
  have hown : s.vm.findClass "com/example/hornloom/hornloom/NameCharactersIsNameStartCharPinLaw" = some m.cls := findClass_of_methodNamed Bd.named
  have hnm := (name_of_methodNamed Bd.named Bd.method).1
  have X0 : Stand p l e ({ frames := 0, cells := 0, slots := 0, locals := 0 } : Room) s m #[(.int p0), (.int p1), (.int p2)] below meth c s₁ [] 0 0 := Stand.of_body Bd
  have e0 : s₁.heap = h0 := by rw [← hh, Bd.state]; rfl
  have N0 := Fr.nil n0
  have k0 : own_To p e below s₁ (mkF m 0 #[.val (.int p0), .val (.int p1), .val (.int p2)] []) s₁ (entryFrame m #[(.int p0), (.int p1), (.int p2)] 3) := fun t k => castTop (own_ef3 m p0 p1 p2) k
  have ki : own_To p e below s₁ (mkF m 0 #[.val (.int p0), .val (.int p1), .val (.int p2)] []) s₁ (mkF m 0 #[.val (.int p0), .val (.int p1), .val (.int p2)] []) := fun t q => q
  have k1 : own_To p e below s₁ (mkF m 2 #[.val (.int p0), .val (.int p1), .val (.int p2)] [(.int p1), (.int p0)]) s₁ (mkF m 0 #[.val (.int p0), .val (.int p1), .val (.int p2)] []) := fun t q => ki t (by
    refine XS.iloadN X0.here hx rfl (hb hby own_d3_0) rfl ?_
    show Steps p.tables e below (s₁.setTop (mkF m 1 #[.val (.int p0), .val (.int p1), .val (.int p2)] [(.int p0)])) _
    refine XS.iloadN X0.here hx rfl (hb hby own_d3_1) rfl ?_
    show Steps p.tables e below (s₁.setTop (mkF m 2 #[.val (.int p0), .val (.int p1), .val (.int p2)] [(.int p1), (.int p0)])) _
    exact q)
  by_cases hc2 : p0 < p1
  ·
    have k3 : own_To p e below s₁ (mkF m 15 #[.val (.int p0), .val (.int p1), .val (.int p2)] [(.int (0 : Int32))]) s₁ (mkF m 0 #[.val (.int p0), .val (.int p1), .val (.int p2)] []) := fun t q => k1 t (by
      refine XS.icmpYes X0.here hx rfl (pc0 := 2) (pc' := 14) rfl (hb hby own_d3_2) rfl (tlt hc2).1 (by decide) (by decide) ?_
      show Steps p.tables e below (s₁.setTop (mkF m 14 #[.val (.int p0), .val (.int p1), .val (.int p2)] [])) _
      refine XS.iconst X0.here hx rfl (hb hby own_d3_14) ?_
      show Steps p.tables e below (s₁.setTop (mkF m 15 #[.val (.int p0), .val (.int p1), .val (.int p2)] [(.int (0 : Int32))])) _
      exact q)
    obtain ⟨fs, hr, hrun, hended, hW, hsame⟩ := X0.leave (v := some (.int (0 : Int32))) (fun h => by rw [Bd.returns] at h; cases h)
    refine ⟨_, _, k0 _ (k3 _ ?_), hrun, hended, _, _, rfl, ?_, ⟨_, rfl⟩, hW, hsame.mono (by decide) (by decide)⟩
    · show Steps p.tables e below (s₁.setTop (mkF m 15 #[.val (.int p0), .val (.int p1), .val (.int p2)] [(.int (0 : Int32))])) _
      exact retN X0 hx (t := .boolean) Bd.returns (by simp) (hb hby own_d3_15) hr
    · show Q3 Z p0 p1 p2 h0 n0 _ s₁.heap _
      rw [e0]
      exact ⟨by rw [own_in, if_pos hc2], N0, rfl⟩
  ·
    have k4 : own_To p e below s₁ (mkF m 7 #[.val (.int p0), .val (.int p1), .val (.int p2)] [(.int p2), (.int p0)]) s₁ (mkF m 0 #[.val (.int p0), .val (.int p1), .val (.int p2)] []) := fun t q => k1 t (by
      refine XS.icmpNo X0.here hx rfl (hb hby own_d3_2) rfl (flt hc2).1 ?_
      show Steps p.tables e below (s₁.setTop (mkF m 5 #[.val (.int p0), .val (.int p1), .val (.int p2)] [])) _
      refine XS.iloadN X0.here hx rfl (hb hby own_d3_5) rfl ?_
      show Steps p.tables e below (s₁.setTop (mkF m 6 #[.val (.int p0), .val (.int p1), .val (.int p2)] [(.int p0)])) _
      refine XS.iloadN X0.here hx rfl (hb hby own_d3_6) rfl ?_
      show Steps p.tables e below (s₁.setTop (mkF m 7 #[.val (.int p0), .val (.int p1), .val (.int p2)] [(.int p2), (.int p0)])) _
      exact q)
    by_cases hc5 : p2 < p0
    ·
      have k6 : own_To p e below s₁ (mkF m 15 #[.val (.int p0), .val (.int p1), .val (.int p2)] [(.int (0 : Int32))]) s₁ (mkF m 0 #[.val (.int p0), .val (.int p1), .val (.int p2)] []) := fun t q => k4 t (by
        refine XS.icmpYes X0.here hx rfl (pc0 := 7) (pc' := 14) rfl (hb hby own_d3_7) rfl (tlt hc5).2.2.1 (by decide) (by decide) ?_
        show Steps p.tables e below (s₁.setTop (mkF m 14 #[.val (.int p0), .val (.int p1), .val (.int p2)] [])) _
        refine XS.iconst X0.here hx rfl (hb hby own_d3_14) ?_
        show Steps p.tables e below (s₁.setTop (mkF m 15 #[.val (.int p0), .val (.int p1), .val (.int p2)] [(.int (0 : Int32))])) _
        exact q)
      obtain ⟨fs, hr, hrun, hended, hW, hsame⟩ := X0.leave (v := some (.int (0 : Int32))) (fun h => by rw [Bd.returns] at h; cases h)
      refine ⟨_, _, k0 _ (k6 _ ?_), hrun, hended, _, _, rfl, ?_, ⟨_, rfl⟩, hW, hsame.mono (by decide) (by decide)⟩
      · show Steps p.tables e below (s₁.setTop (mkF m 15 #[.val (.int p0), .val (.int p1), .val (.int p2)] [(.int (0 : Int32))])) _
        exact retN X0 hx (t := .boolean) Bd.returns (by simp) (hb hby own_d3_15) hr
      · show Q3 Z p0 p1 p2 h0 n0 _ s₁.heap _
        rw [e0]
        exact ⟨by rw [own_in, if_neg hc2, if_pos hc5], N0, rfl⟩
    ·
      have k7 : own_To p e below s₁ (mkF m 15 #[.val (.int p0), .val (.int p1), .val (.int p2)] [(.int (1 : Int32))]) s₁ (mkF m 0 #[.val (.int p0), .val (.int p1), .val (.int p2)] []) := fun t q => k4 t (by
        refine XS.icmpNo X0.here hx rfl (hb hby own_d3_7) rfl (flt hc5).2.2.1 ?_
        show Steps p.tables e below (s₁.setTop (mkF m 10 #[.val (.int p0), .val (.int p1), .val (.int p2)] [])) _
        refine XS.iconst X0.here hx rfl (hb hby own_d3_10) ?_
        show Steps p.tables e below (s₁.setTop (mkF m 11 #[.val (.int p0), .val (.int p1), .val (.int p2)] [(.int (1 : Int32))])) _
        refine XS.goto X0.here hx rfl (pc0 := 11) (pc' := 15) rfl (hb hby own_d3_11) (by decide) (by decide) ?_
        show Steps p.tables e below (s₁.setTop (mkF m 15 #[.val (.int p0), .val (.int p1), .val (.int p2)] [(.int (1 : Int32))])) _
        exact q)
      obtain ⟨fs, hr, hrun, hended, hW, hsame⟩ := X0.leave (v := some (.int (1 : Int32))) (fun h => by rw [Bd.returns] at h; cases h)
      refine ⟨_, _, k0 _ (k7 _ ?_), hrun, hended, _, _, rfl, ?_, ⟨_, rfl⟩, hW, hsame.mono (by decide) (by decide)⟩
      · show Steps p.tables e below (s₁.setTop (mkF m 15 #[.val (.int p0), .val (.int p1), .val (.int p2)] [(.int (1 : Int32))])) _
        exact retN X0 hx (t := .boolean) Bd.returns (by simp) (hb hby own_d3_15) hr
      · show Q3 Z p0 p1 p2 h0 n0 _ s₁.heap _
        rw [e0]
        exact ⟨by rw [own_in, if_neg hc2, if_neg hc5], N0, rfl⟩
theorem own_pd1 : parseMethodDescriptor "(III)Z" = some ⟨[.int, .int, .int], some .boolean⟩ := by decide +kernel
theorem own_d2_0 : decode method_3_code 0 = .ok (.iload_n 0, 1) := by decide +kernel
theorem own_d2_1 : decode method_3_code 1 = .ok (.bipush 65, 2) := by decide +kernel
theorem own_d2_3 : decode method_3_code 3 = .ok (.if_icmp .lt 9, 3) := by decide +kernel
theorem own_d2_6 : decode method_3_code 6 = .ok (.iload_n 0, 1) := by decide +kernel
theorem own_d2_7 : decode method_3_code 7 = .ok (.ldc 7, 2) := by decide +kernel
theorem own_d2_9 : decode method_3_code 9 = .ok (.if_icmp .le 5, 3) := by decide +kernel
theorem own_d2_12 : decode method_3_code 12 = .ok (.iconst 0, 1) := by decide +kernel
theorem own_d2_13 : decode method_3_code 13 = .ok (.ireturn, 1) := by decide +kernel
theorem own_d2_14 : decode method_3_code 14 = .ok (.iload_n 0, 1) := by decide +kernel
theorem own_d2_15 : decode method_3_code 15 = .ok (.bipush 91, 2) := by decide +kernel
theorem own_d2_17 : decode method_3_code 17 = .ok (.bipush 96, 2) := by decide +kernel
theorem own_d2_19 : decode method_3_code 19 = .ok (.invokestatic 8, 3) := by decide +kernel
theorem own_d2_22 : decode method_3_code 22 = .ok (.ifCond .ne 134, 3) := by decide +kernel
theorem own_d2_25 : decode method_3_code 25 = .ok (.iload_n 0, 1) := by decide +kernel
theorem own_d2_26 : decode method_3_code 26 = .ok (.bipush 123, 2) := by decide +kernel
theorem own_d2_28 : decode method_3_code 28 = .ok (.sipush 191, 3) := by decide +kernel
theorem own_d2_31 : decode method_3_code 31 = .ok (.invokestatic 8, 3) := by decide +kernel
theorem own_d2_34 : decode method_3_code 34 = .ok (.ifCond .ne 122, 3) := by decide +kernel
theorem own_d2_37 : decode method_3_code 37 = .ok (.iload_n 0, 1) := by decide +kernel
theorem own_d2_38 : decode method_3_code 38 = .ok (.sipush 215, 3) := by decide +kernel
theorem own_d2_41 : decode method_3_code 41 = .ok (.if_icmp .eq 115, 3) := by decide +kernel
theorem own_d2_44 : decode method_3_code 44 = .ok (.iload_n 0, 1) := by decide +kernel
theorem own_d2_45 : decode method_3_code 45 = .ok (.sipush 247, 3) := by decide +kernel
theorem own_d2_48 : decode method_3_code 48 = .ok (.if_icmp .eq 108, 3) := by decide +kernel
theorem own_d2_51 : decode method_3_code 51 = .ok (.iload_n 0, 1) := by decide +kernel
theorem own_d2_52 : decode method_3_code 52 = .ok (.sipush 768, 3) := by decide +kernel
theorem own_d2_55 : decode method_3_code 55 = .ok (.sipush 879, 3) := by decide +kernel
theorem own_d2_58 : decode method_3_code 58 = .ok (.invokestatic 8, 3) := by decide +kernel
theorem own_d2_61 : decode method_3_code 61 = .ok (.ifCond .ne 95, 3) := by decide +kernel
theorem own_d2_64 : decode method_3_code 64 = .ok (.iload_n 0, 1) := by decide +kernel
theorem own_d2_65 : decode method_3_code 65 = .ok (.sipush 894, 3) := by decide +kernel
theorem own_d2_68 : decode method_3_code 68 = .ok (.if_icmp .eq 88, 3) := by decide +kernel
theorem own_d2_71 : decode method_3_code 71 = .ok (.iload_n 0, 1) := by decide +kernel
theorem own_d2_72 : decode method_3_code 72 = .ok (.sipush 8192, 3) := by decide +kernel
theorem own_d2_75 : decode method_3_code 75 = .ok (.sipush 8203, 3) := by decide +kernel
theorem own_d2_78 : decode method_3_code 78 = .ok (.invokestatic 8, 3) := by decide +kernel
theorem own_d2_81 : decode method_3_code 81 = .ok (.ifCond .ne 75, 3) := by decide +kernel
theorem own_d2_84 : decode method_3_code 84 = .ok (.iload_n 0, 1) := by decide +kernel
theorem own_d2_85 : decode method_3_code 85 = .ok (.sipush 8206, 3) := by decide +kernel
theorem own_d2_88 : decode method_3_code 88 = .ok (.sipush 8303, 3) := by decide +kernel
theorem own_d2_91 : decode method_3_code 91 = .ok (.invokestatic 8, 3) := by decide +kernel
theorem own_d2_94 : decode method_3_code 94 = .ok (.ifCond .ne 62, 3) := by decide +kernel
theorem own_d2_97 : decode method_3_code 97 = .ok (.iload_n 0, 1) := by decide +kernel
theorem own_d2_98 : decode method_3_code 98 = .ok (.sipush 8592, 3) := by decide +kernel
theorem own_d2_101 : decode method_3_code 101 = .ok (.sipush 11263, 3) := by decide +kernel
theorem own_d2_104 : decode method_3_code 104 = .ok (.invokestatic 8, 3) := by decide +kernel
theorem own_d2_107 : decode method_3_code 107 = .ok (.ifCond .ne 49, 3) := by decide +kernel
theorem own_d2_110 : decode method_3_code 110 = .ok (.iload_n 0, 1) := by decide +kernel
theorem own_d2_111 : decode method_3_code 111 = .ok (.sipush 12272, 3) := by decide +kernel
theorem own_d2_114 : decode method_3_code 114 = .ok (.sipush 12288, 3) := by decide +kernel
theorem own_d2_117 : decode method_3_code 117 = .ok (.invokestatic 8, 3) := by decide +kernel
theorem own_d2_120 : decode method_3_code 120 = .ok (.ifCond .ne 36, 3) := by decide +kernel
theorem own_d2_123 : decode method_3_code 123 = .ok (.iload_n 0, 1) := by decide +kernel
theorem own_d2_124 : decode method_3_code 124 = .ok (.ldc 14, 2) := by decide +kernel
theorem own_d2_126 : decode method_3_code 126 = .ok (.ldc 15, 2) := by decide +kernel
theorem own_d2_128 : decode method_3_code 128 = .ok (.invokestatic 8, 3) := by decide +kernel
theorem own_d2_131 : decode method_3_code 131 = .ok (.ifCond .ne 25, 3) := by decide +kernel
theorem own_d2_134 : decode method_3_code 134 = .ok (.iload_n 0, 1) := by decide +kernel
theorem own_d2_135 : decode method_3_code 135 = .ok (.ldc 16, 2) := by decide +kernel
theorem own_d2_137 : decode method_3_code 137 = .ok (.ldc 17, 2) := by decide +kernel
theorem own_d2_139 : decode method_3_code 139 = .ok (.invokestatic 8, 3) := by decide +kernel
theorem own_d2_142 : decode method_3_code 142 = .ok (.ifCond .ne 14, 3) := by decide +kernel
theorem own_d2_145 : decode method_3_code 145 = .ok (.iload_n 0, 1) := by decide +kernel
theorem own_d2_146 : decode method_3_code 146 = .ok (.ldc 18, 2) := by decide +kernel
theorem own_d2_148 : decode method_3_code 148 = .ok (.ldc 19, 2) := by decide +kernel
theorem own_d2_150 : decode method_3_code 150 = .ok (.invokestatic 8, 3) := by decide +kernel
theorem own_d2_153 : decode method_3_code 153 = .ok (.ifCond .eq 5, 3) := by decide +kernel
theorem own_d2_156 : decode method_3_code 156 = .ok (.iconst 0, 1) := by decide +kernel
theorem own_d2_157 : decode method_3_code 157 = .ok (.ireturn, 1) := by decide +kernel
theorem own_d2_158 : decode method_3_code 158 = .ok (.iconst 1, 1) := by decide +kernel
theorem own_d2_159 : decode method_3_code 159 = .ok (.ireturn, 1) := by decide +kernel
theorem own_pn2 : plainName "com/example/hornloom/hornloom/NameCharactersIsNameStartCharPinLaw" = true := by first | (simp [plainName, overriddenIn]; done) | decide +kernel
theorem own_ef2 (m : MethodId) (x0 : Int32) : entryFrame m #[(.int x0)] 1 = mkF m 0 #[.val (.int x0)] [] := by first | (simp [entryFrame, mkF, argsToLocals, Value.category]; done) | rfl
def own_F2 (p0 : Int32) : Int32 := (if p0 < (65 : Int32) then (0 : Int32) else (if (983039 : Int32) < p0 then (0 : Int32) else (if (own_in p0 (91 : Int32) (96 : Int32)) = (0 : Int32) then (if (own_in p0 (123 : Int32) (191 : Int32)) = (0 : Int32) then (if p0 = (215 : Int32) then (0 : Int32) else (if p0 = (247 : Int32) then (0 : Int32) else (if (own_in p0 (768 : Int32) (879 : Int32)) = (0 : Int32) then (if p0 = (894 : Int32) then (0 : Int32) else (if (own_in p0 (8192 : Int32) (8203 : Int32)) = (0 : Int32) then (if (own_in p0 (8206 : Int32) (8303 : Int32)) = (0 : Int32) then (if (own_in p0 (8592 : Int32) (11263 : Int32)) = (0 : Int32) then (if (own_in p0 (12272 : Int32) (12288 : Int32)) = (0 : Int32) then (if (own_in p0 (55296 : Int32) (63743 : Int32)) = (0 : Int32) then (if (own_in p0 (64976 : Int32) (65007 : Int32)) = (0 : Int32) then (if (own_in p0 (65534 : Int32) (65535 : Int32)) = (0 : Int32) then (1 : Int32) else (0 : Int32)) else (0 : Int32)) else (0 : Int32)) else (0 : Int32)) else (0 : Int32)) else (0 : Int32)) else (0 : Int32))) else (0 : Int32)))) else (0 : Int32)) else (0 : Int32))))
def Q2 (Z : State) (p0 : Int32) (h0 : Heap) (n0 : Nat) (v : Option Value) (h : Heap) (L : List Loc) : Prop := v = some (.int (own_F2 p0)) ∧ Fr n0 L ∧ h = h0
set_option maxRecDepth 65536 in
set_option maxHeartbeats 40000000 in
theorem rm2 (l : Launch) (Z : State) (a0 : Array Value) (hw : ∀ d ∈ tables_1, d.before a0 Z = true) (ws : List Jvm.Cond) (p0 : Int32) (h0 : Heap) (n0 : Nat) (Z0 : n0 ≤ h0.size) :
    MetFree l (⟨"com/example/hornloom/hornloom/NameCharactersIsNameStartCharPinLaw", "expected", "(I)Z"⟩ : MethodName) (head1 (Jvm.Cond.code (⟨"com/example/hornloom/hornloom/NameCharactersIsNameStartCharPinLaw", "expected", "(I)Z"⟩ : MethodName) method_3_code 1 (some .boolean) :: ws) ({ frames := 1, cells := 0, slots := 0, locals := 14 } : Room)) (fun a U => a = #[(.int p0)] ∧ Z.Warmed39 U.vm ∧ U.heap = h0) (fun _ _ _ _ _ => True) (fun _ U o U' => ∃ v L, o = .returned v ∧ Q2 Z p0 h0 n0 v U'.heap L ∧ FrameEnd U o U' L ({ frames := 1, cells := 0, slots := 0, locals := 14 } : Room).cells ({ frames := 1, cells := 0, slots := 0, locals := 14 } : Room).slots) := by
  refine MetFree.of_bodySF (plainFor_of_name own_pn2) hisR ?_
  intro p e s m args below meth c s₁ Bd hml0 hP hK
  obtain ⟨rfl, hZ, hh⟩ := hP
  have hx := Bd.exec
  have hby := Bd.bytes
  have hml : c.maxLocals = 1 := hml0
  have hown : s.vm.findClass "com/example/hornloom/hornloom/NameCharactersIsNameStartCharPinLaw" = some m.cls := findClass_of_methodNamed Bd.named
  have hnm := (name_of_methodNamed Bd.named Bd.method).1
  have X0 : Stand p l e ({ frames := 1, cells := 0, slots := 0, locals := 14 } : Room) s m #[(.int p0)] below meth c s₁ [] 0 0 := Stand.of_body Bd
  have e0 : s₁.heap = h0 := by rw [← hh, Bd.state]; rfl
  have N0 := Fr.nil n0
  have k0 : own_To p e below s₁ (mkF m 0 #[.val (.int p0)] []) s₁ (entryFrame m #[(.int p0)] 1) := fun t k => castTop (own_ef2 m p0) k
  have ki : own_To p e below s₁ (mkF m 0 #[.val (.int p0)] []) s₁ (mkF m 0 #[.val (.int p0)] []) := fun t q => q
  have k1 : own_To p e below s₁ (mkF m 3 #[.val (.int p0)] [(.int (65 : Int32)), (.int p0)]) s₁ (mkF m 0 #[.val (.int p0)] []) := fun t q => ki t (by
    refine XS.iloadN X0.here hx rfl (hb hby own_d2_0) rfl ?_
    show Steps p.tables e below (s₁.setTop (mkF m 1 #[.val (.int p0)] [(.int p0)])) _
    refine XS.bipush X0.here hx rfl (hb hby own_d2_1) ?_
    show Steps p.tables e below (s₁.setTop (mkF m 3 #[.val (.int p0)] [(.int (65 : Int32)), (.int p0)])) _
    exact q)
  by_cases hc2 : p0 < (65 : Int32)
  ·
    have k3 : own_To p e below s₁ (mkF m 13 #[.val (.int p0)] [(.int (0 : Int32))]) s₁ (mkF m 0 #[.val (.int p0)] []) := fun t q => k1 t (by
      refine XS.icmpYes X0.here hx rfl (pc0 := 3) (pc' := 12) rfl (hb hby own_d2_3) rfl (tlt hc2).1 (by decide) (by decide) ?_
      show Steps p.tables e below (s₁.setTop (mkF m 12 #[.val (.int p0)] [])) _
      refine XS.iconst X0.here hx rfl (hb hby own_d2_12) ?_
      show Steps p.tables e below (s₁.setTop (mkF m 13 #[.val (.int p0)] [(.int (0 : Int32))])) _
      exact q)
    obtain ⟨fs, hr, hrun, hended, hW, hsame⟩ := X0.leave (v := some (.int (0 : Int32))) (fun h => by rw [Bd.returns] at h; cases h)
    refine ⟨_, _, k0 _ (k3 _ ?_), hrun, hended, _, _, rfl, ?_, ⟨_, rfl⟩, hW, hsame.mono (by decide) (by decide)⟩
    · show Steps p.tables e below (s₁.setTop (mkF m 13 #[.val (.int p0)] [(.int (0 : Int32))])) _
      exact retN X0 hx (t := .boolean) Bd.returns (by simp) (hb hby own_d2_13) hr
    · show Q2 Z p0 h0 n0 _ s₁.heap _
      rw [e0]
      exact ⟨by rw [own_F2, if_pos hc2], N0, rfl⟩
  ·
    have k4 : own_To p e below s₁ (mkF m 9 #[.val (.int p0)] [(.int (983039 : Int32)), (.int p0)]) s₁ (mkF m 0 #[.val (.int p0)] []) := fun t q => k1 t (by
      refine XS.icmpNo X0.here hx rfl (hb hby own_d2_3) rfl (flt hc2).1 ?_
      show Steps p.tables e below (s₁.setTop (mkF m 6 #[.val (.int p0)] [])) _
      refine XS.iloadN X0.here hx rfl (hb hby own_d2_6) rfl ?_
      show Steps p.tables e below (s₁.setTop (mkF m 7 #[.val (.int p0)] [(.int p0)])) _
      refine X0.ldcInt hx hown (mvT hZ (hw _ (List.mem_of_getElem? (i := 7) rfl))) (g := (mkF m 7 #[.val (.int p0)] [(.int p0)])) rfl (hb hby own_d2_7) _ ?_
      show Steps p.tables e below (s₁.setTop (mkF m 9 #[.val (.int p0)] [(.int (983039 : Int32)), (.int p0)])) _
      exact q)
    by_cases hc5 : (983039 : Int32) < p0
    ·
      have k6 : own_To p e below s₁ (mkF m 13 #[.val (.int p0)] [(.int (0 : Int32))]) s₁ (mkF m 0 #[.val (.int p0)] []) := fun t q => k4 t (by
        refine XS.icmpNo X0.here hx rfl (hb hby own_d2_9) rfl (tlt hc5).2.2.2 ?_
        show Steps p.tables e below (s₁.setTop (mkF m 12 #[.val (.int p0)] [])) _
        refine XS.iconst X0.here hx rfl (hb hby own_d2_12) ?_
        show Steps p.tables e below (s₁.setTop (mkF m 13 #[.val (.int p0)] [(.int (0 : Int32))])) _
        exact q)
      obtain ⟨fs, hr, hrun, hended, hW, hsame⟩ := X0.leave (v := some (.int (0 : Int32))) (fun h => by rw [Bd.returns] at h; cases h)
      refine ⟨_, _, k0 _ (k6 _ ?_), hrun, hended, _, _, rfl, ?_, ⟨_, rfl⟩, hW, hsame.mono (by decide) (by decide)⟩
      · show Steps p.tables e below (s₁.setTop (mkF m 13 #[.val (.int p0)] [(.int (0 : Int32))])) _
        exact retN X0 hx (t := .boolean) Bd.returns (by simp) (hb hby own_d2_13) hr
      · show Q2 Z p0 h0 n0 _ s₁.heap _
        rw [e0]
        exact ⟨by rw [own_F2, if_neg hc2, if_pos hc5], N0, rfl⟩
    ·
      obtain ⟨_, _, ⟨T7, L7, kk7, n7⟩, -, X7, ⟨Lc7, hQ7, l7, y7, z7⟩, st7⟩ := Jvm.LawKit.callS X0 hx (y := (⟨"com/example/hornloom/hornloom/NameCharactersIsNameStartCharPinLaw", "in", "(III)Z"⟩ : MethodName)) hown (mvT hZ (hw _ (List.mem_of_getElem? (i := 20) rfl))) (mvT hZ (hw _ (List.mem_of_getElem? (i := 21) rfl))) (mvT hZ (hw _ (List.mem_of_getElem? (i := 18) rfl))) (mvT hZ (hw _ (List.mem_of_getElem? (i := 22) rfl))) (by decide) (backOf (W := 0) (rm3 l Z a0 hw [] p0 (91 : Int32) (96 : Int32) h0 n0 Z0) hZ (hw _ (List.mem_of_getElem? (i := 22) rfl)) (hw _ (List.mem_of_getElem? (i := 18) rfl)) (by decide) (by decide)) (g := (mkF m 19 #[.val (.int p0)] [(.int (96 : Int32)), (.int (91 : Int32)), (.int p0)])) rfl (by rw [hml]; rfl) (argsL := [(.int p0), (.int (91 : Int32)), (.int (96 : Int32))]) (rest := []) (lenOf own_pd1 rfl) rfl (by show 2 * 0 + _ ≤ _; exact Nat.le_of_eq rfl) (hb hby own_d2_19) (fun _ _ => ⟨rfl, e0, (by decide : 0 + 0 ≤ _), (by decide : 0 + 0 ≤ _)⟩)
      dsimp only [Pt.U, Pt.locs, Pt.cells, Pt.slots] at X7 l7 y7 z7 st7 hQ7
      subst l7 y7 z7
      obtain ⟨rfl, N7q, e7⟩ := hQ7
      have N7 := Fr.app N0 N7q
      have k8 : own_To p e below T7 (mkF m 22 #[.val (.int p0)] [(.int (own_in p0 (91 : Int32) (96 : Int32)))]) s₁ (mkF m 0 #[.val (.int p0)] []) := fun t q => k4 t (by
        refine XS.icmpYes X0.here hx rfl (pc0 := 9) (pc' := 14) rfl (hb hby own_d2_9) rfl (flt hc5).2.2.2 (by decide) (by decide) ?_
        show Steps p.tables e below (s₁.setTop (mkF m 14 #[.val (.int p0)] [])) _
        refine XS.iloadN X0.here hx rfl (hb hby own_d2_14) rfl ?_
        show Steps p.tables e below (s₁.setTop (mkF m 15 #[.val (.int p0)] [(.int p0)])) _
        refine XS.bipush X0.here hx rfl (hb hby own_d2_15) ?_
        show Steps p.tables e below (s₁.setTop (mkF m 17 #[.val (.int p0)] [(.int (91 : Int32)), (.int p0)])) _
        refine XS.bipush X0.here hx rfl (hb hby own_d2_17) ?_
        show Steps p.tables e below (s₁.setTop (mkF m 19 #[.val (.int p0)] [(.int (96 : Int32)), (.int (91 : Int32)), (.int p0)])) _
        refine st7 _ ?_
        show Steps p.tables e below (T7.setTop (mkF m 22 #[.val (.int p0)] [(.int (own_in p0 (91 : Int32) (96 : Int32)))])) _
        exact q)
      by_cases hc9 : (own_in p0 (91 : Int32) (96 : Int32)) = (0 : Int32)
      ·
        obtain ⟨_, _, ⟨T10, L10, kk10, n10⟩, -, X10, ⟨Lc10, hQ10, l10, y10, z10⟩, st10⟩ := Jvm.LawKit.callS X7 hx (y := (⟨"com/example/hornloom/hornloom/NameCharactersIsNameStartCharPinLaw", "in", "(III)Z"⟩ : MethodName)) hown (mvT hZ (hw _ (List.mem_of_getElem? (i := 20) rfl))) (mvT hZ (hw _ (List.mem_of_getElem? (i := 21) rfl))) (mvT hZ (hw _ (List.mem_of_getElem? (i := 18) rfl))) (mvT hZ (hw _ (List.mem_of_getElem? (i := 22) rfl))) (by decide) (backOf (W := 0) (rm3 l Z a0 hw [] p0 (123 : Int32) (191 : Int32) h0 n0 Z0) hZ (hw _ (List.mem_of_getElem? (i := 22) rfl)) (hw _ (List.mem_of_getElem? (i := 18) rfl)) (by decide) (by decide)) (g := (mkF m 31 #[.val (.int p0)] [(.int (191 : Int32)), (.int (123 : Int32)), (.int p0)])) rfl (by rw [hml]; rfl) (argsL := [(.int p0), (.int (123 : Int32)), (.int (191 : Int32))]) (rest := []) (lenOf own_pd1 rfl) rfl (by show 2 * 0 + _ ≤ _; exact Nat.le_of_eq rfl) (hb hby own_d2_31) (fun _ _ => ⟨rfl, e7, (by decide : 0 + 0 ≤ _), (by decide : 0 + 0 ≤ _)⟩)
        dsimp only [Pt.U, Pt.locs, Pt.cells, Pt.slots] at X10 l10 y10 z10 st10 hQ10
        subst l10 y10 z10
        obtain ⟨rfl, N10q, e10⟩ := hQ10
        have N10 := Fr.app N7 N10q
        have k11 : own_To p e below T10 (mkF m 34 #[.val (.int p0)] [(.int (own_in p0 (123 : Int32) (191 : Int32)))]) s₁ (mkF m 0 #[.val (.int p0)] []) := fun t q => k8 t (by
          refine XS.ifNo X7.here hx rfl (hb hby own_d2_22) rfl ((if0 _ _).trans (teq hc9).2) ?_
          show Steps p.tables e below (T7.setTop (mkF m 25 #[.val (.int p0)] [])) _
          refine XS.iloadN X7.here hx rfl (hb hby own_d2_25) rfl ?_
          show Steps p.tables e below (T7.setTop (mkF m 26 #[.val (.int p0)] [(.int p0)])) _
          refine XS.bipush X7.here hx rfl (hb hby own_d2_26) ?_
          show Steps p.tables e below (T7.setTop (mkF m 28 #[.val (.int p0)] [(.int (123 : Int32)), (.int p0)])) _
          refine XS.sipush X7.here hx rfl (hb hby own_d2_28) ?_
          show Steps p.tables e below (T7.setTop (mkF m 31 #[.val (.int p0)] [(.int (191 : Int32)), (.int (123 : Int32)), (.int p0)])) _
          refine st10 _ ?_
          show Steps p.tables e below (T10.setTop (mkF m 34 #[.val (.int p0)] [(.int (own_in p0 (123 : Int32) (191 : Int32)))])) _
          exact q)
        by_cases hc12 : (own_in p0 (123 : Int32) (191 : Int32)) = (0 : Int32)
        ·
          have k13 : own_To p e below T10 (mkF m 41 #[.val (.int p0)] [(.int (215 : Int32)), (.int p0)]) s₁ (mkF m 0 #[.val (.int p0)] []) := fun t q => k11 t (by
            refine XS.ifNo X10.here hx rfl (hb hby own_d2_34) rfl ((if0 _ _).trans (teq hc12).2) ?_
            show Steps p.tables e below (T10.setTop (mkF m 37 #[.val (.int p0)] [])) _
            refine XS.iloadN X10.here hx rfl (hb hby own_d2_37) rfl ?_
            show Steps p.tables e below (T10.setTop (mkF m 38 #[.val (.int p0)] [(.int p0)])) _
            refine XS.sipush X10.here hx rfl (hb hby own_d2_38) ?_
            show Steps p.tables e below (T10.setTop (mkF m 41 #[.val (.int p0)] [(.int (215 : Int32)), (.int p0)])) _
            exact q)
          by_cases hc14 : p0 = (215 : Int32)
          ·
            have k15 : own_To p e below T10 (mkF m 157 #[.val (.int p0)] [(.int (0 : Int32))]) s₁ (mkF m 0 #[.val (.int p0)] []) := fun t q => k13 t (by
              refine XS.icmpYes X10.here hx rfl (pc0 := 41) (pc' := 156) rfl (hb hby own_d2_41) rfl (teq hc14).1 (by decide) (by decide) ?_
              show Steps p.tables e below (T10.setTop (mkF m 156 #[.val (.int p0)] [])) _
              refine XS.iconst X10.here hx rfl (hb hby own_d2_156) ?_
              show Steps p.tables e below (T10.setTop (mkF m 157 #[.val (.int p0)] [(.int (0 : Int32))])) _
              exact q)
            obtain ⟨fs, hr, hrun, hended, hW, hsame⟩ := X10.leave (v := some (.int (0 : Int32))) (fun h => by rw [Bd.returns] at h; cases h)
            refine ⟨_, _, k0 _ (k15 _ ?_), hrun, hended, _, _, rfl, ?_, ⟨_, rfl⟩, hW, hsame.mono (by decide) (by decide)⟩
            · show Steps p.tables e below (T10.setTop (mkF m 157 #[.val (.int p0)] [(.int (0 : Int32))])) _
              exact retN X10 hx (t := .boolean) Bd.returns (by simp) (hb hby own_d2_157) hr
            · show Q2 Z p0 h0 n0 _ T10.heap _
              rw [e10]
              exact ⟨by rw [own_F2, if_neg hc2, if_neg hc5, if_pos hc9, if_pos hc12, if_pos hc14], N10, rfl⟩
          ·
            have k16 : own_To p e below T10 (mkF m 48 #[.val (.int p0)] [(.int (247 : Int32)), (.int p0)]) s₁ (mkF m 0 #[.val (.int p0)] []) := fun t q => k13 t (by
              refine XS.icmpNo X10.here hx rfl (hb hby own_d2_41) rfl (feq hc14).1 ?_
              show Steps p.tables e below (T10.setTop (mkF m 44 #[.val (.int p0)] [])) _
              refine XS.iloadN X10.here hx rfl (hb hby own_d2_44) rfl ?_
              show Steps p.tables e below (T10.setTop (mkF m 45 #[.val (.int p0)] [(.int p0)])) _
              refine XS.sipush X10.here hx rfl (hb hby own_d2_45) ?_
              show Steps p.tables e below (T10.setTop (mkF m 48 #[.val (.int p0)] [(.int (247 : Int32)), (.int p0)])) _
              exact q)
            by_cases hc17 : p0 = (247 : Int32)
            ·
              have k18 : own_To p e below T10 (mkF m 157 #[.val (.int p0)] [(.int (0 : Int32))]) s₁ (mkF m 0 #[.val (.int p0)] []) := fun t q => k16 t (by
                refine XS.icmpYes X10.here hx rfl (pc0 := 48) (pc' := 156) rfl (hb hby own_d2_48) rfl (teq hc17).1 (by decide) (by decide) ?_
                show Steps p.tables e below (T10.setTop (mkF m 156 #[.val (.int p0)] [])) _
                refine XS.iconst X10.here hx rfl (hb hby own_d2_156) ?_
                show Steps p.tables e below (T10.setTop (mkF m 157 #[.val (.int p0)] [(.int (0 : Int32))])) _
                exact q)
              obtain ⟨fs, hr, hrun, hended, hW, hsame⟩ := X10.leave (v := some (.int (0 : Int32))) (fun h => by rw [Bd.returns] at h; cases h)
              refine ⟨_, _, k0 _ (k18 _ ?_), hrun, hended, _, _, rfl, ?_, ⟨_, rfl⟩, hW, hsame.mono (by decide) (by decide)⟩
              · show Steps p.tables e below (T10.setTop (mkF m 157 #[.val (.int p0)] [(.int (0 : Int32))])) _
                exact retN X10 hx (t := .boolean) Bd.returns (by simp) (hb hby own_d2_157) hr
              · show Q2 Z p0 h0 n0 _ T10.heap _
                rw [e10]
                exact ⟨by rw [own_F2, if_neg hc2, if_neg hc5, if_pos hc9, if_pos hc12, if_neg hc14, if_pos hc17], N10, rfl⟩
            ·
              obtain ⟨_, _, ⟨T19, L19, kk19, n19⟩, -, X19, ⟨Lc19, hQ19, l19, y19, z19⟩, st19⟩ := Jvm.LawKit.callS X10 hx (y := (⟨"com/example/hornloom/hornloom/NameCharactersIsNameStartCharPinLaw", "in", "(III)Z"⟩ : MethodName)) hown (mvT hZ (hw _ (List.mem_of_getElem? (i := 20) rfl))) (mvT hZ (hw _ (List.mem_of_getElem? (i := 21) rfl))) (mvT hZ (hw _ (List.mem_of_getElem? (i := 18) rfl))) (mvT hZ (hw _ (List.mem_of_getElem? (i := 22) rfl))) (by decide) (backOf (W := 0) (rm3 l Z a0 hw [] p0 (768 : Int32) (879 : Int32) h0 n0 Z0) hZ (hw _ (List.mem_of_getElem? (i := 22) rfl)) (hw _ (List.mem_of_getElem? (i := 18) rfl)) (by decide) (by decide)) (g := (mkF m 58 #[.val (.int p0)] [(.int (879 : Int32)), (.int (768 : Int32)), (.int p0)])) rfl (by rw [hml]; rfl) (argsL := [(.int p0), (.int (768 : Int32)), (.int (879 : Int32))]) (rest := []) (lenOf own_pd1 rfl) rfl (by show 2 * 0 + _ ≤ _; exact Nat.le_of_eq rfl) (hb hby own_d2_58) (fun _ _ => ⟨rfl, e10, (by decide : 0 + 0 ≤ _), (by decide : 0 + 0 ≤ _)⟩)
              dsimp only [Pt.U, Pt.locs, Pt.cells, Pt.slots] at X19 l19 y19 z19 st19 hQ19
              subst l19 y19 z19
              obtain ⟨rfl, N19q, e19⟩ := hQ19
              have N19 := Fr.app N10 N19q
              have k20 : own_To p e below T19 (mkF m 61 #[.val (.int p0)] [(.int (own_in p0 (768 : Int32) (879 : Int32)))]) s₁ (mkF m 0 #[.val (.int p0)] []) := fun t q => k16 t (by
                refine XS.icmpNo X10.here hx rfl (hb hby own_d2_48) rfl (feq hc17).1 ?_
                show Steps p.tables e below (T10.setTop (mkF m 51 #[.val (.int p0)] [])) _
                refine XS.iloadN X10.here hx rfl (hb hby own_d2_51) rfl ?_
                show Steps p.tables e below (T10.setTop (mkF m 52 #[.val (.int p0)] [(.int p0)])) _
                refine XS.sipush X10.here hx rfl (hb hby own_d2_52) ?_
                show Steps p.tables e below (T10.setTop (mkF m 55 #[.val (.int p0)] [(.int (768 : Int32)), (.int p0)])) _
                refine XS.sipush X10.here hx rfl (hb hby own_d2_55) ?_
                show Steps p.tables e below (T10.setTop (mkF m 58 #[.val (.int p0)] [(.int (879 : Int32)), (.int (768 : Int32)), (.int p0)])) _
                refine st19 _ ?_
                show Steps p.tables e below (T19.setTop (mkF m 61 #[.val (.int p0)] [(.int (own_in p0 (768 : Int32) (879 : Int32)))])) _
                exact q)
              by_cases hc21 : (own_in p0 (768 : Int32) (879 : Int32)) = (0 : Int32)
              ·
                have k22 : own_To p e below T19 (mkF m 68 #[.val (.int p0)] [(.int (894 : Int32)), (.int p0)]) s₁ (mkF m 0 #[.val (.int p0)] []) := fun t q => k20 t (by
                  refine XS.ifNo X19.here hx rfl (hb hby own_d2_61) rfl ((if0 _ _).trans (teq hc21).2) ?_
                  show Steps p.tables e below (T19.setTop (mkF m 64 #[.val (.int p0)] [])) _
                  refine XS.iloadN X19.here hx rfl (hb hby own_d2_64) rfl ?_
                  show Steps p.tables e below (T19.setTop (mkF m 65 #[.val (.int p0)] [(.int p0)])) _
                  refine XS.sipush X19.here hx rfl (hb hby own_d2_65) ?_
                  show Steps p.tables e below (T19.setTop (mkF m 68 #[.val (.int p0)] [(.int (894 : Int32)), (.int p0)])) _
                  exact q)
                by_cases hc23 : p0 = (894 : Int32)
                ·
                  have k24 : own_To p e below T19 (mkF m 157 #[.val (.int p0)] [(.int (0 : Int32))]) s₁ (mkF m 0 #[.val (.int p0)] []) := fun t q => k22 t (by
                    refine XS.icmpYes X19.here hx rfl (pc0 := 68) (pc' := 156) rfl (hb hby own_d2_68) rfl (teq hc23).1 (by decide) (by decide) ?_
                    show Steps p.tables e below (T19.setTop (mkF m 156 #[.val (.int p0)] [])) _
                    refine XS.iconst X19.here hx rfl (hb hby own_d2_156) ?_
                    show Steps p.tables e below (T19.setTop (mkF m 157 #[.val (.int p0)] [(.int (0 : Int32))])) _
                    exact q)
                  obtain ⟨fs, hr, hrun, hended, hW, hsame⟩ := X19.leave (v := some (.int (0 : Int32))) (fun h => by rw [Bd.returns] at h; cases h)
                  refine ⟨_, _, k0 _ (k24 _ ?_), hrun, hended, _, _, rfl, ?_, ⟨_, rfl⟩, hW, hsame.mono (by decide) (by decide)⟩
                  · show Steps p.tables e below (T19.setTop (mkF m 157 #[.val (.int p0)] [(.int (0 : Int32))])) _
                    exact retN X19 hx (t := .boolean) Bd.returns (by simp) (hb hby own_d2_157) hr
                  · show Q2 Z p0 h0 n0 _ T19.heap _
                    rw [e19]
                    exact ⟨by rw [own_F2, if_neg hc2, if_neg hc5, if_pos hc9, if_pos hc12, if_neg hc14, if_neg hc17, if_pos hc21, if_pos hc23], N19, rfl⟩
                ·
                  obtain ⟨_, _, ⟨T25, L25, kk25, n25⟩, -, X25, ⟨Lc25, hQ25, l25, y25, z25⟩, st25⟩ := Jvm.LawKit.callS X19 hx (y := (⟨"com/example/hornloom/hornloom/NameCharactersIsNameStartCharPinLaw", "in", "(III)Z"⟩ : MethodName)) hown (mvT hZ (hw _ (List.mem_of_getElem? (i := 20) rfl))) (mvT hZ (hw _ (List.mem_of_getElem? (i := 21) rfl))) (mvT hZ (hw _ (List.mem_of_getElem? (i := 18) rfl))) (mvT hZ (hw _ (List.mem_of_getElem? (i := 22) rfl))) (by decide) (backOf (W := 0) (rm3 l Z a0 hw [] p0 (8192 : Int32) (8203 : Int32) h0 n0 Z0) hZ (hw _ (List.mem_of_getElem? (i := 22) rfl)) (hw _ (List.mem_of_getElem? (i := 18) rfl)) (by decide) (by decide)) (g := (mkF m 78 #[.val (.int p0)] [(.int (8203 : Int32)), (.int (8192 : Int32)), (.int p0)])) rfl (by rw [hml]; rfl) (argsL := [(.int p0), (.int (8192 : Int32)), (.int (8203 : Int32))]) (rest := []) (lenOf own_pd1 rfl) rfl (by show 2 * 0 + _ ≤ _; exact Nat.le_of_eq rfl) (hb hby own_d2_78) (fun _ _ => ⟨rfl, e19, (by decide : 0 + 0 ≤ _), (by decide : 0 + 0 ≤ _)⟩)
                  dsimp only [Pt.U, Pt.locs, Pt.cells, Pt.slots] at X25 l25 y25 z25 st25 hQ25
                  subst l25 y25 z25
                  obtain ⟨rfl, N25q, e25⟩ := hQ25
                  have N25 := Fr.app N19 N25q
                  have k26 : own_To p e below T25 (mkF m 81 #[.val (.int p0)] [(.int (own_in p0 (8192 : Int32) (8203 : Int32)))]) s₁ (mkF m 0 #[.val (.int p0)] []) := fun t q => k22 t (by
                    refine XS.icmpNo X19.here hx rfl (hb hby own_d2_68) rfl (feq hc23).1 ?_
                    show Steps p.tables e below (T19.setTop (mkF m 71 #[.val (.int p0)] [])) _
                    refine XS.iloadN X19.here hx rfl (hb hby own_d2_71) rfl ?_
                    show Steps p.tables e below (T19.setTop (mkF m 72 #[.val (.int p0)] [(.int p0)])) _
                    refine XS.sipush X19.here hx rfl (hb hby own_d2_72) ?_
                    show Steps p.tables e below (T19.setTop (mkF m 75 #[.val (.int p0)] [(.int (8192 : Int32)), (.int p0)])) _
                    refine XS.sipush X19.here hx rfl (hb hby own_d2_75) ?_
                    show Steps p.tables e below (T19.setTop (mkF m 78 #[.val (.int p0)] [(.int (8203 : Int32)), (.int (8192 : Int32)), (.int p0)])) _
                    refine st25 _ ?_
                    show Steps p.tables e below (T25.setTop (mkF m 81 #[.val (.int p0)] [(.int (own_in p0 (8192 : Int32) (8203 : Int32)))])) _
                    exact q)
                  by_cases hc27 : (own_in p0 (8192 : Int32) (8203 : Int32)) = (0 : Int32)
                  ·
                    obtain ⟨_, _, ⟨T28, L28, kk28, n28⟩, -, X28, ⟨Lc28, hQ28, l28, y28, z28⟩, st28⟩ := Jvm.LawKit.callS X25 hx (y := (⟨"com/example/hornloom/hornloom/NameCharactersIsNameStartCharPinLaw", "in", "(III)Z"⟩ : MethodName)) hown (mvT hZ (hw _ (List.mem_of_getElem? (i := 20) rfl))) (mvT hZ (hw _ (List.mem_of_getElem? (i := 21) rfl))) (mvT hZ (hw _ (List.mem_of_getElem? (i := 18) rfl))) (mvT hZ (hw _ (List.mem_of_getElem? (i := 22) rfl))) (by decide) (backOf (W := 0) (rm3 l Z a0 hw [] p0 (8206 : Int32) (8303 : Int32) h0 n0 Z0) hZ (hw _ (List.mem_of_getElem? (i := 22) rfl)) (hw _ (List.mem_of_getElem? (i := 18) rfl)) (by decide) (by decide)) (g := (mkF m 91 #[.val (.int p0)] [(.int (8303 : Int32)), (.int (8206 : Int32)), (.int p0)])) rfl (by rw [hml]; rfl) (argsL := [(.int p0), (.int (8206 : Int32)), (.int (8303 : Int32))]) (rest := []) (lenOf own_pd1 rfl) rfl (by show 2 * 0 + _ ≤ _; exact Nat.le_of_eq rfl) (hb hby own_d2_91) (fun _ _ => ⟨rfl, e25, (by decide : 0 + 0 ≤ _), (by decide : 0 + 0 ≤ _)⟩)
                    dsimp only [Pt.U, Pt.locs, Pt.cells, Pt.slots] at X28 l28 y28 z28 st28 hQ28
                    subst l28 y28 z28
                    obtain ⟨rfl, N28q, e28⟩ := hQ28
                    have N28 := Fr.app N25 N28q
                    have k29 : own_To p e below T28 (mkF m 94 #[.val (.int p0)] [(.int (own_in p0 (8206 : Int32) (8303 : Int32)))]) s₁ (mkF m 0 #[.val (.int p0)] []) := fun t q => k26 t (by
                      refine XS.ifNo X25.here hx rfl (hb hby own_d2_81) rfl ((if0 _ _).trans (teq hc27).2) ?_
                      show Steps p.tables e below (T25.setTop (mkF m 84 #[.val (.int p0)] [])) _
                      refine XS.iloadN X25.here hx rfl (hb hby own_d2_84) rfl ?_
                      show Steps p.tables e below (T25.setTop (mkF m 85 #[.val (.int p0)] [(.int p0)])) _
                      refine XS.sipush X25.here hx rfl (hb hby own_d2_85) ?_
                      show Steps p.tables e below (T25.setTop (mkF m 88 #[.val (.int p0)] [(.int (8206 : Int32)), (.int p0)])) _
                      refine XS.sipush X25.here hx rfl (hb hby own_d2_88) ?_
                      show Steps p.tables e below (T25.setTop (mkF m 91 #[.val (.int p0)] [(.int (8303 : Int32)), (.int (8206 : Int32)), (.int p0)])) _
                      refine st28 _ ?_
                      show Steps p.tables e below (T28.setTop (mkF m 94 #[.val (.int p0)] [(.int (own_in p0 (8206 : Int32) (8303 : Int32)))])) _
                      exact q)
                    by_cases hc30 : (own_in p0 (8206 : Int32) (8303 : Int32)) = (0 : Int32)
                    ·
                      obtain ⟨_, _, ⟨T31, L31, kk31, n31⟩, -, X31, ⟨Lc31, hQ31, l31, y31, z31⟩, st31⟩ := Jvm.LawKit.callS X28 hx (y := (⟨"com/example/hornloom/hornloom/NameCharactersIsNameStartCharPinLaw", "in", "(III)Z"⟩ : MethodName)) hown (mvT hZ (hw _ (List.mem_of_getElem? (i := 20) rfl))) (mvT hZ (hw _ (List.mem_of_getElem? (i := 21) rfl))) (mvT hZ (hw _ (List.mem_of_getElem? (i := 18) rfl))) (mvT hZ (hw _ (List.mem_of_getElem? (i := 22) rfl))) (by decide) (backOf (W := 0) (rm3 l Z a0 hw [] p0 (8592 : Int32) (11263 : Int32) h0 n0 Z0) hZ (hw _ (List.mem_of_getElem? (i := 22) rfl)) (hw _ (List.mem_of_getElem? (i := 18) rfl)) (by decide) (by decide)) (g := (mkF m 104 #[.val (.int p0)] [(.int (11263 : Int32)), (.int (8592 : Int32)), (.int p0)])) rfl (by rw [hml]; rfl) (argsL := [(.int p0), (.int (8592 : Int32)), (.int (11263 : Int32))]) (rest := []) (lenOf own_pd1 rfl) rfl (by show 2 * 0 + _ ≤ _; exact Nat.le_of_eq rfl) (hb hby own_d2_104) (fun _ _ => ⟨rfl, e28, (by decide : 0 + 0 ≤ _), (by decide : 0 + 0 ≤ _)⟩)
                      dsimp only [Pt.U, Pt.locs, Pt.cells, Pt.slots] at X31 l31 y31 z31 st31 hQ31
                      subst l31 y31 z31
                      obtain ⟨rfl, N31q, e31⟩ := hQ31
                      have N31 := Fr.app N28 N31q
                      have k32 : own_To p e below T31 (mkF m 107 #[.val (.int p0)] [(.int (own_in p0 (8592 : Int32) (11263 : Int32)))]) s₁ (mkF m 0 #[.val (.int p0)] []) := fun t q => k29 t (by
                        refine XS.ifNo X28.here hx rfl (hb hby own_d2_94) rfl ((if0 _ _).trans (teq hc30).2) ?_
                        show Steps p.tables e below (T28.setTop (mkF m 97 #[.val (.int p0)] [])) _
                        refine XS.iloadN X28.here hx rfl (hb hby own_d2_97) rfl ?_
                        show Steps p.tables e below (T28.setTop (mkF m 98 #[.val (.int p0)] [(.int p0)])) _
                        refine XS.sipush X28.here hx rfl (hb hby own_d2_98) ?_
                        show Steps p.tables e below (T28.setTop (mkF m 101 #[.val (.int p0)] [(.int (8592 : Int32)), (.int p0)])) _
                        refine XS.sipush X28.here hx rfl (hb hby own_d2_101) ?_
                        show Steps p.tables e below (T28.setTop (mkF m 104 #[.val (.int p0)] [(.int (11263 : Int32)), (.int (8592 : Int32)), (.int p0)])) _
                        refine st31 _ ?_
                        show Steps p.tables e below (T31.setTop (mkF m 107 #[.val (.int p0)] [(.int (own_in p0 (8592 : Int32) (11263 : Int32)))])) _
                        exact q)
                      by_cases hc33 : (own_in p0 (8592 : Int32) (11263 : Int32)) = (0 : Int32)
                      ·
                        obtain ⟨_, _, ⟨T34, L34, kk34, n34⟩, -, X34, ⟨Lc34, hQ34, l34, y34, z34⟩, st34⟩ := Jvm.LawKit.callS X31 hx (y := (⟨"com/example/hornloom/hornloom/NameCharactersIsNameStartCharPinLaw", "in", "(III)Z"⟩ : MethodName)) hown (mvT hZ (hw _ (List.mem_of_getElem? (i := 20) rfl))) (mvT hZ (hw _ (List.mem_of_getElem? (i := 21) rfl))) (mvT hZ (hw _ (List.mem_of_getElem? (i := 18) rfl))) (mvT hZ (hw _ (List.mem_of_getElem? (i := 22) rfl))) (by decide) (backOf (W := 0) (rm3 l Z a0 hw [] p0 (12272 : Int32) (12288 : Int32) h0 n0 Z0) hZ (hw _ (List.mem_of_getElem? (i := 22) rfl)) (hw _ (List.mem_of_getElem? (i := 18) rfl)) (by decide) (by decide)) (g := (mkF m 117 #[.val (.int p0)] [(.int (12288 : Int32)), (.int (12272 : Int32)), (.int p0)])) rfl (by rw [hml]; rfl) (argsL := [(.int p0), (.int (12272 : Int32)), (.int (12288 : Int32))]) (rest := []) (lenOf own_pd1 rfl) rfl (by show 2 * 0 + _ ≤ _; exact Nat.le_of_eq rfl) (hb hby own_d2_117) (fun _ _ => ⟨rfl, e31, (by decide : 0 + 0 ≤ _), (by decide : 0 + 0 ≤ _)⟩)
                        dsimp only [Pt.U, Pt.locs, Pt.cells, Pt.slots] at X34 l34 y34 z34 st34 hQ34
                        subst l34 y34 z34
                        obtain ⟨rfl, N34q, e34⟩ := hQ34
                        have N34 := Fr.app N31 N34q
                        have k35 : own_To p e below T34 (mkF m 120 #[.val (.int p0)] [(.int (own_in p0 (12272 : Int32) (12288 : Int32)))]) s₁ (mkF m 0 #[.val (.int p0)] []) := fun t q => k32 t (by
                          refine XS.ifNo X31.here hx rfl (hb hby own_d2_107) rfl ((if0 _ _).trans (teq hc33).2) ?_
                          show Steps p.tables e below (T31.setTop (mkF m 110 #[.val (.int p0)] [])) _
                          refine XS.iloadN X31.here hx rfl (hb hby own_d2_110) rfl ?_
                          show Steps p.tables e below (T31.setTop (mkF m 111 #[.val (.int p0)] [(.int p0)])) _
                          refine XS.sipush X31.here hx rfl (hb hby own_d2_111) ?_
                          show Steps p.tables e below (T31.setTop (mkF m 114 #[.val (.int p0)] [(.int (12272 : Int32)), (.int p0)])) _
                          refine XS.sipush X31.here hx rfl (hb hby own_d2_114) ?_
                          show Steps p.tables e below (T31.setTop (mkF m 117 #[.val (.int p0)] [(.int (12288 : Int32)), (.int (12272 : Int32)), (.int p0)])) _
                          refine st34 _ ?_
                          show Steps p.tables e below (T34.setTop (mkF m 120 #[.val (.int p0)] [(.int (own_in p0 (12272 : Int32) (12288 : Int32)))])) _
                          exact q)
                        by_cases hc36 : (own_in p0 (12272 : Int32) (12288 : Int32)) = (0 : Int32)
                        ·
                          obtain ⟨_, _, ⟨T37, L37, kk37, n37⟩, -, X37, ⟨Lc37, hQ37, l37, y37, z37⟩, st37⟩ := Jvm.LawKit.callS X34 hx (y := (⟨"com/example/hornloom/hornloom/NameCharactersIsNameStartCharPinLaw", "in", "(III)Z"⟩ : MethodName)) hown (mvT hZ (hw _ (List.mem_of_getElem? (i := 20) rfl))) (mvT hZ (hw _ (List.mem_of_getElem? (i := 21) rfl))) (mvT hZ (hw _ (List.mem_of_getElem? (i := 18) rfl))) (mvT hZ (hw _ (List.mem_of_getElem? (i := 22) rfl))) (by decide) (backOf (W := 0) (rm3 l Z a0 hw [] p0 (55296 : Int32) (63743 : Int32) h0 n0 Z0) hZ (hw _ (List.mem_of_getElem? (i := 22) rfl)) (hw _ (List.mem_of_getElem? (i := 18) rfl)) (by decide) (by decide)) (g := (mkF m 128 #[.val (.int p0)] [(.int (63743 : Int32)), (.int (55296 : Int32)), (.int p0)])) rfl (by rw [hml]; rfl) (argsL := [(.int p0), (.int (55296 : Int32)), (.int (63743 : Int32))]) (rest := []) (lenOf own_pd1 rfl) rfl (by show 2 * 0 + _ ≤ _; exact Nat.le_of_eq rfl) (hb hby own_d2_128) (fun _ _ => ⟨rfl, e34, (by decide : 0 + 0 ≤ _), (by decide : 0 + 0 ≤ _)⟩)
                          dsimp only [Pt.U, Pt.locs, Pt.cells, Pt.slots] at X37 l37 y37 z37 st37 hQ37
                          subst l37 y37 z37
                          obtain ⟨rfl, N37q, e37⟩ := hQ37
                          have N37 := Fr.app N34 N37q
                          have k38 : own_To p e below T37 (mkF m 131 #[.val (.int p0)] [(.int (own_in p0 (55296 : Int32) (63743 : Int32)))]) s₁ (mkF m 0 #[.val (.int p0)] []) := fun t q => k35 t (by
                            refine XS.ifNo X34.here hx rfl (hb hby own_d2_120) rfl ((if0 _ _).trans (teq hc36).2) ?_
                            show Steps p.tables e below (T34.setTop (mkF m 123 #[.val (.int p0)] [])) _
                            refine XS.iloadN X34.here hx rfl (hb hby own_d2_123) rfl ?_
                            show Steps p.tables e below (T34.setTop (mkF m 124 #[.val (.int p0)] [(.int p0)])) _
                            refine X34.ldcInt hx hown (mvT hZ (hw _ (List.mem_of_getElem? (i := 23) rfl))) (g := (mkF m 124 #[.val (.int p0)] [(.int p0)])) rfl (hb hby own_d2_124) _ ?_
                            show Steps p.tables e below (T34.setTop (mkF m 126 #[.val (.int p0)] [(.int (55296 : Int32)), (.int p0)])) _
                            refine X34.ldcInt hx hown (mvT hZ (hw _ (List.mem_of_getElem? (i := 24) rfl))) (g := (mkF m 126 #[.val (.int p0)] [(.int (55296 : Int32)), (.int p0)])) rfl (hb hby own_d2_126) _ ?_
                            show Steps p.tables e below (T34.setTop (mkF m 128 #[.val (.int p0)] [(.int (63743 : Int32)), (.int (55296 : Int32)), (.int p0)])) _
                            refine st37 _ ?_
                            show Steps p.tables e below (T37.setTop (mkF m 131 #[.val (.int p0)] [(.int (own_in p0 (55296 : Int32) (63743 : Int32)))])) _
                            exact q)
                          by_cases hc39 : (own_in p0 (55296 : Int32) (63743 : Int32)) = (0 : Int32)
                          ·
                            obtain ⟨_, _, ⟨T40, L40, kk40, n40⟩, -, X40, ⟨Lc40, hQ40, l40, y40, z40⟩, st40⟩ := Jvm.LawKit.callS X37 hx (y := (⟨"com/example/hornloom/hornloom/NameCharactersIsNameStartCharPinLaw", "in", "(III)Z"⟩ : MethodName)) hown (mvT hZ (hw _ (List.mem_of_getElem? (i := 20) rfl))) (mvT hZ (hw _ (List.mem_of_getElem? (i := 21) rfl))) (mvT hZ (hw _ (List.mem_of_getElem? (i := 18) rfl))) (mvT hZ (hw _ (List.mem_of_getElem? (i := 22) rfl))) (by decide) (backOf (W := 0) (rm3 l Z a0 hw [] p0 (64976 : Int32) (65007 : Int32) h0 n0 Z0) hZ (hw _ (List.mem_of_getElem? (i := 22) rfl)) (hw _ (List.mem_of_getElem? (i := 18) rfl)) (by decide) (by decide)) (g := (mkF m 139 #[.val (.int p0)] [(.int (65007 : Int32)), (.int (64976 : Int32)), (.int p0)])) rfl (by rw [hml]; rfl) (argsL := [(.int p0), (.int (64976 : Int32)), (.int (65007 : Int32))]) (rest := []) (lenOf own_pd1 rfl) rfl (by show 2 * 0 + _ ≤ _; exact Nat.le_of_eq rfl) (hb hby own_d2_139) (fun _ _ => ⟨rfl, e37, (by decide : 0 + 0 ≤ _), (by decide : 0 + 0 ≤ _)⟩)
                            dsimp only [Pt.U, Pt.locs, Pt.cells, Pt.slots] at X40 l40 y40 z40 st40 hQ40
                            subst l40 y40 z40
                            obtain ⟨rfl, N40q, e40⟩ := hQ40
                            have N40 := Fr.app N37 N40q
                            have k41 : own_To p e below T40 (mkF m 142 #[.val (.int p0)] [(.int (own_in p0 (64976 : Int32) (65007 : Int32)))]) s₁ (mkF m 0 #[.val (.int p0)] []) := fun t q => k38 t (by
                              refine XS.ifNo X37.here hx rfl (hb hby own_d2_131) rfl ((if0 _ _).trans (teq hc39).2) ?_
                              show Steps p.tables e below (T37.setTop (mkF m 134 #[.val (.int p0)] [])) _
                              refine XS.iloadN X37.here hx rfl (hb hby own_d2_134) rfl ?_
                              show Steps p.tables e below (T37.setTop (mkF m 135 #[.val (.int p0)] [(.int p0)])) _
                              refine X37.ldcInt hx hown (mvT hZ (hw _ (List.mem_of_getElem? (i := 25) rfl))) (g := (mkF m 135 #[.val (.int p0)] [(.int p0)])) rfl (hb hby own_d2_135) _ ?_
                              show Steps p.tables e below (T37.setTop (mkF m 137 #[.val (.int p0)] [(.int (64976 : Int32)), (.int p0)])) _
                              refine X37.ldcInt hx hown (mvT hZ (hw _ (List.mem_of_getElem? (i := 26) rfl))) (g := (mkF m 137 #[.val (.int p0)] [(.int (64976 : Int32)), (.int p0)])) rfl (hb hby own_d2_137) _ ?_
                              show Steps p.tables e below (T37.setTop (mkF m 139 #[.val (.int p0)] [(.int (65007 : Int32)), (.int (64976 : Int32)), (.int p0)])) _
                              refine st40 _ ?_
                              show Steps p.tables e below (T40.setTop (mkF m 142 #[.val (.int p0)] [(.int (own_in p0 (64976 : Int32) (65007 : Int32)))])) _
                              exact q)
                            by_cases hc42 : (own_in p0 (64976 : Int32) (65007 : Int32)) = (0 : Int32)
                            ·
                              obtain ⟨_, _, ⟨T43, L43, kk43, n43⟩, -, X43, ⟨Lc43, hQ43, l43, y43, z43⟩, st43⟩ := Jvm.LawKit.callS X40 hx (y := (⟨"com/example/hornloom/hornloom/NameCharactersIsNameStartCharPinLaw", "in", "(III)Z"⟩ : MethodName)) hown (mvT hZ (hw _ (List.mem_of_getElem? (i := 20) rfl))) (mvT hZ (hw _ (List.mem_of_getElem? (i := 21) rfl))) (mvT hZ (hw _ (List.mem_of_getElem? (i := 18) rfl))) (mvT hZ (hw _ (List.mem_of_getElem? (i := 22) rfl))) (by decide) (backOf (W := 0) (rm3 l Z a0 hw [] p0 (65534 : Int32) (65535 : Int32) h0 n0 Z0) hZ (hw _ (List.mem_of_getElem? (i := 22) rfl)) (hw _ (List.mem_of_getElem? (i := 18) rfl)) (by decide) (by decide)) (g := (mkF m 150 #[.val (.int p0)] [(.int (65535 : Int32)), (.int (65534 : Int32)), (.int p0)])) rfl (by rw [hml]; rfl) (argsL := [(.int p0), (.int (65534 : Int32)), (.int (65535 : Int32))]) (rest := []) (lenOf own_pd1 rfl) rfl (by show 2 * 0 + _ ≤ _; exact Nat.le_of_eq rfl) (hb hby own_d2_150) (fun _ _ => ⟨rfl, e40, (by decide : 0 + 0 ≤ _), (by decide : 0 + 0 ≤ _)⟩)
                              dsimp only [Pt.U, Pt.locs, Pt.cells, Pt.slots] at X43 l43 y43 z43 st43 hQ43
                              subst l43 y43 z43
                              obtain ⟨rfl, N43q, e43⟩ := hQ43
                              have N43 := Fr.app N40 N43q
                              have k44 : own_To p e below T43 (mkF m 153 #[.val (.int p0)] [(.int (own_in p0 (65534 : Int32) (65535 : Int32)))]) s₁ (mkF m 0 #[.val (.int p0)] []) := fun t q => k41 t (by
                                refine XS.ifNo X40.here hx rfl (hb hby own_d2_142) rfl ((if0 _ _).trans (teq hc42).2) ?_
                                show Steps p.tables e below (T40.setTop (mkF m 145 #[.val (.int p0)] [])) _
                                refine XS.iloadN X40.here hx rfl (hb hby own_d2_145) rfl ?_
                                show Steps p.tables e below (T40.setTop (mkF m 146 #[.val (.int p0)] [(.int p0)])) _
                                refine X40.ldcInt hx hown (mvT hZ (hw _ (List.mem_of_getElem? (i := 27) rfl))) (g := (mkF m 146 #[.val (.int p0)] [(.int p0)])) rfl (hb hby own_d2_146) _ ?_
                                show Steps p.tables e below (T40.setTop (mkF m 148 #[.val (.int p0)] [(.int (65534 : Int32)), (.int p0)])) _
                                refine X40.ldcInt hx hown (mvT hZ (hw _ (List.mem_of_getElem? (i := 28) rfl))) (g := (mkF m 148 #[.val (.int p0)] [(.int (65534 : Int32)), (.int p0)])) rfl (hb hby own_d2_148) _ ?_
                                show Steps p.tables e below (T40.setTop (mkF m 150 #[.val (.int p0)] [(.int (65535 : Int32)), (.int (65534 : Int32)), (.int p0)])) _
                                refine st43 _ ?_
                                show Steps p.tables e below (T43.setTop (mkF m 153 #[.val (.int p0)] [(.int (own_in p0 (65534 : Int32) (65535 : Int32)))])) _
                                exact q)
                              by_cases hc45 : (own_in p0 (65534 : Int32) (65535 : Int32)) = (0 : Int32)
                              ·
                                have k46 : own_To p e below T43 (mkF m 159 #[.val (.int p0)] [(.int (1 : Int32))]) s₁ (mkF m 0 #[.val (.int p0)] []) := fun t q => k44 t (by
                                  refine XS.ifYes X43.here hx rfl (pc0 := 153) (pc' := 158) rfl (hb hby own_d2_153) rfl ((if0 _ _).trans (teq hc45).1) (by decide) (by decide) ?_
                                  show Steps p.tables e below (T43.setTop (mkF m 158 #[.val (.int p0)] [])) _
                                  refine XS.iconst X43.here hx rfl (hb hby own_d2_158) ?_
                                  show Steps p.tables e below (T43.setTop (mkF m 159 #[.val (.int p0)] [(.int (1 : Int32))])) _
                                  exact q)
                                obtain ⟨fs, hr, hrun, hended, hW, hsame⟩ := X43.leave (v := some (.int (1 : Int32))) (fun h => by rw [Bd.returns] at h; cases h)
                                refine ⟨_, _, k0 _ (k46 _ ?_), hrun, hended, _, _, rfl, ?_, ⟨_, rfl⟩, hW, hsame.mono (by decide) (by decide)⟩
                                · show Steps p.tables e below (T43.setTop (mkF m 159 #[.val (.int p0)] [(.int (1 : Int32))])) _
                                  exact retN X43 hx (t := .boolean) Bd.returns (by simp) (hb hby own_d2_159) hr
                                · show Q2 Z p0 h0 n0 _ T43.heap _
                                  rw [e43]
                                  exact ⟨by rw [own_F2, if_neg hc2, if_neg hc5, if_pos hc9, if_pos hc12, if_neg hc14, if_neg hc17, if_pos hc21, if_neg hc23, if_pos hc27, if_pos hc30, if_pos hc33, if_pos hc36, if_pos hc39, if_pos hc42, if_pos hc45], N43, rfl⟩
                              ·
                                have k47 : own_To p e below T43 (mkF m 157 #[.val (.int p0)] [(.int (0 : Int32))]) s₁ (mkF m 0 #[.val (.int p0)] []) := fun t q => k44 t (by
                                  refine XS.ifNo X43.here hx rfl (hb hby own_d2_153) rfl ((if0 _ _).trans (feq hc45).1) ?_
                                  show Steps p.tables e below (T43.setTop (mkF m 156 #[.val (.int p0)] [])) _
                                  refine XS.iconst X43.here hx rfl (hb hby own_d2_156) ?_
                                  show Steps p.tables e below (T43.setTop (mkF m 157 #[.val (.int p0)] [(.int (0 : Int32))])) _
                                  exact q)
                                obtain ⟨fs, hr, hrun, hended, hW, hsame⟩ := X43.leave (v := some (.int (0 : Int32))) (fun h => by rw [Bd.returns] at h; cases h)
                                refine ⟨_, _, k0 _ (k47 _ ?_), hrun, hended, _, _, rfl, ?_, ⟨_, rfl⟩, hW, hsame.mono (by decide) (by decide)⟩
                                · show Steps p.tables e below (T43.setTop (mkF m 157 #[.val (.int p0)] [(.int (0 : Int32))])) _
                                  exact retN X43 hx (t := .boolean) Bd.returns (by simp) (hb hby own_d2_157) hr
                                · show Q2 Z p0 h0 n0 _ T43.heap _
                                  rw [e43]
                                  exact ⟨by rw [own_F2, if_neg hc2, if_neg hc5, if_pos hc9, if_pos hc12, if_neg hc14, if_neg hc17, if_pos hc21, if_neg hc23, if_pos hc27, if_pos hc30, if_pos hc33, if_pos hc36, if_pos hc39, if_pos hc42, if_neg hc45], N43, rfl⟩
                            ·
                              have k48 : own_To p e below T40 (mkF m 157 #[.val (.int p0)] [(.int (0 : Int32))]) s₁ (mkF m 0 #[.val (.int p0)] []) := fun t q => k41 t (by
                                refine XS.ifYes X40.here hx rfl (pc0 := 142) (pc' := 156) rfl (hb hby own_d2_142) rfl ((if0 _ _).trans (feq hc42).2) (by decide) (by decide) ?_
                                show Steps p.tables e below (T40.setTop (mkF m 156 #[.val (.int p0)] [])) _
                                refine XS.iconst X40.here hx rfl (hb hby own_d2_156) ?_
                                show Steps p.tables e below (T40.setTop (mkF m 157 #[.val (.int p0)] [(.int (0 : Int32))])) _
                                exact q)
                              obtain ⟨fs, hr, hrun, hended, hW, hsame⟩ := X40.leave (v := some (.int (0 : Int32))) (fun h => by rw [Bd.returns] at h; cases h)
                              refine ⟨_, _, k0 _ (k48 _ ?_), hrun, hended, _, _, rfl, ?_, ⟨_, rfl⟩, hW, hsame.mono (by decide) (by decide)⟩
                              · show Steps p.tables e below (T40.setTop (mkF m 157 #[.val (.int p0)] [(.int (0 : Int32))])) _
                                exact retN X40 hx (t := .boolean) Bd.returns (by simp) (hb hby own_d2_157) hr
                              · show Q2 Z p0 h0 n0 _ T40.heap _
                                rw [e40]
                                exact ⟨by rw [own_F2, if_neg hc2, if_neg hc5, if_pos hc9, if_pos hc12, if_neg hc14, if_neg hc17, if_pos hc21, if_neg hc23, if_pos hc27, if_pos hc30, if_pos hc33, if_pos hc36, if_pos hc39, if_neg hc42], N40, rfl⟩
                          ·
                            have k49 : own_To p e below T37 (mkF m 157 #[.val (.int p0)] [(.int (0 : Int32))]) s₁ (mkF m 0 #[.val (.int p0)] []) := fun t q => k38 t (by
                              refine XS.ifYes X37.here hx rfl (pc0 := 131) (pc' := 156) rfl (hb hby own_d2_131) rfl ((if0 _ _).trans (feq hc39).2) (by decide) (by decide) ?_
                              show Steps p.tables e below (T37.setTop (mkF m 156 #[.val (.int p0)] [])) _
                              refine XS.iconst X37.here hx rfl (hb hby own_d2_156) ?_
                              show Steps p.tables e below (T37.setTop (mkF m 157 #[.val (.int p0)] [(.int (0 : Int32))])) _
                              exact q)
                            obtain ⟨fs, hr, hrun, hended, hW, hsame⟩ := X37.leave (v := some (.int (0 : Int32))) (fun h => by rw [Bd.returns] at h; cases h)
                            refine ⟨_, _, k0 _ (k49 _ ?_), hrun, hended, _, _, rfl, ?_, ⟨_, rfl⟩, hW, hsame.mono (by decide) (by decide)⟩
                            · show Steps p.tables e below (T37.setTop (mkF m 157 #[.val (.int p0)] [(.int (0 : Int32))])) _
                              exact retN X37 hx (t := .boolean) Bd.returns (by simp) (hb hby own_d2_157) hr
                            · show Q2 Z p0 h0 n0 _ T37.heap _
                              rw [e37]
                              exact ⟨by rw [own_F2, if_neg hc2, if_neg hc5, if_pos hc9, if_pos hc12, if_neg hc14, if_neg hc17, if_pos hc21, if_neg hc23, if_pos hc27, if_pos hc30, if_pos hc33, if_pos hc36, if_neg hc39], N37, rfl⟩
                        ·
                          have k50 : own_To p e below T34 (mkF m 157 #[.val (.int p0)] [(.int (0 : Int32))]) s₁ (mkF m 0 #[.val (.int p0)] []) := fun t q => k35 t (by
                            refine XS.ifYes X34.here hx rfl (pc0 := 120) (pc' := 156) rfl (hb hby own_d2_120) rfl ((if0 _ _).trans (feq hc36).2) (by decide) (by decide) ?_
                            show Steps p.tables e below (T34.setTop (mkF m 156 #[.val (.int p0)] [])) _
                            refine XS.iconst X34.here hx rfl (hb hby own_d2_156) ?_
                            show Steps p.tables e below (T34.setTop (mkF m 157 #[.val (.int p0)] [(.int (0 : Int32))])) _
                            exact q)
                          obtain ⟨fs, hr, hrun, hended, hW, hsame⟩ := X34.leave (v := some (.int (0 : Int32))) (fun h => by rw [Bd.returns] at h; cases h)
                          refine ⟨_, _, k0 _ (k50 _ ?_), hrun, hended, _, _, rfl, ?_, ⟨_, rfl⟩, hW, hsame.mono (by decide) (by decide)⟩
                          · show Steps p.tables e below (T34.setTop (mkF m 157 #[.val (.int p0)] [(.int (0 : Int32))])) _
                            exact retN X34 hx (t := .boolean) Bd.returns (by simp) (hb hby own_d2_157) hr
                          · show Q2 Z p0 h0 n0 _ T34.heap _
                            rw [e34]
                            exact ⟨by rw [own_F2, if_neg hc2, if_neg hc5, if_pos hc9, if_pos hc12, if_neg hc14, if_neg hc17, if_pos hc21, if_neg hc23, if_pos hc27, if_pos hc30, if_pos hc33, if_neg hc36], N34, rfl⟩
                      ·
                        have k51 : own_To p e below T31 (mkF m 157 #[.val (.int p0)] [(.int (0 : Int32))]) s₁ (mkF m 0 #[.val (.int p0)] []) := fun t q => k32 t (by
                          refine XS.ifYes X31.here hx rfl (pc0 := 107) (pc' := 156) rfl (hb hby own_d2_107) rfl ((if0 _ _).trans (feq hc33).2) (by decide) (by decide) ?_
                          show Steps p.tables e below (T31.setTop (mkF m 156 #[.val (.int p0)] [])) _
                          refine XS.iconst X31.here hx rfl (hb hby own_d2_156) ?_
                          show Steps p.tables e below (T31.setTop (mkF m 157 #[.val (.int p0)] [(.int (0 : Int32))])) _
                          exact q)
                        obtain ⟨fs, hr, hrun, hended, hW, hsame⟩ := X31.leave (v := some (.int (0 : Int32))) (fun h => by rw [Bd.returns] at h; cases h)
                        refine ⟨_, _, k0 _ (k51 _ ?_), hrun, hended, _, _, rfl, ?_, ⟨_, rfl⟩, hW, hsame.mono (by decide) (by decide)⟩
                        · show Steps p.tables e below (T31.setTop (mkF m 157 #[.val (.int p0)] [(.int (0 : Int32))])) _
                          exact retN X31 hx (t := .boolean) Bd.returns (by simp) (hb hby own_d2_157) hr
                        · show Q2 Z p0 h0 n0 _ T31.heap _
                          rw [e31]
                          exact ⟨by rw [own_F2, if_neg hc2, if_neg hc5, if_pos hc9, if_pos hc12, if_neg hc14, if_neg hc17, if_pos hc21, if_neg hc23, if_pos hc27, if_pos hc30, if_neg hc33], N31, rfl⟩
                    ·
                      have k52 : own_To p e below T28 (mkF m 157 #[.val (.int p0)] [(.int (0 : Int32))]) s₁ (mkF m 0 #[.val (.int p0)] []) := fun t q => k29 t (by
                        refine XS.ifYes X28.here hx rfl (pc0 := 94) (pc' := 156) rfl (hb hby own_d2_94) rfl ((if0 _ _).trans (feq hc30).2) (by decide) (by decide) ?_
                        show Steps p.tables e below (T28.setTop (mkF m 156 #[.val (.int p0)] [])) _
                        refine XS.iconst X28.here hx rfl (hb hby own_d2_156) ?_
                        show Steps p.tables e below (T28.setTop (mkF m 157 #[.val (.int p0)] [(.int (0 : Int32))])) _
                        exact q)
                      obtain ⟨fs, hr, hrun, hended, hW, hsame⟩ := X28.leave (v := some (.int (0 : Int32))) (fun h => by rw [Bd.returns] at h; cases h)
                      refine ⟨_, _, k0 _ (k52 _ ?_), hrun, hended, _, _, rfl, ?_, ⟨_, rfl⟩, hW, hsame.mono (by decide) (by decide)⟩
                      · show Steps p.tables e below (T28.setTop (mkF m 157 #[.val (.int p0)] [(.int (0 : Int32))])) _
                        exact retN X28 hx (t := .boolean) Bd.returns (by simp) (hb hby own_d2_157) hr
                      · show Q2 Z p0 h0 n0 _ T28.heap _
                        rw [e28]
                        exact ⟨by rw [own_F2, if_neg hc2, if_neg hc5, if_pos hc9, if_pos hc12, if_neg hc14, if_neg hc17, if_pos hc21, if_neg hc23, if_pos hc27, if_neg hc30], N28, rfl⟩
                  ·
                    have k53 : own_To p e below T25 (mkF m 157 #[.val (.int p0)] [(.int (0 : Int32))]) s₁ (mkF m 0 #[.val (.int p0)] []) := fun t q => k26 t (by
                      refine XS.ifYes X25.here hx rfl (pc0 := 81) (pc' := 156) rfl (hb hby own_d2_81) rfl ((if0 _ _).trans (feq hc27).2) (by decide) (by decide) ?_
                      show Steps p.tables e below (T25.setTop (mkF m 156 #[.val (.int p0)] [])) _
                      refine XS.iconst X25.here hx rfl (hb hby own_d2_156) ?_
                      show Steps p.tables e below (T25.setTop (mkF m 157 #[.val (.int p0)] [(.int (0 : Int32))])) _
                      exact q)
                    obtain ⟨fs, hr, hrun, hended, hW, hsame⟩ := X25.leave (v := some (.int (0 : Int32))) (fun h => by rw [Bd.returns] at h; cases h)
                    refine ⟨_, _, k0 _ (k53 _ ?_), hrun, hended, _, _, rfl, ?_, ⟨_, rfl⟩, hW, hsame.mono (by decide) (by decide)⟩
                    · show Steps p.tables e below (T25.setTop (mkF m 157 #[.val (.int p0)] [(.int (0 : Int32))])) _
                      exact retN X25 hx (t := .boolean) Bd.returns (by simp) (hb hby own_d2_157) hr
                    · show Q2 Z p0 h0 n0 _ T25.heap _
                      rw [e25]
                      exact ⟨by rw [own_F2, if_neg hc2, if_neg hc5, if_pos hc9, if_pos hc12, if_neg hc14, if_neg hc17, if_pos hc21, if_neg hc23, if_neg hc27], N25, rfl⟩
              ·
                have k54 : own_To p e below T19 (mkF m 157 #[.val (.int p0)] [(.int (0 : Int32))]) s₁ (mkF m 0 #[.val (.int p0)] []) := fun t q => k20 t (by
                  refine XS.ifYes X19.here hx rfl (pc0 := 61) (pc' := 156) rfl (hb hby own_d2_61) rfl ((if0 _ _).trans (feq hc21).2) (by decide) (by decide) ?_
                  show Steps p.tables e below (T19.setTop (mkF m 156 #[.val (.int p0)] [])) _
                  refine XS.iconst X19.here hx rfl (hb hby own_d2_156) ?_
                  show Steps p.tables e below (T19.setTop (mkF m 157 #[.val (.int p0)] [(.int (0 : Int32))])) _
                  exact q)
                obtain ⟨fs, hr, hrun, hended, hW, hsame⟩ := X19.leave (v := some (.int (0 : Int32))) (fun h => by rw [Bd.returns] at h; cases h)
                refine ⟨_, _, k0 _ (k54 _ ?_), hrun, hended, _, _, rfl, ?_, ⟨_, rfl⟩, hW, hsame.mono (by decide) (by decide)⟩
                · show Steps p.tables e below (T19.setTop (mkF m 157 #[.val (.int p0)] [(.int (0 : Int32))])) _
                  exact retN X19 hx (t := .boolean) Bd.returns (by simp) (hb hby own_d2_157) hr
                · show Q2 Z p0 h0 n0 _ T19.heap _
                  rw [e19]
                  exact ⟨by rw [own_F2, if_neg hc2, if_neg hc5, if_pos hc9, if_pos hc12, if_neg hc14, if_neg hc17, if_neg hc21], N19, rfl⟩
        ·
          have k55 : own_To p e below T10 (mkF m 157 #[.val (.int p0)] [(.int (0 : Int32))]) s₁ (mkF m 0 #[.val (.int p0)] []) := fun t q => k11 t (by
            refine XS.ifYes X10.here hx rfl (pc0 := 34) (pc' := 156) rfl (hb hby own_d2_34) rfl ((if0 _ _).trans (feq hc12).2) (by decide) (by decide) ?_
            show Steps p.tables e below (T10.setTop (mkF m 156 #[.val (.int p0)] [])) _
            refine XS.iconst X10.here hx rfl (hb hby own_d2_156) ?_
            show Steps p.tables e below (T10.setTop (mkF m 157 #[.val (.int p0)] [(.int (0 : Int32))])) _
            exact q)
          obtain ⟨fs, hr, hrun, hended, hW, hsame⟩ := X10.leave (v := some (.int (0 : Int32))) (fun h => by rw [Bd.returns] at h; cases h)
          refine ⟨_, _, k0 _ (k55 _ ?_), hrun, hended, _, _, rfl, ?_, ⟨_, rfl⟩, hW, hsame.mono (by decide) (by decide)⟩
          · show Steps p.tables e below (T10.setTop (mkF m 157 #[.val (.int p0)] [(.int (0 : Int32))])) _
            exact retN X10 hx (t := .boolean) Bd.returns (by simp) (hb hby own_d2_157) hr
          · show Q2 Z p0 h0 n0 _ T10.heap _
            rw [e10]
            exact ⟨by rw [own_F2, if_neg hc2, if_neg hc5, if_pos hc9, if_neg hc12], N10, rfl⟩
      ·
        have k56 : own_To p e below T7 (mkF m 157 #[.val (.int p0)] [(.int (0 : Int32))]) s₁ (mkF m 0 #[.val (.int p0)] []) := fun t q => k8 t (by
          refine XS.ifYes X7.here hx rfl (pc0 := 22) (pc' := 156) rfl (hb hby own_d2_22) rfl ((if0 _ _).trans (feq hc9).2) (by decide) (by decide) ?_
          show Steps p.tables e below (T7.setTop (mkF m 156 #[.val (.int p0)] [])) _
          refine XS.iconst X7.here hx rfl (hb hby own_d2_156) ?_
          show Steps p.tables e below (T7.setTop (mkF m 157 #[.val (.int p0)] [(.int (0 : Int32))])) _
          exact q)
        obtain ⟨fs, hr, hrun, hended, hW, hsame⟩ := X7.leave (v := some (.int (0 : Int32))) (fun h => by rw [Bd.returns] at h; cases h)
        refine ⟨_, _, k0 _ (k56 _ ?_), hrun, hended, _, _, rfl, ?_, ⟨_, rfl⟩, hW, hsame.mono (by decide) (by decide)⟩
        · show Steps p.tables e below (T7.setTop (mkF m 157 #[.val (.int p0)] [(.int (0 : Int32))])) _
          exact retN X7 hx (t := .boolean) Bd.returns (by simp) (hb hby own_d2_157) hr
        · show Q2 Z p0 h0 n0 _ T7.heap _
          rw [e7]
          exact ⟨by rw [own_F2, if_neg hc2, if_neg hc5, if_neg hc9], N7, rfl⟩
theorem own_d1_0 : decode prog_1_method_2_code 0 = .ok (.iload_n 0, 1) := by decide +kernel
theorem own_d1_1 : decode prog_1_method_2_code 1 = .ok (.bipush 97, 2) := by decide +kernel
theorem own_d1_3 : decode prog_1_method_2_code 3 = .ok (.if_icmp .lt 9, 3) := by decide +kernel
theorem own_d1_6 : decode prog_1_method_2_code 6 = .ok (.iload_n 0, 1) := by decide +kernel
theorem own_d1_7 : decode prog_1_method_2_code 7 = .ok (.bipush 122, 2) := by decide +kernel
theorem own_d1_9 : decode prog_1_method_2_code 9 = .ok (.if_icmp .le 176, 3) := by decide +kernel
theorem own_d1_12 : decode prog_1_method_2_code 12 = .ok (.iload_n 0, 1) := by decide +kernel
theorem own_d1_13 : decode prog_1_method_2_code 13 = .ok (.bipush 65, 2) := by decide +kernel
theorem own_d1_15 : decode prog_1_method_2_code 15 = .ok (.if_icmp .lt 9, 3) := by decide +kernel
theorem own_d1_18 : decode prog_1_method_2_code 18 = .ok (.iload_n 0, 1) := by decide +kernel
theorem own_d1_19 : decode prog_1_method_2_code 19 = .ok (.bipush 90, 2) := by decide +kernel
theorem own_d1_21 : decode prog_1_method_2_code 21 = .ok (.if_icmp .le 164, 3) := by decide +kernel
theorem own_d1_24 : decode prog_1_method_2_code 24 = .ok (.iload_n 0, 1) := by decide +kernel
theorem own_d1_25 : decode prog_1_method_2_code 25 = .ok (.sipush 192, 3) := by decide +kernel
theorem own_d1_28 : decode prog_1_method_2_code 28 = .ok (.if_icmp .lt 10, 3) := by decide +kernel
theorem own_d1_31 : decode prog_1_method_2_code 31 = .ok (.iload_n 0, 1) := by decide +kernel
theorem own_d1_32 : decode prog_1_method_2_code 32 = .ok (.sipush 214, 3) := by decide +kernel
theorem own_d1_35 : decode prog_1_method_2_code 35 = .ok (.if_icmp .le 150, 3) := by decide +kernel
theorem own_d1_38 : decode prog_1_method_2_code 38 = .ok (.iload_n 0, 1) := by decide +kernel
theorem own_d1_39 : decode prog_1_method_2_code 39 = .ok (.sipush 216, 3) := by decide +kernel
theorem own_d1_42 : decode prog_1_method_2_code 42 = .ok (.if_icmp .lt 10, 3) := by decide +kernel
theorem own_d1_45 : decode prog_1_method_2_code 45 = .ok (.iload_n 0, 1) := by decide +kernel
theorem own_d1_46 : decode prog_1_method_2_code 46 = .ok (.sipush 246, 3) := by decide +kernel
theorem own_d1_49 : decode prog_1_method_2_code 49 = .ok (.if_icmp .le 136, 3) := by decide +kernel
theorem own_d1_52 : decode prog_1_method_2_code 52 = .ok (.iload_n 0, 1) := by decide +kernel
theorem own_d1_53 : decode prog_1_method_2_code 53 = .ok (.sipush 248, 3) := by decide +kernel
theorem own_d1_56 : decode prog_1_method_2_code 56 = .ok (.if_icmp .lt 10, 3) := by decide +kernel
theorem own_d1_59 : decode prog_1_method_2_code 59 = .ok (.iload_n 0, 1) := by decide +kernel
theorem own_d1_60 : decode prog_1_method_2_code 60 = .ok (.sipush 767, 3) := by decide +kernel
theorem own_d1_63 : decode prog_1_method_2_code 63 = .ok (.if_icmp .le 122, 3) := by decide +kernel
theorem own_d1_66 : decode prog_1_method_2_code 66 = .ok (.iload_n 0, 1) := by decide +kernel
theorem own_d1_67 : decode prog_1_method_2_code 67 = .ok (.sipush 880, 3) := by decide +kernel
theorem own_d1_70 : decode prog_1_method_2_code 70 = .ok (.if_icmp .lt 10, 3) := by decide +kernel
theorem own_d1_73 : decode prog_1_method_2_code 73 = .ok (.iload_n 0, 1) := by decide +kernel
theorem own_d1_74 : decode prog_1_method_2_code 74 = .ok (.sipush 893, 3) := by decide +kernel
theorem own_d1_77 : decode prog_1_method_2_code 77 = .ok (.if_icmp .le 108, 3) := by decide +kernel
theorem own_d1_80 : decode prog_1_method_2_code 80 = .ok (.iload_n 0, 1) := by decide +kernel
theorem own_d1_81 : decode prog_1_method_2_code 81 = .ok (.sipush 895, 3) := by decide +kernel
theorem own_d1_84 : decode prog_1_method_2_code 84 = .ok (.if_icmp .lt 10, 3) := by decide +kernel
theorem own_d1_87 : decode prog_1_method_2_code 87 = .ok (.iload_n 0, 1) := by decide +kernel
theorem own_d1_88 : decode prog_1_method_2_code 88 = .ok (.sipush 8191, 3) := by decide +kernel
theorem own_d1_91 : decode prog_1_method_2_code 91 = .ok (.if_icmp .le 94, 3) := by decide +kernel
theorem own_d1_94 : decode prog_1_method_2_code 94 = .ok (.iload_n 0, 1) := by decide +kernel
theorem own_d1_95 : decode prog_1_method_2_code 95 = .ok (.sipush 8204, 3) := by decide +kernel
theorem own_d1_98 : decode prog_1_method_2_code 98 = .ok (.if_icmp .lt 10, 3) := by decide +kernel
theorem own_d1_101 : decode prog_1_method_2_code 101 = .ok (.iload_n 0, 1) := by decide +kernel
theorem own_d1_102 : decode prog_1_method_2_code 102 = .ok (.sipush 8205, 3) := by decide +kernel
theorem own_d1_105 : decode prog_1_method_2_code 105 = .ok (.if_icmp .le 80, 3) := by decide +kernel
theorem own_d1_108 : decode prog_1_method_2_code 108 = .ok (.iload_n 0, 1) := by decide +kernel
theorem own_d1_109 : decode prog_1_method_2_code 109 = .ok (.sipush 8304, 3) := by decide +kernel
theorem own_d1_112 : decode prog_1_method_2_code 112 = .ok (.if_icmp .lt 10, 3) := by decide +kernel
theorem own_d1_115 : decode prog_1_method_2_code 115 = .ok (.iload_n 0, 1) := by decide +kernel
theorem own_d1_116 : decode prog_1_method_2_code 116 = .ok (.sipush 8591, 3) := by decide +kernel
theorem own_d1_119 : decode prog_1_method_2_code 119 = .ok (.if_icmp .le 66, 3) := by decide +kernel
theorem own_d1_122 : decode prog_1_method_2_code 122 = .ok (.iload_n 0, 1) := by decide +kernel
theorem own_d1_123 : decode prog_1_method_2_code 123 = .ok (.sipush 11264, 3) := by decide +kernel
theorem own_d1_126 : decode prog_1_method_2_code 126 = .ok (.if_icmp .lt 10, 3) := by decide +kernel
theorem own_d1_129 : decode prog_1_method_2_code 129 = .ok (.iload_n 0, 1) := by decide +kernel
theorem own_d1_130 : decode prog_1_method_2_code 130 = .ok (.sipush 12271, 3) := by decide +kernel
theorem own_d1_133 : decode prog_1_method_2_code 133 = .ok (.if_icmp .le 52, 3) := by decide +kernel
theorem own_d1_136 : decode prog_1_method_2_code 136 = .ok (.iload_n 0, 1) := by decide +kernel
theorem own_d1_137 : decode prog_1_method_2_code 137 = .ok (.sipush 12289, 3) := by decide +kernel
theorem own_d1_140 : decode prog_1_method_2_code 140 = .ok (.if_icmp .lt 9, 3) := by decide +kernel
theorem own_d1_143 : decode prog_1_method_2_code 143 = .ok (.iload_n 0, 1) := by decide +kernel
theorem own_d1_144 : decode prog_1_method_2_code 144 = .ok (.ldc 7, 2) := by decide +kernel
theorem own_d1_146 : decode prog_1_method_2_code 146 = .ok (.if_icmp .le 39, 3) := by decide +kernel
theorem own_d1_149 : decode prog_1_method_2_code 149 = .ok (.iload_n 0, 1) := by decide +kernel
theorem own_d1_150 : decode prog_1_method_2_code 150 = .ok (.ldc 8, 2) := by decide +kernel
theorem own_d1_152 : decode prog_1_method_2_code 152 = .ok (.if_icmp .lt 9, 3) := by decide +kernel
theorem own_d1_155 : decode prog_1_method_2_code 155 = .ok (.iload_n 0, 1) := by decide +kernel
theorem own_d1_156 : decode prog_1_method_2_code 156 = .ok (.ldc 9, 2) := by decide +kernel
theorem own_d1_158 : decode prog_1_method_2_code 158 = .ok (.if_icmp .le 27, 3) := by decide +kernel
theorem own_d1_161 : decode prog_1_method_2_code 161 = .ok (.iload_n 0, 1) := by decide +kernel
theorem own_d1_162 : decode prog_1_method_2_code 162 = .ok (.ldc 10, 2) := by decide +kernel
theorem own_d1_164 : decode prog_1_method_2_code 164 = .ok (.if_icmp .lt 9, 3) := by decide +kernel
theorem own_d1_167 : decode prog_1_method_2_code 167 = .ok (.iload_n 0, 1) := by decide +kernel
theorem own_d1_168 : decode prog_1_method_2_code 168 = .ok (.ldc 11, 2) := by decide +kernel
theorem own_d1_170 : decode prog_1_method_2_code 170 = .ok (.if_icmp .le 15, 3) := by decide +kernel
theorem own_d1_173 : decode prog_1_method_2_code 173 = .ok (.iload_n 0, 1) := by decide +kernel
theorem own_d1_174 : decode prog_1_method_2_code 174 = .ok (.ldc 12, 2) := by decide +kernel
theorem own_d1_176 : decode prog_1_method_2_code 176 = .ok (.if_icmp .lt 13, 3) := by decide +kernel
theorem own_d1_179 : decode prog_1_method_2_code 179 = .ok (.iload_n 0, 1) := by decide +kernel
theorem own_d1_180 : decode prog_1_method_2_code 180 = .ok (.ldc 13, 2) := by decide +kernel
theorem own_d1_182 : decode prog_1_method_2_code 182 = .ok (.if_icmp .gt 7, 3) := by decide +kernel
theorem own_d1_185 : decode prog_1_method_2_code 185 = .ok (.iconst 1, 1) := by decide +kernel
theorem own_d1_186 : decode prog_1_method_2_code 186 = .ok (.goto 4, 3) := by decide +kernel
theorem own_d1_189 : decode prog_1_method_2_code 189 = .ok (.iconst 0, 1) := by decide +kernel
theorem own_d1_190 : decode prog_1_method_2_code 190 = .ok (.ireturn, 1) := by decide +kernel
theorem own_pn1 : plainName "com/example/hornloom/hornloom/NameCharacters" = true := by first | (simp [plainName, overriddenIn]; done) | decide +kernel
theorem own_ef1 (m : MethodId) (x0 : Int32) : entryFrame m #[(.int x0)] 1 = mkF m 0 #[.val (.int x0)] [] := by first | (simp [entryFrame, mkF, argsToLocals, Value.category]; done) | rfl
def own_F1 (p0 : Int32) : Int32 := (if (¬ (p0 < (97 : Int32)) ∧ ¬ ((122 : Int32) < p0)) then (1 : Int32) else (if (¬ (p0 < (65 : Int32)) ∧ ¬ ((90 : Int32) < p0)) then (1 : Int32) else (if (¬ (p0 < (192 : Int32)) ∧ ¬ ((214 : Int32) < p0)) then (1 : Int32) else (if (¬ (p0 < (216 : Int32)) ∧ ¬ ((246 : Int32) < p0)) then (1 : Int32) else (if (¬ (p0 < (248 : Int32)) ∧ ¬ ((767 : Int32) < p0)) then (1 : Int32) else (if (¬ (p0 < (880 : Int32)) ∧ ¬ ((893 : Int32) < p0)) then (1 : Int32) else (if (¬ (p0 < (895 : Int32)) ∧ ¬ ((8191 : Int32) < p0)) then (1 : Int32) else (if (¬ (p0 < (8204 : Int32)) ∧ ¬ ((8205 : Int32) < p0)) then (1 : Int32) else (if (¬ (p0 < (8304 : Int32)) ∧ ¬ ((8591 : Int32) < p0)) then (1 : Int32) else (if (¬ (p0 < (11264 : Int32)) ∧ ¬ ((12271 : Int32) < p0)) then (1 : Int32) else (if (¬ (p0 < (12289 : Int32)) ∧ ¬ ((55295 : Int32) < p0)) then (1 : Int32) else (if (¬ (p0 < (63744 : Int32)) ∧ ¬ ((64975 : Int32) < p0)) then (1 : Int32) else (if (¬ (p0 < (65008 : Int32)) ∧ ¬ ((65533 : Int32) < p0)) then (1 : Int32) else (if (¬ (p0 < (65536 : Int32)) ∧ ¬ ((983039 : Int32) < p0)) then (1 : Int32) else (0 : Int32)))))))))))))))
def Q1 (Z : State) (p0 : Int32) (h0 : Heap) (n0 : Nat) (v : Option Value) (h : Heap) (L : List Loc) : Prop := v = some (.int (own_F1 p0)) ∧ Fr n0 L ∧ h = h0
set_option maxRecDepth 65536 in
set_option maxHeartbeats 40000000 in
theorem rm1 (l : Launch) (Z : State) (a0 : Array Value) (hw : ∀ d ∈ tables_1, d.before a0 Z = true) (ws : List Jvm.Cond) (p0 : Int32) (h0 : Heap) (n0 : Nat) (Z0 : n0 ≤ h0.size) :
    MetFree l (⟨"com/example/hornloom/hornloom/NameCharacters", "isNameStartChar", "(I)Z"⟩ : MethodName) (head1 (Jvm.Cond.code (⟨"com/example/hornloom/hornloom/NameCharacters", "isNameStartChar", "(I)Z"⟩ : MethodName) prog_1_method_2_code 1 (some .boolean) :: ws) ({ frames := 0, cells := 0, slots := 0, locals := 0 } : Room)) (fun a U => a = #[(.int p0)] ∧ Z.Warmed39 U.vm ∧ U.heap = h0) (fun _ _ _ _ _ => True) (fun _ U o U' => ∃ v L, o = .returned v ∧ Q1 Z p0 h0 n0 v U'.heap L ∧ FrameEnd U o U' L ({ frames := 0, cells := 0, slots := 0, locals := 0 } : Room).cells ({ frames := 0, cells := 0, slots := 0, locals := 0 } : Room).slots) := by
  refine MetFree.of_bodySF (plainFor_of_name own_pn1) hisR ?_
  intro p e s m args below meth c s₁ Bd hml0 hP hK
  obtain ⟨rfl, hZ, hh⟩ := hP
  have hx := Bd.exec
  have hby := Bd.bytes
  have hml : c.maxLocals = 1 := hml0
  have hown : s.vm.findClass "com/example/hornloom/hornloom/NameCharacters" = some m.cls := findClass_of_methodNamed Bd.named
  have hnm := (name_of_methodNamed Bd.named Bd.method).1
  have X0 : Stand p l e ({ frames := 0, cells := 0, slots := 0, locals := 0 } : Room) s m #[(.int p0)] below meth c s₁ [] 0 0 := Stand.of_body Bd
  have e0 : s₁.heap = h0 := by rw [← hh, Bd.state]; rfl
  have N0 := Fr.nil n0
  have k0 : own_To p e below s₁ (mkF m 0 #[.val (.int p0)] []) s₁ (entryFrame m #[(.int p0)] 1) := fun t k => castTop (own_ef1 m p0) k
  have ki : own_To p e below s₁ (mkF m 0 #[.val (.int p0)] []) s₁ (mkF m 0 #[.val (.int p0)] []) := fun t q => q
  rcases (show (((¬ (p0 < (97 : Int32)) ∧ ¬ ((122 : Int32) < p0)) ∧ own_To p e below s₁ (mkF m 185 #[.val (.int p0)] []) s₁ (mkF m 0 #[.val (.int p0)] [])) ∨ (¬ (¬ (p0 < (97 : Int32)) ∧ ¬ ((122 : Int32) < p0)) ∧ own_To p e below s₁ (mkF m 12 #[.val (.int p0)] []) s₁ (mkF m 0 #[.val (.int p0)] []))) from by
      by_cases hm1 : p0 < (97 : Int32)
      ·
        refine Or.inr ⟨fun w => w.1 hm1, fun t q => ki t (?_)⟩
        refine XS.iloadN X0.here hx rfl (hb hby own_d1_0) rfl ?_
        show Steps p.tables e below (s₁.setTop (mkF m 1 #[.val (.int p0)] [(.int p0)])) _
        refine XS.bipush X0.here hx rfl (hb hby own_d1_1) ?_
        show Steps p.tables e below (s₁.setTop (mkF m 3 #[.val (.int p0)] [(.int (97 : Int32)), (.int p0)])) _
        refine XS.icmpYes X0.here hx rfl (pc0 := 3) (pc' := 12) rfl (hb hby own_d1_3) rfl (tlt hm1).1 (by decide) (by decide) ?_
        show Steps p.tables e below (s₁.setTop (mkF m 12 #[.val (.int p0)] [])) _
        exact q
      ·
        by_cases hm2 : (122 : Int32) < p0
        ·
          refine Or.inr ⟨fun w => w.2 hm2, fun t q => ki t (?_)⟩
          refine XS.iloadN X0.here hx rfl (hb hby own_d1_0) rfl ?_
          show Steps p.tables e below (s₁.setTop (mkF m 1 #[.val (.int p0)] [(.int p0)])) _
          refine XS.bipush X0.here hx rfl (hb hby own_d1_1) ?_
          show Steps p.tables e below (s₁.setTop (mkF m 3 #[.val (.int p0)] [(.int (97 : Int32)), (.int p0)])) _
          refine XS.icmpNo X0.here hx rfl (hb hby own_d1_3) rfl (flt hm1).1 ?_
          show Steps p.tables e below (s₁.setTop (mkF m 6 #[.val (.int p0)] [])) _
          refine XS.iloadN X0.here hx rfl (hb hby own_d1_6) rfl ?_
          show Steps p.tables e below (s₁.setTop (mkF m 7 #[.val (.int p0)] [(.int p0)])) _
          refine XS.bipush X0.here hx rfl (hb hby own_d1_7) ?_
          show Steps p.tables e below (s₁.setTop (mkF m 9 #[.val (.int p0)] [(.int (122 : Int32)), (.int p0)])) _
          refine XS.icmpNo X0.here hx rfl (hb hby own_d1_9) rfl (tlt hm2).2.2.2 ?_
          show Steps p.tables e below (s₁.setTop (mkF m 12 #[.val (.int p0)] [])) _
          exact q
        ·
          refine Or.inl ⟨⟨hm1, hm2⟩, fun t q => ki t (?_)⟩
          refine XS.iloadN X0.here hx rfl (hb hby own_d1_0) rfl ?_
          show Steps p.tables e below (s₁.setTop (mkF m 1 #[.val (.int p0)] [(.int p0)])) _
          refine XS.bipush X0.here hx rfl (hb hby own_d1_1) ?_
          show Steps p.tables e below (s₁.setTop (mkF m 3 #[.val (.int p0)] [(.int (97 : Int32)), (.int p0)])) _
          refine XS.icmpNo X0.here hx rfl (hb hby own_d1_3) rfl (flt hm1).1 ?_
          show Steps p.tables e below (s₁.setTop (mkF m 6 #[.val (.int p0)] [])) _
          refine XS.iloadN X0.here hx rfl (hb hby own_d1_6) rfl ?_
          show Steps p.tables e below (s₁.setTop (mkF m 7 #[.val (.int p0)] [(.int p0)])) _
          refine XS.bipush X0.here hx rfl (hb hby own_d1_7) ?_
          show Steps p.tables e below (s₁.setTop (mkF m 9 #[.val (.int p0)] [(.int (122 : Int32)), (.int p0)])) _
          refine XS.icmpYes X0.here hx rfl (pc0 := 9) (pc' := 185) rfl (hb hby own_d1_9) rfl (flt hm2).2.2.2 (by decide) (by decide) ?_
          show Steps p.tables e below (s₁.setTop (mkF m 185 #[.val (.int p0)] [])) _
          exact q
    ) with ⟨hs3, k4⟩ | ⟨hs3, k5⟩
  ·
    have k6 : own_To p e below s₁ (mkF m 190 #[.val (.int p0)] [(.int (1 : Int32))]) s₁ (mkF m 0 #[.val (.int p0)] []) := fun t q => k4 t (by
      refine XS.iconst X0.here hx rfl (hb hby own_d1_185) ?_
      show Steps p.tables e below (s₁.setTop (mkF m 186 #[.val (.int p0)] [(.int (1 : Int32))])) _
      refine XS.goto X0.here hx rfl (pc0 := 186) (pc' := 190) rfl (hb hby own_d1_186) (by decide) (by decide) ?_
      show Steps p.tables e below (s₁.setTop (mkF m 190 #[.val (.int p0)] [(.int (1 : Int32))])) _
      exact q)
    obtain ⟨fs, hr, hrun, hended, hW, hsame⟩ := X0.leave (v := some (.int (1 : Int32))) (fun h => by rw [Bd.returns] at h; cases h)
    refine ⟨_, _, k0 _ (k6 _ ?_), hrun, hended, _, _, rfl, ?_, ⟨_, rfl⟩, hW, hsame.mono (by decide) (by decide)⟩
    · show Steps p.tables e below (s₁.setTop (mkF m 190 #[.val (.int p0)] [(.int (1 : Int32))])) _
      exact retN X0 hx (t := .boolean) Bd.returns (by simp) (hb hby own_d1_190) hr
    · show Q1 Z p0 h0 n0 _ s₁.heap _
      rw [e0]
      exact ⟨by rw [own_F1, if_pos hs3], N0, rfl⟩
  ·
    rcases (show (((¬ (p0 < (65 : Int32)) ∧ ¬ ((90 : Int32) < p0)) ∧ own_To p e below s₁ (mkF m 185 #[.val (.int p0)] []) s₁ (mkF m 0 #[.val (.int p0)] [])) ∨ (¬ (¬ (p0 < (65 : Int32)) ∧ ¬ ((90 : Int32) < p0)) ∧ own_To p e below s₁ (mkF m 24 #[.val (.int p0)] []) s₁ (mkF m 0 #[.val (.int p0)] []))) from by
        by_cases hm7 : p0 < (65 : Int32)
        ·
          refine Or.inr ⟨fun w => w.1 hm7, fun t q => k5 t (?_)⟩
          refine XS.iloadN X0.here hx rfl (hb hby own_d1_12) rfl ?_
          show Steps p.tables e below (s₁.setTop (mkF m 13 #[.val (.int p0)] [(.int p0)])) _
          refine XS.bipush X0.here hx rfl (hb hby own_d1_13) ?_
          show Steps p.tables e below (s₁.setTop (mkF m 15 #[.val (.int p0)] [(.int (65 : Int32)), (.int p0)])) _
          refine XS.icmpYes X0.here hx rfl (pc0 := 15) (pc' := 24) rfl (hb hby own_d1_15) rfl (tlt hm7).1 (by decide) (by decide) ?_
          show Steps p.tables e below (s₁.setTop (mkF m 24 #[.val (.int p0)] [])) _
          exact q
        ·
          by_cases hm8 : (90 : Int32) < p0
          ·
            refine Or.inr ⟨fun w => w.2 hm8, fun t q => k5 t (?_)⟩
            refine XS.iloadN X0.here hx rfl (hb hby own_d1_12) rfl ?_
            show Steps p.tables e below (s₁.setTop (mkF m 13 #[.val (.int p0)] [(.int p0)])) _
            refine XS.bipush X0.here hx rfl (hb hby own_d1_13) ?_
            show Steps p.tables e below (s₁.setTop (mkF m 15 #[.val (.int p0)] [(.int (65 : Int32)), (.int p0)])) _
            refine XS.icmpNo X0.here hx rfl (hb hby own_d1_15) rfl (flt hm7).1 ?_
            show Steps p.tables e below (s₁.setTop (mkF m 18 #[.val (.int p0)] [])) _
            refine XS.iloadN X0.here hx rfl (hb hby own_d1_18) rfl ?_
            show Steps p.tables e below (s₁.setTop (mkF m 19 #[.val (.int p0)] [(.int p0)])) _
            refine XS.bipush X0.here hx rfl (hb hby own_d1_19) ?_
            show Steps p.tables e below (s₁.setTop (mkF m 21 #[.val (.int p0)] [(.int (90 : Int32)), (.int p0)])) _
            refine XS.icmpNo X0.here hx rfl (hb hby own_d1_21) rfl (tlt hm8).2.2.2 ?_
            show Steps p.tables e below (s₁.setTop (mkF m 24 #[.val (.int p0)] [])) _
            exact q
          ·
            refine Or.inl ⟨⟨hm7, hm8⟩, fun t q => k5 t (?_)⟩
            refine XS.iloadN X0.here hx rfl (hb hby own_d1_12) rfl ?_
            show Steps p.tables e below (s₁.setTop (mkF m 13 #[.val (.int p0)] [(.int p0)])) _
            refine XS.bipush X0.here hx rfl (hb hby own_d1_13) ?_
            show Steps p.tables e below (s₁.setTop (mkF m 15 #[.val (.int p0)] [(.int (65 : Int32)), (.int p0)])) _
            refine XS.icmpNo X0.here hx rfl (hb hby own_d1_15) rfl (flt hm7).1 ?_
            show Steps p.tables e below (s₁.setTop (mkF m 18 #[.val (.int p0)] [])) _
            refine XS.iloadN X0.here hx rfl (hb hby own_d1_18) rfl ?_
            show Steps p.tables e below (s₁.setTop (mkF m 19 #[.val (.int p0)] [(.int p0)])) _
            refine XS.bipush X0.here hx rfl (hb hby own_d1_19) ?_
            show Steps p.tables e below (s₁.setTop (mkF m 21 #[.val (.int p0)] [(.int (90 : Int32)), (.int p0)])) _
            refine XS.icmpYes X0.here hx rfl (pc0 := 21) (pc' := 185) rfl (hb hby own_d1_21) rfl (flt hm8).2.2.2 (by decide) (by decide) ?_
            show Steps p.tables e below (s₁.setTop (mkF m 185 #[.val (.int p0)] [])) _
            exact q
      ) with ⟨hs9, k10⟩ | ⟨hs9, k11⟩
    ·
      have k12 : own_To p e below s₁ (mkF m 190 #[.val (.int p0)] [(.int (1 : Int32))]) s₁ (mkF m 0 #[.val (.int p0)] []) := fun t q => k10 t (by
        refine XS.iconst X0.here hx rfl (hb hby own_d1_185) ?_
        show Steps p.tables e below (s₁.setTop (mkF m 186 #[.val (.int p0)] [(.int (1 : Int32))])) _
        refine XS.goto X0.here hx rfl (pc0 := 186) (pc' := 190) rfl (hb hby own_d1_186) (by decide) (by decide) ?_
        show Steps p.tables e below (s₁.setTop (mkF m 190 #[.val (.int p0)] [(.int (1 : Int32))])) _
        exact q)
      obtain ⟨fs, hr, hrun, hended, hW, hsame⟩ := X0.leave (v := some (.int (1 : Int32))) (fun h => by rw [Bd.returns] at h; cases h)
      refine ⟨_, _, k0 _ (k12 _ ?_), hrun, hended, _, _, rfl, ?_, ⟨_, rfl⟩, hW, hsame.mono (by decide) (by decide)⟩
      · show Steps p.tables e below (s₁.setTop (mkF m 190 #[.val (.int p0)] [(.int (1 : Int32))])) _
        exact retN X0 hx (t := .boolean) Bd.returns (by simp) (hb hby own_d1_190) hr
      · show Q1 Z p0 h0 n0 _ s₁.heap _
        rw [e0]
        exact ⟨by rw [own_F1, if_neg hs3, if_pos hs9], N0, rfl⟩
    ·
      rcases (show (((¬ (p0 < (192 : Int32)) ∧ ¬ ((214 : Int32) < p0)) ∧ own_To p e below s₁ (mkF m 185 #[.val (.int p0)] []) s₁ (mkF m 0 #[.val (.int p0)] [])) ∨ (¬ (¬ (p0 < (192 : Int32)) ∧ ¬ ((214 : Int32) < p0)) ∧ own_To p e below s₁ (mkF m 38 #[.val (.int p0)] []) s₁ (mkF m 0 #[.val (.int p0)] []))) from by
          by_cases hm13 : p0 < (192 : Int32)
          ·
            refine Or.inr ⟨fun w => w.1 hm13, fun t q => k11 t (?_)⟩
            refine XS.iloadN X0.here hx rfl (hb hby own_d1_24) rfl ?_
            show Steps p.tables e below (s₁.setTop (mkF m 25 #[.val (.int p0)] [(.int p0)])) _
            refine XS.sipush X0.here hx rfl (hb hby own_d1_25) ?_
            show Steps p.tables e below (s₁.setTop (mkF m 28 #[.val (.int p0)] [(.int (192 : Int32)), (.int p0)])) _
            refine XS.icmpYes X0.here hx rfl (pc0 := 28) (pc' := 38) rfl (hb hby own_d1_28) rfl (tlt hm13).1 (by decide) (by decide) ?_
            show Steps p.tables e below (s₁.setTop (mkF m 38 #[.val (.int p0)] [])) _
            exact q
          ·
            by_cases hm14 : (214 : Int32) < p0
            ·
              refine Or.inr ⟨fun w => w.2 hm14, fun t q => k11 t (?_)⟩
              refine XS.iloadN X0.here hx rfl (hb hby own_d1_24) rfl ?_
              show Steps p.tables e below (s₁.setTop (mkF m 25 #[.val (.int p0)] [(.int p0)])) _
              refine XS.sipush X0.here hx rfl (hb hby own_d1_25) ?_
              show Steps p.tables e below (s₁.setTop (mkF m 28 #[.val (.int p0)] [(.int (192 : Int32)), (.int p0)])) _
              refine XS.icmpNo X0.here hx rfl (hb hby own_d1_28) rfl (flt hm13).1 ?_
              show Steps p.tables e below (s₁.setTop (mkF m 31 #[.val (.int p0)] [])) _
              refine XS.iloadN X0.here hx rfl (hb hby own_d1_31) rfl ?_
              show Steps p.tables e below (s₁.setTop (mkF m 32 #[.val (.int p0)] [(.int p0)])) _
              refine XS.sipush X0.here hx rfl (hb hby own_d1_32) ?_
              show Steps p.tables e below (s₁.setTop (mkF m 35 #[.val (.int p0)] [(.int (214 : Int32)), (.int p0)])) _
              refine XS.icmpNo X0.here hx rfl (hb hby own_d1_35) rfl (tlt hm14).2.2.2 ?_
              show Steps p.tables e below (s₁.setTop (mkF m 38 #[.val (.int p0)] [])) _
              exact q
            ·
              refine Or.inl ⟨⟨hm13, hm14⟩, fun t q => k11 t (?_)⟩
              refine XS.iloadN X0.here hx rfl (hb hby own_d1_24) rfl ?_
              show Steps p.tables e below (s₁.setTop (mkF m 25 #[.val (.int p0)] [(.int p0)])) _
              refine XS.sipush X0.here hx rfl (hb hby own_d1_25) ?_
              show Steps p.tables e below (s₁.setTop (mkF m 28 #[.val (.int p0)] [(.int (192 : Int32)), (.int p0)])) _
              refine XS.icmpNo X0.here hx rfl (hb hby own_d1_28) rfl (flt hm13).1 ?_
              show Steps p.tables e below (s₁.setTop (mkF m 31 #[.val (.int p0)] [])) _
              refine XS.iloadN X0.here hx rfl (hb hby own_d1_31) rfl ?_
              show Steps p.tables e below (s₁.setTop (mkF m 32 #[.val (.int p0)] [(.int p0)])) _
              refine XS.sipush X0.here hx rfl (hb hby own_d1_32) ?_
              show Steps p.tables e below (s₁.setTop (mkF m 35 #[.val (.int p0)] [(.int (214 : Int32)), (.int p0)])) _
              refine XS.icmpYes X0.here hx rfl (pc0 := 35) (pc' := 185) rfl (hb hby own_d1_35) rfl (flt hm14).2.2.2 (by decide) (by decide) ?_
              show Steps p.tables e below (s₁.setTop (mkF m 185 #[.val (.int p0)] [])) _
              exact q
        ) with ⟨hs15, k16⟩ | ⟨hs15, k17⟩
      ·
        have k18 : own_To p e below s₁ (mkF m 190 #[.val (.int p0)] [(.int (1 : Int32))]) s₁ (mkF m 0 #[.val (.int p0)] []) := fun t q => k16 t (by
          refine XS.iconst X0.here hx rfl (hb hby own_d1_185) ?_
          show Steps p.tables e below (s₁.setTop (mkF m 186 #[.val (.int p0)] [(.int (1 : Int32))])) _
          refine XS.goto X0.here hx rfl (pc0 := 186) (pc' := 190) rfl (hb hby own_d1_186) (by decide) (by decide) ?_
          show Steps p.tables e below (s₁.setTop (mkF m 190 #[.val (.int p0)] [(.int (1 : Int32))])) _
          exact q)
        obtain ⟨fs, hr, hrun, hended, hW, hsame⟩ := X0.leave (v := some (.int (1 : Int32))) (fun h => by rw [Bd.returns] at h; cases h)
        refine ⟨_, _, k0 _ (k18 _ ?_), hrun, hended, _, _, rfl, ?_, ⟨_, rfl⟩, hW, hsame.mono (by decide) (by decide)⟩
        · show Steps p.tables e below (s₁.setTop (mkF m 190 #[.val (.int p0)] [(.int (1 : Int32))])) _
          exact retN X0 hx (t := .boolean) Bd.returns (by simp) (hb hby own_d1_190) hr
        · show Q1 Z p0 h0 n0 _ s₁.heap _
          rw [e0]
          exact ⟨by rw [own_F1, if_neg hs3, if_neg hs9, if_pos hs15], N0, rfl⟩
      ·
        rcases (show (((¬ (p0 < (216 : Int32)) ∧ ¬ ((246 : Int32) < p0)) ∧ own_To p e below s₁ (mkF m 185 #[.val (.int p0)] []) s₁ (mkF m 0 #[.val (.int p0)] [])) ∨ (¬ (¬ (p0 < (216 : Int32)) ∧ ¬ ((246 : Int32) < p0)) ∧ own_To p e below s₁ (mkF m 52 #[.val (.int p0)] []) s₁ (mkF m 0 #[.val (.int p0)] []))) from by
            by_cases hm19 : p0 < (216 : Int32)
            ·
              refine Or.inr ⟨fun w => w.1 hm19, fun t q => k17 t (?_)⟩
              refine XS.iloadN X0.here hx rfl (hb hby own_d1_38) rfl ?_
              show Steps p.tables e below (s₁.setTop (mkF m 39 #[.val (.int p0)] [(.int p0)])) _
              refine XS.sipush X0.here hx rfl (hb hby own_d1_39) ?_
              show Steps p.tables e below (s₁.setTop (mkF m 42 #[.val (.int p0)] [(.int (216 : Int32)), (.int p0)])) _
              refine XS.icmpYes X0.here hx rfl (pc0 := 42) (pc' := 52) rfl (hb hby own_d1_42) rfl (tlt hm19).1 (by decide) (by decide) ?_
              show Steps p.tables e below (s₁.setTop (mkF m 52 #[.val (.int p0)] [])) _
              exact q
            ·
              by_cases hm20 : (246 : Int32) < p0
              ·
                refine Or.inr ⟨fun w => w.2 hm20, fun t q => k17 t (?_)⟩
                refine XS.iloadN X0.here hx rfl (hb hby own_d1_38) rfl ?_
                show Steps p.tables e below (s₁.setTop (mkF m 39 #[.val (.int p0)] [(.int p0)])) _
                refine XS.sipush X0.here hx rfl (hb hby own_d1_39) ?_
                show Steps p.tables e below (s₁.setTop (mkF m 42 #[.val (.int p0)] [(.int (216 : Int32)), (.int p0)])) _
                refine XS.icmpNo X0.here hx rfl (hb hby own_d1_42) rfl (flt hm19).1 ?_
                show Steps p.tables e below (s₁.setTop (mkF m 45 #[.val (.int p0)] [])) _
                refine XS.iloadN X0.here hx rfl (hb hby own_d1_45) rfl ?_
                show Steps p.tables e below (s₁.setTop (mkF m 46 #[.val (.int p0)] [(.int p0)])) _
                refine XS.sipush X0.here hx rfl (hb hby own_d1_46) ?_
                show Steps p.tables e below (s₁.setTop (mkF m 49 #[.val (.int p0)] [(.int (246 : Int32)), (.int p0)])) _
                refine XS.icmpNo X0.here hx rfl (hb hby own_d1_49) rfl (tlt hm20).2.2.2 ?_
                show Steps p.tables e below (s₁.setTop (mkF m 52 #[.val (.int p0)] [])) _
                exact q
              ·
                refine Or.inl ⟨⟨hm19, hm20⟩, fun t q => k17 t (?_)⟩
                refine XS.iloadN X0.here hx rfl (hb hby own_d1_38) rfl ?_
                show Steps p.tables e below (s₁.setTop (mkF m 39 #[.val (.int p0)] [(.int p0)])) _
                refine XS.sipush X0.here hx rfl (hb hby own_d1_39) ?_
                show Steps p.tables e below (s₁.setTop (mkF m 42 #[.val (.int p0)] [(.int (216 : Int32)), (.int p0)])) _
                refine XS.icmpNo X0.here hx rfl (hb hby own_d1_42) rfl (flt hm19).1 ?_
                show Steps p.tables e below (s₁.setTop (mkF m 45 #[.val (.int p0)] [])) _
                refine XS.iloadN X0.here hx rfl (hb hby own_d1_45) rfl ?_
                show Steps p.tables e below (s₁.setTop (mkF m 46 #[.val (.int p0)] [(.int p0)])) _
                refine XS.sipush X0.here hx rfl (hb hby own_d1_46) ?_
                show Steps p.tables e below (s₁.setTop (mkF m 49 #[.val (.int p0)] [(.int (246 : Int32)), (.int p0)])) _
                refine XS.icmpYes X0.here hx rfl (pc0 := 49) (pc' := 185) rfl (hb hby own_d1_49) rfl (flt hm20).2.2.2 (by decide) (by decide) ?_
                show Steps p.tables e below (s₁.setTop (mkF m 185 #[.val (.int p0)] [])) _
                exact q
          ) with ⟨hs21, k22⟩ | ⟨hs21, k23⟩
        ·
          have k24 : own_To p e below s₁ (mkF m 190 #[.val (.int p0)] [(.int (1 : Int32))]) s₁ (mkF m 0 #[.val (.int p0)] []) := fun t q => k22 t (by
            refine XS.iconst X0.here hx rfl (hb hby own_d1_185) ?_
            show Steps p.tables e below (s₁.setTop (mkF m 186 #[.val (.int p0)] [(.int (1 : Int32))])) _
            refine XS.goto X0.here hx rfl (pc0 := 186) (pc' := 190) rfl (hb hby own_d1_186) (by decide) (by decide) ?_
            show Steps p.tables e below (s₁.setTop (mkF m 190 #[.val (.int p0)] [(.int (1 : Int32))])) _
            exact q)
          obtain ⟨fs, hr, hrun, hended, hW, hsame⟩ := X0.leave (v := some (.int (1 : Int32))) (fun h => by rw [Bd.returns] at h; cases h)
          refine ⟨_, _, k0 _ (k24 _ ?_), hrun, hended, _, _, rfl, ?_, ⟨_, rfl⟩, hW, hsame.mono (by decide) (by decide)⟩
          · show Steps p.tables e below (s₁.setTop (mkF m 190 #[.val (.int p0)] [(.int (1 : Int32))])) _
            exact retN X0 hx (t := .boolean) Bd.returns (by simp) (hb hby own_d1_190) hr
          · show Q1 Z p0 h0 n0 _ s₁.heap _
            rw [e0]
            exact ⟨by rw [own_F1, if_neg hs3, if_neg hs9, if_neg hs15, if_pos hs21], N0, rfl⟩
        ·
          rcases (show (((¬ (p0 < (248 : Int32)) ∧ ¬ ((767 : Int32) < p0)) ∧ own_To p e below s₁ (mkF m 185 #[.val (.int p0)] []) s₁ (mkF m 0 #[.val (.int p0)] [])) ∨ (¬ (¬ (p0 < (248 : Int32)) ∧ ¬ ((767 : Int32) < p0)) ∧ own_To p e below s₁ (mkF m 66 #[.val (.int p0)] []) s₁ (mkF m 0 #[.val (.int p0)] []))) from by
              by_cases hm25 : p0 < (248 : Int32)
              ·
                refine Or.inr ⟨fun w => w.1 hm25, fun t q => k23 t (?_)⟩
                refine XS.iloadN X0.here hx rfl (hb hby own_d1_52) rfl ?_
                show Steps p.tables e below (s₁.setTop (mkF m 53 #[.val (.int p0)] [(.int p0)])) _
                refine XS.sipush X0.here hx rfl (hb hby own_d1_53) ?_
                show Steps p.tables e below (s₁.setTop (mkF m 56 #[.val (.int p0)] [(.int (248 : Int32)), (.int p0)])) _
                refine XS.icmpYes X0.here hx rfl (pc0 := 56) (pc' := 66) rfl (hb hby own_d1_56) rfl (tlt hm25).1 (by decide) (by decide) ?_
                show Steps p.tables e below (s₁.setTop (mkF m 66 #[.val (.int p0)] [])) _
                exact q
              ·
                by_cases hm26 : (767 : Int32) < p0
                ·
                  refine Or.inr ⟨fun w => w.2 hm26, fun t q => k23 t (?_)⟩
                  refine XS.iloadN X0.here hx rfl (hb hby own_d1_52) rfl ?_
                  show Steps p.tables e below (s₁.setTop (mkF m 53 #[.val (.int p0)] [(.int p0)])) _
                  refine XS.sipush X0.here hx rfl (hb hby own_d1_53) ?_
                  show Steps p.tables e below (s₁.setTop (mkF m 56 #[.val (.int p0)] [(.int (248 : Int32)), (.int p0)])) _
                  refine XS.icmpNo X0.here hx rfl (hb hby own_d1_56) rfl (flt hm25).1 ?_
                  show Steps p.tables e below (s₁.setTop (mkF m 59 #[.val (.int p0)] [])) _
                  refine XS.iloadN X0.here hx rfl (hb hby own_d1_59) rfl ?_
                  show Steps p.tables e below (s₁.setTop (mkF m 60 #[.val (.int p0)] [(.int p0)])) _
                  refine XS.sipush X0.here hx rfl (hb hby own_d1_60) ?_
                  show Steps p.tables e below (s₁.setTop (mkF m 63 #[.val (.int p0)] [(.int (767 : Int32)), (.int p0)])) _
                  refine XS.icmpNo X0.here hx rfl (hb hby own_d1_63) rfl (tlt hm26).2.2.2 ?_
                  show Steps p.tables e below (s₁.setTop (mkF m 66 #[.val (.int p0)] [])) _
                  exact q
                ·
                  refine Or.inl ⟨⟨hm25, hm26⟩, fun t q => k23 t (?_)⟩
                  refine XS.iloadN X0.here hx rfl (hb hby own_d1_52) rfl ?_
                  show Steps p.tables e below (s₁.setTop (mkF m 53 #[.val (.int p0)] [(.int p0)])) _
                  refine XS.sipush X0.here hx rfl (hb hby own_d1_53) ?_
                  show Steps p.tables e below (s₁.setTop (mkF m 56 #[.val (.int p0)] [(.int (248 : Int32)), (.int p0)])) _
                  refine XS.icmpNo X0.here hx rfl (hb hby own_d1_56) rfl (flt hm25).1 ?_
                  show Steps p.tables e below (s₁.setTop (mkF m 59 #[.val (.int p0)] [])) _
                  refine XS.iloadN X0.here hx rfl (hb hby own_d1_59) rfl ?_
                  show Steps p.tables e below (s₁.setTop (mkF m 60 #[.val (.int p0)] [(.int p0)])) _
                  refine XS.sipush X0.here hx rfl (hb hby own_d1_60) ?_
                  show Steps p.tables e below (s₁.setTop (mkF m 63 #[.val (.int p0)] [(.int (767 : Int32)), (.int p0)])) _
                  refine XS.icmpYes X0.here hx rfl (pc0 := 63) (pc' := 185) rfl (hb hby own_d1_63) rfl (flt hm26).2.2.2 (by decide) (by decide) ?_
                  show Steps p.tables e below (s₁.setTop (mkF m 185 #[.val (.int p0)] [])) _
                  exact q
            ) with ⟨hs27, k28⟩ | ⟨hs27, k29⟩
          ·
            have k30 : own_To p e below s₁ (mkF m 190 #[.val (.int p0)] [(.int (1 : Int32))]) s₁ (mkF m 0 #[.val (.int p0)] []) := fun t q => k28 t (by
              refine XS.iconst X0.here hx rfl (hb hby own_d1_185) ?_
              show Steps p.tables e below (s₁.setTop (mkF m 186 #[.val (.int p0)] [(.int (1 : Int32))])) _
              refine XS.goto X0.here hx rfl (pc0 := 186) (pc' := 190) rfl (hb hby own_d1_186) (by decide) (by decide) ?_
              show Steps p.tables e below (s₁.setTop (mkF m 190 #[.val (.int p0)] [(.int (1 : Int32))])) _
              exact q)
            obtain ⟨fs, hr, hrun, hended, hW, hsame⟩ := X0.leave (v := some (.int (1 : Int32))) (fun h => by rw [Bd.returns] at h; cases h)
            refine ⟨_, _, k0 _ (k30 _ ?_), hrun, hended, _, _, rfl, ?_, ⟨_, rfl⟩, hW, hsame.mono (by decide) (by decide)⟩
            · show Steps p.tables e below (s₁.setTop (mkF m 190 #[.val (.int p0)] [(.int (1 : Int32))])) _
              exact retN X0 hx (t := .boolean) Bd.returns (by simp) (hb hby own_d1_190) hr
            · show Q1 Z p0 h0 n0 _ s₁.heap _
              rw [e0]
              exact ⟨by rw [own_F1, if_neg hs3, if_neg hs9, if_neg hs15, if_neg hs21, if_pos hs27], N0, rfl⟩
          ·
            rcases (show (((¬ (p0 < (880 : Int32)) ∧ ¬ ((893 : Int32) < p0)) ∧ own_To p e below s₁ (mkF m 185 #[.val (.int p0)] []) s₁ (mkF m 0 #[.val (.int p0)] [])) ∨ (¬ (¬ (p0 < (880 : Int32)) ∧ ¬ ((893 : Int32) < p0)) ∧ own_To p e below s₁ (mkF m 80 #[.val (.int p0)] []) s₁ (mkF m 0 #[.val (.int p0)] []))) from by
                by_cases hm31 : p0 < (880 : Int32)
                ·
                  refine Or.inr ⟨fun w => w.1 hm31, fun t q => k29 t (?_)⟩
                  refine XS.iloadN X0.here hx rfl (hb hby own_d1_66) rfl ?_
                  show Steps p.tables e below (s₁.setTop (mkF m 67 #[.val (.int p0)] [(.int p0)])) _
                  refine XS.sipush X0.here hx rfl (hb hby own_d1_67) ?_
                  show Steps p.tables e below (s₁.setTop (mkF m 70 #[.val (.int p0)] [(.int (880 : Int32)), (.int p0)])) _
                  refine XS.icmpYes X0.here hx rfl (pc0 := 70) (pc' := 80) rfl (hb hby own_d1_70) rfl (tlt hm31).1 (by decide) (by decide) ?_
                  show Steps p.tables e below (s₁.setTop (mkF m 80 #[.val (.int p0)] [])) _
                  exact q
                ·
                  by_cases hm32 : (893 : Int32) < p0
                  ·
                    refine Or.inr ⟨fun w => w.2 hm32, fun t q => k29 t (?_)⟩
                    refine XS.iloadN X0.here hx rfl (hb hby own_d1_66) rfl ?_
                    show Steps p.tables e below (s₁.setTop (mkF m 67 #[.val (.int p0)] [(.int p0)])) _
                    refine XS.sipush X0.here hx rfl (hb hby own_d1_67) ?_
                    show Steps p.tables e below (s₁.setTop (mkF m 70 #[.val (.int p0)] [(.int (880 : Int32)), (.int p0)])) _
                    refine XS.icmpNo X0.here hx rfl (hb hby own_d1_70) rfl (flt hm31).1 ?_
                    show Steps p.tables e below (s₁.setTop (mkF m 73 #[.val (.int p0)] [])) _
                    refine XS.iloadN X0.here hx rfl (hb hby own_d1_73) rfl ?_
                    show Steps p.tables e below (s₁.setTop (mkF m 74 #[.val (.int p0)] [(.int p0)])) _
                    refine XS.sipush X0.here hx rfl (hb hby own_d1_74) ?_
                    show Steps p.tables e below (s₁.setTop (mkF m 77 #[.val (.int p0)] [(.int (893 : Int32)), (.int p0)])) _
                    refine XS.icmpNo X0.here hx rfl (hb hby own_d1_77) rfl (tlt hm32).2.2.2 ?_
                    show Steps p.tables e below (s₁.setTop (mkF m 80 #[.val (.int p0)] [])) _
                    exact q
                  ·
                    refine Or.inl ⟨⟨hm31, hm32⟩, fun t q => k29 t (?_)⟩
                    refine XS.iloadN X0.here hx rfl (hb hby own_d1_66) rfl ?_
                    show Steps p.tables e below (s₁.setTop (mkF m 67 #[.val (.int p0)] [(.int p0)])) _
                    refine XS.sipush X0.here hx rfl (hb hby own_d1_67) ?_
                    show Steps p.tables e below (s₁.setTop (mkF m 70 #[.val (.int p0)] [(.int (880 : Int32)), (.int p0)])) _
                    refine XS.icmpNo X0.here hx rfl (hb hby own_d1_70) rfl (flt hm31).1 ?_
                    show Steps p.tables e below (s₁.setTop (mkF m 73 #[.val (.int p0)] [])) _
                    refine XS.iloadN X0.here hx rfl (hb hby own_d1_73) rfl ?_
                    show Steps p.tables e below (s₁.setTop (mkF m 74 #[.val (.int p0)] [(.int p0)])) _
                    refine XS.sipush X0.here hx rfl (hb hby own_d1_74) ?_
                    show Steps p.tables e below (s₁.setTop (mkF m 77 #[.val (.int p0)] [(.int (893 : Int32)), (.int p0)])) _
                    refine XS.icmpYes X0.here hx rfl (pc0 := 77) (pc' := 185) rfl (hb hby own_d1_77) rfl (flt hm32).2.2.2 (by decide) (by decide) ?_
                    show Steps p.tables e below (s₁.setTop (mkF m 185 #[.val (.int p0)] [])) _
                    exact q
              ) with ⟨hs33, k34⟩ | ⟨hs33, k35⟩
            ·
              have k36 : own_To p e below s₁ (mkF m 190 #[.val (.int p0)] [(.int (1 : Int32))]) s₁ (mkF m 0 #[.val (.int p0)] []) := fun t q => k34 t (by
                refine XS.iconst X0.here hx rfl (hb hby own_d1_185) ?_
                show Steps p.tables e below (s₁.setTop (mkF m 186 #[.val (.int p0)] [(.int (1 : Int32))])) _
                refine XS.goto X0.here hx rfl (pc0 := 186) (pc' := 190) rfl (hb hby own_d1_186) (by decide) (by decide) ?_
                show Steps p.tables e below (s₁.setTop (mkF m 190 #[.val (.int p0)] [(.int (1 : Int32))])) _
                exact q)
              obtain ⟨fs, hr, hrun, hended, hW, hsame⟩ := X0.leave (v := some (.int (1 : Int32))) (fun h => by rw [Bd.returns] at h; cases h)
              refine ⟨_, _, k0 _ (k36 _ ?_), hrun, hended, _, _, rfl, ?_, ⟨_, rfl⟩, hW, hsame.mono (by decide) (by decide)⟩
              · show Steps p.tables e below (s₁.setTop (mkF m 190 #[.val (.int p0)] [(.int (1 : Int32))])) _
                exact retN X0 hx (t := .boolean) Bd.returns (by simp) (hb hby own_d1_190) hr
              · show Q1 Z p0 h0 n0 _ s₁.heap _
                rw [e0]
                exact ⟨by rw [own_F1, if_neg hs3, if_neg hs9, if_neg hs15, if_neg hs21, if_neg hs27, if_pos hs33], N0, rfl⟩
            ·
              rcases (show (((¬ (p0 < (895 : Int32)) ∧ ¬ ((8191 : Int32) < p0)) ∧ own_To p e below s₁ (mkF m 185 #[.val (.int p0)] []) s₁ (mkF m 0 #[.val (.int p0)] [])) ∨ (¬ (¬ (p0 < (895 : Int32)) ∧ ¬ ((8191 : Int32) < p0)) ∧ own_To p e below s₁ (mkF m 94 #[.val (.int p0)] []) s₁ (mkF m 0 #[.val (.int p0)] []))) from by
                  by_cases hm37 : p0 < (895 : Int32)
                  ·
                    refine Or.inr ⟨fun w => w.1 hm37, fun t q => k35 t (?_)⟩
                    refine XS.iloadN X0.here hx rfl (hb hby own_d1_80) rfl ?_
                    show Steps p.tables e below (s₁.setTop (mkF m 81 #[.val (.int p0)] [(.int p0)])) _
                    refine XS.sipush X0.here hx rfl (hb hby own_d1_81) ?_
                    show Steps p.tables e below (s₁.setTop (mkF m 84 #[.val (.int p0)] [(.int (895 : Int32)), (.int p0)])) _
                    refine XS.icmpYes X0.here hx rfl (pc0 := 84) (pc' := 94) rfl (hb hby own_d1_84) rfl (tlt hm37).1 (by decide) (by decide) ?_
                    show Steps p.tables e below (s₁.setTop (mkF m 94 #[.val (.int p0)] [])) _
                    exact q
                  ·
                    by_cases hm38 : (8191 : Int32) < p0
                    ·
                      refine Or.inr ⟨fun w => w.2 hm38, fun t q => k35 t (?_)⟩
                      refine XS.iloadN X0.here hx rfl (hb hby own_d1_80) rfl ?_
                      show Steps p.tables e below (s₁.setTop (mkF m 81 #[.val (.int p0)] [(.int p0)])) _
                      refine XS.sipush X0.here hx rfl (hb hby own_d1_81) ?_
                      show Steps p.tables e below (s₁.setTop (mkF m 84 #[.val (.int p0)] [(.int (895 : Int32)), (.int p0)])) _
                      refine XS.icmpNo X0.here hx rfl (hb hby own_d1_84) rfl (flt hm37).1 ?_
                      show Steps p.tables e below (s₁.setTop (mkF m 87 #[.val (.int p0)] [])) _
                      refine XS.iloadN X0.here hx rfl (hb hby own_d1_87) rfl ?_
                      show Steps p.tables e below (s₁.setTop (mkF m 88 #[.val (.int p0)] [(.int p0)])) _
                      refine XS.sipush X0.here hx rfl (hb hby own_d1_88) ?_
                      show Steps p.tables e below (s₁.setTop (mkF m 91 #[.val (.int p0)] [(.int (8191 : Int32)), (.int p0)])) _
                      refine XS.icmpNo X0.here hx rfl (hb hby own_d1_91) rfl (tlt hm38).2.2.2 ?_
                      show Steps p.tables e below (s₁.setTop (mkF m 94 #[.val (.int p0)] [])) _
                      exact q
                    ·
                      refine Or.inl ⟨⟨hm37, hm38⟩, fun t q => k35 t (?_)⟩
                      refine XS.iloadN X0.here hx rfl (hb hby own_d1_80) rfl ?_
                      show Steps p.tables e below (s₁.setTop (mkF m 81 #[.val (.int p0)] [(.int p0)])) _
                      refine XS.sipush X0.here hx rfl (hb hby own_d1_81) ?_
                      show Steps p.tables e below (s₁.setTop (mkF m 84 #[.val (.int p0)] [(.int (895 : Int32)), (.int p0)])) _
                      refine XS.icmpNo X0.here hx rfl (hb hby own_d1_84) rfl (flt hm37).1 ?_
                      show Steps p.tables e below (s₁.setTop (mkF m 87 #[.val (.int p0)] [])) _
                      refine XS.iloadN X0.here hx rfl (hb hby own_d1_87) rfl ?_
                      show Steps p.tables e below (s₁.setTop (mkF m 88 #[.val (.int p0)] [(.int p0)])) _
                      refine XS.sipush X0.here hx rfl (hb hby own_d1_88) ?_
                      show Steps p.tables e below (s₁.setTop (mkF m 91 #[.val (.int p0)] [(.int (8191 : Int32)), (.int p0)])) _
                      refine XS.icmpYes X0.here hx rfl (pc0 := 91) (pc' := 185) rfl (hb hby own_d1_91) rfl (flt hm38).2.2.2 (by decide) (by decide) ?_
                      show Steps p.tables e below (s₁.setTop (mkF m 185 #[.val (.int p0)] [])) _
                      exact q
                ) with ⟨hs39, k40⟩ | ⟨hs39, k41⟩
              ·
                have k42 : own_To p e below s₁ (mkF m 190 #[.val (.int p0)] [(.int (1 : Int32))]) s₁ (mkF m 0 #[.val (.int p0)] []) := fun t q => k40 t (by
                  refine XS.iconst X0.here hx rfl (hb hby own_d1_185) ?_
                  show Steps p.tables e below (s₁.setTop (mkF m 186 #[.val (.int p0)] [(.int (1 : Int32))])) _
                  refine XS.goto X0.here hx rfl (pc0 := 186) (pc' := 190) rfl (hb hby own_d1_186) (by decide) (by decide) ?_
                  show Steps p.tables e below (s₁.setTop (mkF m 190 #[.val (.int p0)] [(.int (1 : Int32))])) _
                  exact q)
                obtain ⟨fs, hr, hrun, hended, hW, hsame⟩ := X0.leave (v := some (.int (1 : Int32))) (fun h => by rw [Bd.returns] at h; cases h)
                refine ⟨_, _, k0 _ (k42 _ ?_), hrun, hended, _, _, rfl, ?_, ⟨_, rfl⟩, hW, hsame.mono (by decide) (by decide)⟩
                · show Steps p.tables e below (s₁.setTop (mkF m 190 #[.val (.int p0)] [(.int (1 : Int32))])) _
                  exact retN X0 hx (t := .boolean) Bd.returns (by simp) (hb hby own_d1_190) hr
                · show Q1 Z p0 h0 n0 _ s₁.heap _
                  rw [e0]
                  exact ⟨by rw [own_F1, if_neg hs3, if_neg hs9, if_neg hs15, if_neg hs21, if_neg hs27, if_neg hs33, if_pos hs39], N0, rfl⟩
              ·
                rcases (show (((¬ (p0 < (8204 : Int32)) ∧ ¬ ((8205 : Int32) < p0)) ∧ own_To p e below s₁ (mkF m 185 #[.val (.int p0)] []) s₁ (mkF m 0 #[.val (.int p0)] [])) ∨ (¬ (¬ (p0 < (8204 : Int32)) ∧ ¬ ((8205 : Int32) < p0)) ∧ own_To p e below s₁ (mkF m 108 #[.val (.int p0)] []) s₁ (mkF m 0 #[.val (.int p0)] []))) from by
                    by_cases hm43 : p0 < (8204 : Int32)
                    ·
                      refine Or.inr ⟨fun w => w.1 hm43, fun t q => k41 t (?_)⟩
                      refine XS.iloadN X0.here hx rfl (hb hby own_d1_94) rfl ?_
                      show Steps p.tables e below (s₁.setTop (mkF m 95 #[.val (.int p0)] [(.int p0)])) _
                      refine XS.sipush X0.here hx rfl (hb hby own_d1_95) ?_
                      show Steps p.tables e below (s₁.setTop (mkF m 98 #[.val (.int p0)] [(.int (8204 : Int32)), (.int p0)])) _
                      refine XS.icmpYes X0.here hx rfl (pc0 := 98) (pc' := 108) rfl (hb hby own_d1_98) rfl (tlt hm43).1 (by decide) (by decide) ?_
                      show Steps p.tables e below (s₁.setTop (mkF m 108 #[.val (.int p0)] [])) _
                      exact q
                    ·
                      by_cases hm44 : (8205 : Int32) < p0
                      ·
                        refine Or.inr ⟨fun w => w.2 hm44, fun t q => k41 t (?_)⟩
                        refine XS.iloadN X0.here hx rfl (hb hby own_d1_94) rfl ?_
                        show Steps p.tables e below (s₁.setTop (mkF m 95 #[.val (.int p0)] [(.int p0)])) _
                        refine XS.sipush X0.here hx rfl (hb hby own_d1_95) ?_
                        show Steps p.tables e below (s₁.setTop (mkF m 98 #[.val (.int p0)] [(.int (8204 : Int32)), (.int p0)])) _
                        refine XS.icmpNo X0.here hx rfl (hb hby own_d1_98) rfl (flt hm43).1 ?_
                        show Steps p.tables e below (s₁.setTop (mkF m 101 #[.val (.int p0)] [])) _
                        refine XS.iloadN X0.here hx rfl (hb hby own_d1_101) rfl ?_
                        show Steps p.tables e below (s₁.setTop (mkF m 102 #[.val (.int p0)] [(.int p0)])) _
                        refine XS.sipush X0.here hx rfl (hb hby own_d1_102) ?_
                        show Steps p.tables e below (s₁.setTop (mkF m 105 #[.val (.int p0)] [(.int (8205 : Int32)), (.int p0)])) _
                        refine XS.icmpNo X0.here hx rfl (hb hby own_d1_105) rfl (tlt hm44).2.2.2 ?_
                        show Steps p.tables e below (s₁.setTop (mkF m 108 #[.val (.int p0)] [])) _
                        exact q
                      ·
                        refine Or.inl ⟨⟨hm43, hm44⟩, fun t q => k41 t (?_)⟩
                        refine XS.iloadN X0.here hx rfl (hb hby own_d1_94) rfl ?_
                        show Steps p.tables e below (s₁.setTop (mkF m 95 #[.val (.int p0)] [(.int p0)])) _
                        refine XS.sipush X0.here hx rfl (hb hby own_d1_95) ?_
                        show Steps p.tables e below (s₁.setTop (mkF m 98 #[.val (.int p0)] [(.int (8204 : Int32)), (.int p0)])) _
                        refine XS.icmpNo X0.here hx rfl (hb hby own_d1_98) rfl (flt hm43).1 ?_
                        show Steps p.tables e below (s₁.setTop (mkF m 101 #[.val (.int p0)] [])) _
                        refine XS.iloadN X0.here hx rfl (hb hby own_d1_101) rfl ?_
                        show Steps p.tables e below (s₁.setTop (mkF m 102 #[.val (.int p0)] [(.int p0)])) _
                        refine XS.sipush X0.here hx rfl (hb hby own_d1_102) ?_
                        show Steps p.tables e below (s₁.setTop (mkF m 105 #[.val (.int p0)] [(.int (8205 : Int32)), (.int p0)])) _
                        refine XS.icmpYes X0.here hx rfl (pc0 := 105) (pc' := 185) rfl (hb hby own_d1_105) rfl (flt hm44).2.2.2 (by decide) (by decide) ?_
                        show Steps p.tables e below (s₁.setTop (mkF m 185 #[.val (.int p0)] [])) _
                        exact q
                  ) with ⟨hs45, k46⟩ | ⟨hs45, k47⟩
                ·
                  have k48 : own_To p e below s₁ (mkF m 190 #[.val (.int p0)] [(.int (1 : Int32))]) s₁ (mkF m 0 #[.val (.int p0)] []) := fun t q => k46 t (by
                    refine XS.iconst X0.here hx rfl (hb hby own_d1_185) ?_
                    show Steps p.tables e below (s₁.setTop (mkF m 186 #[.val (.int p0)] [(.int (1 : Int32))])) _
                    refine XS.goto X0.here hx rfl (pc0 := 186) (pc' := 190) rfl (hb hby own_d1_186) (by decide) (by decide) ?_
                    show Steps p.tables e below (s₁.setTop (mkF m 190 #[.val (.int p0)] [(.int (1 : Int32))])) _
                    exact q)
                  obtain ⟨fs, hr, hrun, hended, hW, hsame⟩ := X0.leave (v := some (.int (1 : Int32))) (fun h => by rw [Bd.returns] at h; cases h)
                  refine ⟨_, _, k0 _ (k48 _ ?_), hrun, hended, _, _, rfl, ?_, ⟨_, rfl⟩, hW, hsame.mono (by decide) (by decide)⟩
                  · show Steps p.tables e below (s₁.setTop (mkF m 190 #[.val (.int p0)] [(.int (1 : Int32))])) _
                    exact retN X0 hx (t := .boolean) Bd.returns (by simp) (hb hby own_d1_190) hr
                  · show Q1 Z p0 h0 n0 _ s₁.heap _
                    rw [e0]
                    exact ⟨by rw [own_F1, if_neg hs3, if_neg hs9, if_neg hs15, if_neg hs21, if_neg hs27, if_neg hs33, if_neg hs39, if_pos hs45], N0, rfl⟩
                ·
                  rcases (show (((¬ (p0 < (8304 : Int32)) ∧ ¬ ((8591 : Int32) < p0)) ∧ own_To p e below s₁ (mkF m 185 #[.val (.int p0)] []) s₁ (mkF m 0 #[.val (.int p0)] [])) ∨ (¬ (¬ (p0 < (8304 : Int32)) ∧ ¬ ((8591 : Int32) < p0)) ∧ own_To p e below s₁ (mkF m 122 #[.val (.int p0)] []) s₁ (mkF m 0 #[.val (.int p0)] []))) from by
                      by_cases hm49 : p0 < (8304 : Int32)
                      ·
                        refine Or.inr ⟨fun w => w.1 hm49, fun t q => k47 t (?_)⟩
                        refine XS.iloadN X0.here hx rfl (hb hby own_d1_108) rfl ?_
                        show Steps p.tables e below (s₁.setTop (mkF m 109 #[.val (.int p0)] [(.int p0)])) _
                        refine XS.sipush X0.here hx rfl (hb hby own_d1_109) ?_
                        show Steps p.tables e below (s₁.setTop (mkF m 112 #[.val (.int p0)] [(.int (8304 : Int32)), (.int p0)])) _
                        refine XS.icmpYes X0.here hx rfl (pc0 := 112) (pc' := 122) rfl (hb hby own_d1_112) rfl (tlt hm49).1 (by decide) (by decide) ?_
                        show Steps p.tables e below (s₁.setTop (mkF m 122 #[.val (.int p0)] [])) _
                        exact q
                      ·
                        by_cases hm50 : (8591 : Int32) < p0
                        ·
                          refine Or.inr ⟨fun w => w.2 hm50, fun t q => k47 t (?_)⟩
                          refine XS.iloadN X0.here hx rfl (hb hby own_d1_108) rfl ?_
                          show Steps p.tables e below (s₁.setTop (mkF m 109 #[.val (.int p0)] [(.int p0)])) _
                          refine XS.sipush X0.here hx rfl (hb hby own_d1_109) ?_
                          show Steps p.tables e below (s₁.setTop (mkF m 112 #[.val (.int p0)] [(.int (8304 : Int32)), (.int p0)])) _
                          refine XS.icmpNo X0.here hx rfl (hb hby own_d1_112) rfl (flt hm49).1 ?_
                          show Steps p.tables e below (s₁.setTop (mkF m 115 #[.val (.int p0)] [])) _
                          refine XS.iloadN X0.here hx rfl (hb hby own_d1_115) rfl ?_
                          show Steps p.tables e below (s₁.setTop (mkF m 116 #[.val (.int p0)] [(.int p0)])) _
                          refine XS.sipush X0.here hx rfl (hb hby own_d1_116) ?_
                          show Steps p.tables e below (s₁.setTop (mkF m 119 #[.val (.int p0)] [(.int (8591 : Int32)), (.int p0)])) _
                          refine XS.icmpNo X0.here hx rfl (hb hby own_d1_119) rfl (tlt hm50).2.2.2 ?_
                          show Steps p.tables e below (s₁.setTop (mkF m 122 #[.val (.int p0)] [])) _
                          exact q
                        ·
                          refine Or.inl ⟨⟨hm49, hm50⟩, fun t q => k47 t (?_)⟩
                          refine XS.iloadN X0.here hx rfl (hb hby own_d1_108) rfl ?_
                          show Steps p.tables e below (s₁.setTop (mkF m 109 #[.val (.int p0)] [(.int p0)])) _
                          refine XS.sipush X0.here hx rfl (hb hby own_d1_109) ?_
                          show Steps p.tables e below (s₁.setTop (mkF m 112 #[.val (.int p0)] [(.int (8304 : Int32)), (.int p0)])) _
                          refine XS.icmpNo X0.here hx rfl (hb hby own_d1_112) rfl (flt hm49).1 ?_
                          show Steps p.tables e below (s₁.setTop (mkF m 115 #[.val (.int p0)] [])) _
                          refine XS.iloadN X0.here hx rfl (hb hby own_d1_115) rfl ?_
                          show Steps p.tables e below (s₁.setTop (mkF m 116 #[.val (.int p0)] [(.int p0)])) _
                          refine XS.sipush X0.here hx rfl (hb hby own_d1_116) ?_
                          show Steps p.tables e below (s₁.setTop (mkF m 119 #[.val (.int p0)] [(.int (8591 : Int32)), (.int p0)])) _
                          refine XS.icmpYes X0.here hx rfl (pc0 := 119) (pc' := 185) rfl (hb hby own_d1_119) rfl (flt hm50).2.2.2 (by decide) (by decide) ?_
                          show Steps p.tables e below (s₁.setTop (mkF m 185 #[.val (.int p0)] [])) _
                          exact q
                    ) with ⟨hs51, k52⟩ | ⟨hs51, k53⟩
                  ·
                    have k54 : own_To p e below s₁ (mkF m 190 #[.val (.int p0)] [(.int (1 : Int32))]) s₁ (mkF m 0 #[.val (.int p0)] []) := fun t q => k52 t (by
                      refine XS.iconst X0.here hx rfl (hb hby own_d1_185) ?_
                      show Steps p.tables e below (s₁.setTop (mkF m 186 #[.val (.int p0)] [(.int (1 : Int32))])) _
                      refine XS.goto X0.here hx rfl (pc0 := 186) (pc' := 190) rfl (hb hby own_d1_186) (by decide) (by decide) ?_
                      show Steps p.tables e below (s₁.setTop (mkF m 190 #[.val (.int p0)] [(.int (1 : Int32))])) _
                      exact q)
                    obtain ⟨fs, hr, hrun, hended, hW, hsame⟩ := X0.leave (v := some (.int (1 : Int32))) (fun h => by rw [Bd.returns] at h; cases h)
                    refine ⟨_, _, k0 _ (k54 _ ?_), hrun, hended, _, _, rfl, ?_, ⟨_, rfl⟩, hW, hsame.mono (by decide) (by decide)⟩
                    · show Steps p.tables e below (s₁.setTop (mkF m 190 #[.val (.int p0)] [(.int (1 : Int32))])) _
                      exact retN X0 hx (t := .boolean) Bd.returns (by simp) (hb hby own_d1_190) hr
                    · show Q1 Z p0 h0 n0 _ s₁.heap _
                      rw [e0]
                      exact ⟨by rw [own_F1, if_neg hs3, if_neg hs9, if_neg hs15, if_neg hs21, if_neg hs27, if_neg hs33, if_neg hs39, if_neg hs45, if_pos hs51], N0, rfl⟩
                  ·
                    rcases (show (((¬ (p0 < (11264 : Int32)) ∧ ¬ ((12271 : Int32) < p0)) ∧ own_To p e below s₁ (mkF m 185 #[.val (.int p0)] []) s₁ (mkF m 0 #[.val (.int p0)] [])) ∨ (¬ (¬ (p0 < (11264 : Int32)) ∧ ¬ ((12271 : Int32) < p0)) ∧ own_To p e below s₁ (mkF m 136 #[.val (.int p0)] []) s₁ (mkF m 0 #[.val (.int p0)] []))) from by
                        by_cases hm55 : p0 < (11264 : Int32)
                        ·
                          refine Or.inr ⟨fun w => w.1 hm55, fun t q => k53 t (?_)⟩
                          refine XS.iloadN X0.here hx rfl (hb hby own_d1_122) rfl ?_
                          show Steps p.tables e below (s₁.setTop (mkF m 123 #[.val (.int p0)] [(.int p0)])) _
                          refine XS.sipush X0.here hx rfl (hb hby own_d1_123) ?_
                          show Steps p.tables e below (s₁.setTop (mkF m 126 #[.val (.int p0)] [(.int (11264 : Int32)), (.int p0)])) _
                          refine XS.icmpYes X0.here hx rfl (pc0 := 126) (pc' := 136) rfl (hb hby own_d1_126) rfl (tlt hm55).1 (by decide) (by decide) ?_
                          show Steps p.tables e below (s₁.setTop (mkF m 136 #[.val (.int p0)] [])) _
                          exact q
                        ·
                          by_cases hm56 : (12271 : Int32) < p0
                          ·
                            refine Or.inr ⟨fun w => w.2 hm56, fun t q => k53 t (?_)⟩
                            refine XS.iloadN X0.here hx rfl (hb hby own_d1_122) rfl ?_
                            show Steps p.tables e below (s₁.setTop (mkF m 123 #[.val (.int p0)] [(.int p0)])) _
                            refine XS.sipush X0.here hx rfl (hb hby own_d1_123) ?_
                            show Steps p.tables e below (s₁.setTop (mkF m 126 #[.val (.int p0)] [(.int (11264 : Int32)), (.int p0)])) _
                            refine XS.icmpNo X0.here hx rfl (hb hby own_d1_126) rfl (flt hm55).1 ?_
                            show Steps p.tables e below (s₁.setTop (mkF m 129 #[.val (.int p0)] [])) _
                            refine XS.iloadN X0.here hx rfl (hb hby own_d1_129) rfl ?_
                            show Steps p.tables e below (s₁.setTop (mkF m 130 #[.val (.int p0)] [(.int p0)])) _
                            refine XS.sipush X0.here hx rfl (hb hby own_d1_130) ?_
                            show Steps p.tables e below (s₁.setTop (mkF m 133 #[.val (.int p0)] [(.int (12271 : Int32)), (.int p0)])) _
                            refine XS.icmpNo X0.here hx rfl (hb hby own_d1_133) rfl (tlt hm56).2.2.2 ?_
                            show Steps p.tables e below (s₁.setTop (mkF m 136 #[.val (.int p0)] [])) _
                            exact q
                          ·
                            refine Or.inl ⟨⟨hm55, hm56⟩, fun t q => k53 t (?_)⟩
                            refine XS.iloadN X0.here hx rfl (hb hby own_d1_122) rfl ?_
                            show Steps p.tables e below (s₁.setTop (mkF m 123 #[.val (.int p0)] [(.int p0)])) _
                            refine XS.sipush X0.here hx rfl (hb hby own_d1_123) ?_
                            show Steps p.tables e below (s₁.setTop (mkF m 126 #[.val (.int p0)] [(.int (11264 : Int32)), (.int p0)])) _
                            refine XS.icmpNo X0.here hx rfl (hb hby own_d1_126) rfl (flt hm55).1 ?_
                            show Steps p.tables e below (s₁.setTop (mkF m 129 #[.val (.int p0)] [])) _
                            refine XS.iloadN X0.here hx rfl (hb hby own_d1_129) rfl ?_
                            show Steps p.tables e below (s₁.setTop (mkF m 130 #[.val (.int p0)] [(.int p0)])) _
                            refine XS.sipush X0.here hx rfl (hb hby own_d1_130) ?_
                            show Steps p.tables e below (s₁.setTop (mkF m 133 #[.val (.int p0)] [(.int (12271 : Int32)), (.int p0)])) _
                            refine XS.icmpYes X0.here hx rfl (pc0 := 133) (pc' := 185) rfl (hb hby own_d1_133) rfl (flt hm56).2.2.2 (by decide) (by decide) ?_
                            show Steps p.tables e below (s₁.setTop (mkF m 185 #[.val (.int p0)] [])) _
                            exact q
                      ) with ⟨hs57, k58⟩ | ⟨hs57, k59⟩
                    ·
                      have k60 : own_To p e below s₁ (mkF m 190 #[.val (.int p0)] [(.int (1 : Int32))]) s₁ (mkF m 0 #[.val (.int p0)] []) := fun t q => k58 t (by
                        refine XS.iconst X0.here hx rfl (hb hby own_d1_185) ?_
                        show Steps p.tables e below (s₁.setTop (mkF m 186 #[.val (.int p0)] [(.int (1 : Int32))])) _
                        refine XS.goto X0.here hx rfl (pc0 := 186) (pc' := 190) rfl (hb hby own_d1_186) (by decide) (by decide) ?_
                        show Steps p.tables e below (s₁.setTop (mkF m 190 #[.val (.int p0)] [(.int (1 : Int32))])) _
                        exact q)
                      obtain ⟨fs, hr, hrun, hended, hW, hsame⟩ := X0.leave (v := some (.int (1 : Int32))) (fun h => by rw [Bd.returns] at h; cases h)
                      refine ⟨_, _, k0 _ (k60 _ ?_), hrun, hended, _, _, rfl, ?_, ⟨_, rfl⟩, hW, hsame.mono (by decide) (by decide)⟩
                      · show Steps p.tables e below (s₁.setTop (mkF m 190 #[.val (.int p0)] [(.int (1 : Int32))])) _
                        exact retN X0 hx (t := .boolean) Bd.returns (by simp) (hb hby own_d1_190) hr
                      · show Q1 Z p0 h0 n0 _ s₁.heap _
                        rw [e0]
                        exact ⟨by rw [own_F1, if_neg hs3, if_neg hs9, if_neg hs15, if_neg hs21, if_neg hs27, if_neg hs33, if_neg hs39, if_neg hs45, if_neg hs51, if_pos hs57], N0, rfl⟩
                    ·
                      rcases (show (((¬ (p0 < (12289 : Int32)) ∧ ¬ ((55295 : Int32) < p0)) ∧ own_To p e below s₁ (mkF m 185 #[.val (.int p0)] []) s₁ (mkF m 0 #[.val (.int p0)] [])) ∨ (¬ (¬ (p0 < (12289 : Int32)) ∧ ¬ ((55295 : Int32) < p0)) ∧ own_To p e below s₁ (mkF m 149 #[.val (.int p0)] []) s₁ (mkF m 0 #[.val (.int p0)] []))) from by
                          by_cases hm61 : p0 < (12289 : Int32)
                          ·
                            refine Or.inr ⟨fun w => w.1 hm61, fun t q => k59 t (?_)⟩
                            refine XS.iloadN X0.here hx rfl (hb hby own_d1_136) rfl ?_
                            show Steps p.tables e below (s₁.setTop (mkF m 137 #[.val (.int p0)] [(.int p0)])) _
                            refine XS.sipush X0.here hx rfl (hb hby own_d1_137) ?_
                            show Steps p.tables e below (s₁.setTop (mkF m 140 #[.val (.int p0)] [(.int (12289 : Int32)), (.int p0)])) _
                            refine XS.icmpYes X0.here hx rfl (pc0 := 140) (pc' := 149) rfl (hb hby own_d1_140) rfl (tlt hm61).1 (by decide) (by decide) ?_
                            show Steps p.tables e below (s₁.setTop (mkF m 149 #[.val (.int p0)] [])) _
                            exact q
                          ·
                            by_cases hm62 : (55295 : Int32) < p0
                            ·
                              refine Or.inr ⟨fun w => w.2 hm62, fun t q => k59 t (?_)⟩
                              refine XS.iloadN X0.here hx rfl (hb hby own_d1_136) rfl ?_
                              show Steps p.tables e below (s₁.setTop (mkF m 137 #[.val (.int p0)] [(.int p0)])) _
                              refine XS.sipush X0.here hx rfl (hb hby own_d1_137) ?_
                              show Steps p.tables e below (s₁.setTop (mkF m 140 #[.val (.int p0)] [(.int (12289 : Int32)), (.int p0)])) _
                              refine XS.icmpNo X0.here hx rfl (hb hby own_d1_140) rfl (flt hm61).1 ?_
                              show Steps p.tables e below (s₁.setTop (mkF m 143 #[.val (.int p0)] [])) _
                              refine XS.iloadN X0.here hx rfl (hb hby own_d1_143) rfl ?_
                              show Steps p.tables e below (s₁.setTop (mkF m 144 #[.val (.int p0)] [(.int p0)])) _
                              refine X0.ldcInt hx hown (mvT hZ (hw _ (List.mem_of_getElem? (i := 29) rfl))) (g := (mkF m 144 #[.val (.int p0)] [(.int p0)])) rfl (hb hby own_d1_144) _ ?_
                              show Steps p.tables e below (s₁.setTop (mkF m 146 #[.val (.int p0)] [(.int (55295 : Int32)), (.int p0)])) _
                              refine XS.icmpNo X0.here hx rfl (hb hby own_d1_146) rfl (tlt hm62).2.2.2 ?_
                              show Steps p.tables e below (s₁.setTop (mkF m 149 #[.val (.int p0)] [])) _
                              exact q
                            ·
                              refine Or.inl ⟨⟨hm61, hm62⟩, fun t q => k59 t (?_)⟩
                              refine XS.iloadN X0.here hx rfl (hb hby own_d1_136) rfl ?_
                              show Steps p.tables e below (s₁.setTop (mkF m 137 #[.val (.int p0)] [(.int p0)])) _
                              refine XS.sipush X0.here hx rfl (hb hby own_d1_137) ?_
                              show Steps p.tables e below (s₁.setTop (mkF m 140 #[.val (.int p0)] [(.int (12289 : Int32)), (.int p0)])) _
                              refine XS.icmpNo X0.here hx rfl (hb hby own_d1_140) rfl (flt hm61).1 ?_
                              show Steps p.tables e below (s₁.setTop (mkF m 143 #[.val (.int p0)] [])) _
                              refine XS.iloadN X0.here hx rfl (hb hby own_d1_143) rfl ?_
                              show Steps p.tables e below (s₁.setTop (mkF m 144 #[.val (.int p0)] [(.int p0)])) _
                              refine X0.ldcInt hx hown (mvT hZ (hw _ (List.mem_of_getElem? (i := 29) rfl))) (g := (mkF m 144 #[.val (.int p0)] [(.int p0)])) rfl (hb hby own_d1_144) _ ?_
                              show Steps p.tables e below (s₁.setTop (mkF m 146 #[.val (.int p0)] [(.int (55295 : Int32)), (.int p0)])) _
                              refine XS.icmpYes X0.here hx rfl (pc0 := 146) (pc' := 185) rfl (hb hby own_d1_146) rfl (flt hm62).2.2.2 (by decide) (by decide) ?_
                              show Steps p.tables e below (s₁.setTop (mkF m 185 #[.val (.int p0)] [])) _
                              exact q
                        ) with ⟨hs63, k64⟩ | ⟨hs63, k65⟩
                      ·
                        have k66 : own_To p e below s₁ (mkF m 190 #[.val (.int p0)] [(.int (1 : Int32))]) s₁ (mkF m 0 #[.val (.int p0)] []) := fun t q => k64 t (by
                          refine XS.iconst X0.here hx rfl (hb hby own_d1_185) ?_
                          show Steps p.tables e below (s₁.setTop (mkF m 186 #[.val (.int p0)] [(.int (1 : Int32))])) _
                          refine XS.goto X0.here hx rfl (pc0 := 186) (pc' := 190) rfl (hb hby own_d1_186) (by decide) (by decide) ?_
                          show Steps p.tables e below (s₁.setTop (mkF m 190 #[.val (.int p0)] [(.int (1 : Int32))])) _
                          exact q)
                        obtain ⟨fs, hr, hrun, hended, hW, hsame⟩ := X0.leave (v := some (.int (1 : Int32))) (fun h => by rw [Bd.returns] at h; cases h)
                        refine ⟨_, _, k0 _ (k66 _ ?_), hrun, hended, _, _, rfl, ?_, ⟨_, rfl⟩, hW, hsame.mono (by decide) (by decide)⟩
                        · show Steps p.tables e below (s₁.setTop (mkF m 190 #[.val (.int p0)] [(.int (1 : Int32))])) _
                          exact retN X0 hx (t := .boolean) Bd.returns (by simp) (hb hby own_d1_190) hr
                        · show Q1 Z p0 h0 n0 _ s₁.heap _
                          rw [e0]
                          exact ⟨by rw [own_F1, if_neg hs3, if_neg hs9, if_neg hs15, if_neg hs21, if_neg hs27, if_neg hs33, if_neg hs39, if_neg hs45, if_neg hs51, if_neg hs57, if_pos hs63], N0, rfl⟩
                      ·
                        rcases (show (((¬ (p0 < (63744 : Int32)) ∧ ¬ ((64975 : Int32) < p0)) ∧ own_To p e below s₁ (mkF m 185 #[.val (.int p0)] []) s₁ (mkF m 0 #[.val (.int p0)] [])) ∨ (¬ (¬ (p0 < (63744 : Int32)) ∧ ¬ ((64975 : Int32) < p0)) ∧ own_To p e below s₁ (mkF m 161 #[.val (.int p0)] []) s₁ (mkF m 0 #[.val (.int p0)] []))) from by
                            by_cases hm67 : p0 < (63744 : Int32)
                            ·
                              refine Or.inr ⟨fun w => w.1 hm67, fun t q => k65 t (?_)⟩
                              refine XS.iloadN X0.here hx rfl (hb hby own_d1_149) rfl ?_
                              show Steps p.tables e below (s₁.setTop (mkF m 150 #[.val (.int p0)] [(.int p0)])) _
                              refine X0.ldcInt hx hown (mvT hZ (hw _ (List.mem_of_getElem? (i := 13) rfl))) (g := (mkF m 150 #[.val (.int p0)] [(.int p0)])) rfl (hb hby own_d1_150) _ ?_
                              show Steps p.tables e below (s₁.setTop (mkF m 152 #[.val (.int p0)] [(.int (63744 : Int32)), (.int p0)])) _
                              refine XS.icmpYes X0.here hx rfl (pc0 := 152) (pc' := 161) rfl (hb hby own_d1_152) rfl (tlt hm67).1 (by decide) (by decide) ?_
                              show Steps p.tables e below (s₁.setTop (mkF m 161 #[.val (.int p0)] [])) _
                              exact q
                            ·
                              by_cases hm68 : (64975 : Int32) < p0
                              ·
                                refine Or.inr ⟨fun w => w.2 hm68, fun t q => k65 t (?_)⟩
                                refine XS.iloadN X0.here hx rfl (hb hby own_d1_149) rfl ?_
                                show Steps p.tables e below (s₁.setTop (mkF m 150 #[.val (.int p0)] [(.int p0)])) _
                                refine X0.ldcInt hx hown (mvT hZ (hw _ (List.mem_of_getElem? (i := 13) rfl))) (g := (mkF m 150 #[.val (.int p0)] [(.int p0)])) rfl (hb hby own_d1_150) _ ?_
                                show Steps p.tables e below (s₁.setTop (mkF m 152 #[.val (.int p0)] [(.int (63744 : Int32)), (.int p0)])) _
                                refine XS.icmpNo X0.here hx rfl (hb hby own_d1_152) rfl (flt hm67).1 ?_
                                show Steps p.tables e below (s₁.setTop (mkF m 155 #[.val (.int p0)] [])) _
                                refine XS.iloadN X0.here hx rfl (hb hby own_d1_155) rfl ?_
                                show Steps p.tables e below (s₁.setTop (mkF m 156 #[.val (.int p0)] [(.int p0)])) _
                                refine X0.ldcInt hx hown (mvT hZ (hw _ (List.mem_of_getElem? (i := 30) rfl))) (g := (mkF m 156 #[.val (.int p0)] [(.int p0)])) rfl (hb hby own_d1_156) _ ?_
                                show Steps p.tables e below (s₁.setTop (mkF m 158 #[.val (.int p0)] [(.int (64975 : Int32)), (.int p0)])) _
                                refine XS.icmpNo X0.here hx rfl (hb hby own_d1_158) rfl (tlt hm68).2.2.2 ?_
                                show Steps p.tables e below (s₁.setTop (mkF m 161 #[.val (.int p0)] [])) _
                                exact q
                              ·
                                refine Or.inl ⟨⟨hm67, hm68⟩, fun t q => k65 t (?_)⟩
                                refine XS.iloadN X0.here hx rfl (hb hby own_d1_149) rfl ?_
                                show Steps p.tables e below (s₁.setTop (mkF m 150 #[.val (.int p0)] [(.int p0)])) _
                                refine X0.ldcInt hx hown (mvT hZ (hw _ (List.mem_of_getElem? (i := 13) rfl))) (g := (mkF m 150 #[.val (.int p0)] [(.int p0)])) rfl (hb hby own_d1_150) _ ?_
                                show Steps p.tables e below (s₁.setTop (mkF m 152 #[.val (.int p0)] [(.int (63744 : Int32)), (.int p0)])) _
                                refine XS.icmpNo X0.here hx rfl (hb hby own_d1_152) rfl (flt hm67).1 ?_
                                show Steps p.tables e below (s₁.setTop (mkF m 155 #[.val (.int p0)] [])) _
                                refine XS.iloadN X0.here hx rfl (hb hby own_d1_155) rfl ?_
                                show Steps p.tables e below (s₁.setTop (mkF m 156 #[.val (.int p0)] [(.int p0)])) _
                                refine X0.ldcInt hx hown (mvT hZ (hw _ (List.mem_of_getElem? (i := 30) rfl))) (g := (mkF m 156 #[.val (.int p0)] [(.int p0)])) rfl (hb hby own_d1_156) _ ?_
                                show Steps p.tables e below (s₁.setTop (mkF m 158 #[.val (.int p0)] [(.int (64975 : Int32)), (.int p0)])) _
                                refine XS.icmpYes X0.here hx rfl (pc0 := 158) (pc' := 185) rfl (hb hby own_d1_158) rfl (flt hm68).2.2.2 (by decide) (by decide) ?_
                                show Steps p.tables e below (s₁.setTop (mkF m 185 #[.val (.int p0)] [])) _
                                exact q
                          ) with ⟨hs69, k70⟩ | ⟨hs69, k71⟩
                        ·
                          have k72 : own_To p e below s₁ (mkF m 190 #[.val (.int p0)] [(.int (1 : Int32))]) s₁ (mkF m 0 #[.val (.int p0)] []) := fun t q => k70 t (by
                            refine XS.iconst X0.here hx rfl (hb hby own_d1_185) ?_
                            show Steps p.tables e below (s₁.setTop (mkF m 186 #[.val (.int p0)] [(.int (1 : Int32))])) _
                            refine XS.goto X0.here hx rfl (pc0 := 186) (pc' := 190) rfl (hb hby own_d1_186) (by decide) (by decide) ?_
                            show Steps p.tables e below (s₁.setTop (mkF m 190 #[.val (.int p0)] [(.int (1 : Int32))])) _
                            exact q)
                          obtain ⟨fs, hr, hrun, hended, hW, hsame⟩ := X0.leave (v := some (.int (1 : Int32))) (fun h => by rw [Bd.returns] at h; cases h)
                          refine ⟨_, _, k0 _ (k72 _ ?_), hrun, hended, _, _, rfl, ?_, ⟨_, rfl⟩, hW, hsame.mono (by decide) (by decide)⟩
                          · show Steps p.tables e below (s₁.setTop (mkF m 190 #[.val (.int p0)] [(.int (1 : Int32))])) _
                            exact retN X0 hx (t := .boolean) Bd.returns (by simp) (hb hby own_d1_190) hr
                          · show Q1 Z p0 h0 n0 _ s₁.heap _
                            rw [e0]
                            exact ⟨by rw [own_F1, if_neg hs3, if_neg hs9, if_neg hs15, if_neg hs21, if_neg hs27, if_neg hs33, if_neg hs39, if_neg hs45, if_neg hs51, if_neg hs57, if_neg hs63, if_pos hs69], N0, rfl⟩
                        ·
                          rcases (show (((¬ (p0 < (65008 : Int32)) ∧ ¬ ((65533 : Int32) < p0)) ∧ own_To p e below s₁ (mkF m 185 #[.val (.int p0)] []) s₁ (mkF m 0 #[.val (.int p0)] [])) ∨ (¬ (¬ (p0 < (65008 : Int32)) ∧ ¬ ((65533 : Int32) < p0)) ∧ own_To p e below s₁ (mkF m 173 #[.val (.int p0)] []) s₁ (mkF m 0 #[.val (.int p0)] []))) from by
                              by_cases hm73 : p0 < (65008 : Int32)
                              ·
                                refine Or.inr ⟨fun w => w.1 hm73, fun t q => k71 t (?_)⟩
                                refine XS.iloadN X0.here hx rfl (hb hby own_d1_161) rfl ?_
                                show Steps p.tables e below (s₁.setTop (mkF m 162 #[.val (.int p0)] [(.int p0)])) _
                                refine X0.ldcInt hx hown (mvT hZ (hw _ (List.mem_of_getElem? (i := 14) rfl))) (g := (mkF m 162 #[.val (.int p0)] [(.int p0)])) rfl (hb hby own_d1_162) _ ?_
                                show Steps p.tables e below (s₁.setTop (mkF m 164 #[.val (.int p0)] [(.int (65008 : Int32)), (.int p0)])) _
                                refine XS.icmpYes X0.here hx rfl (pc0 := 164) (pc' := 173) rfl (hb hby own_d1_164) rfl (tlt hm73).1 (by decide) (by decide) ?_
                                show Steps p.tables e below (s₁.setTop (mkF m 173 #[.val (.int p0)] [])) _
                                exact q
                              ·
                                by_cases hm74 : (65533 : Int32) < p0
                                ·
                                  refine Or.inr ⟨fun w => w.2 hm74, fun t q => k71 t (?_)⟩
                                  refine XS.iloadN X0.here hx rfl (hb hby own_d1_161) rfl ?_
                                  show Steps p.tables e below (s₁.setTop (mkF m 162 #[.val (.int p0)] [(.int p0)])) _
                                  refine X0.ldcInt hx hown (mvT hZ (hw _ (List.mem_of_getElem? (i := 14) rfl))) (g := (mkF m 162 #[.val (.int p0)] [(.int p0)])) rfl (hb hby own_d1_162) _ ?_
                                  show Steps p.tables e below (s₁.setTop (mkF m 164 #[.val (.int p0)] [(.int (65008 : Int32)), (.int p0)])) _
                                  refine XS.icmpNo X0.here hx rfl (hb hby own_d1_164) rfl (flt hm73).1 ?_
                                  show Steps p.tables e below (s₁.setTop (mkF m 167 #[.val (.int p0)] [])) _
                                  refine XS.iloadN X0.here hx rfl (hb hby own_d1_167) rfl ?_
                                  show Steps p.tables e below (s₁.setTop (mkF m 168 #[.val (.int p0)] [(.int p0)])) _
                                  refine X0.ldcInt hx hown (mvT hZ (hw _ (List.mem_of_getElem? (i := 31) rfl))) (g := (mkF m 168 #[.val (.int p0)] [(.int p0)])) rfl (hb hby own_d1_168) _ ?_
                                  show Steps p.tables e below (s₁.setTop (mkF m 170 #[.val (.int p0)] [(.int (65533 : Int32)), (.int p0)])) _
                                  refine XS.icmpNo X0.here hx rfl (hb hby own_d1_170) rfl (tlt hm74).2.2.2 ?_
                                  show Steps p.tables e below (s₁.setTop (mkF m 173 #[.val (.int p0)] [])) _
                                  exact q
                                ·
                                  refine Or.inl ⟨⟨hm73, hm74⟩, fun t q => k71 t (?_)⟩
                                  refine XS.iloadN X0.here hx rfl (hb hby own_d1_161) rfl ?_
                                  show Steps p.tables e below (s₁.setTop (mkF m 162 #[.val (.int p0)] [(.int p0)])) _
                                  refine X0.ldcInt hx hown (mvT hZ (hw _ (List.mem_of_getElem? (i := 14) rfl))) (g := (mkF m 162 #[.val (.int p0)] [(.int p0)])) rfl (hb hby own_d1_162) _ ?_
                                  show Steps p.tables e below (s₁.setTop (mkF m 164 #[.val (.int p0)] [(.int (65008 : Int32)), (.int p0)])) _
                                  refine XS.icmpNo X0.here hx rfl (hb hby own_d1_164) rfl (flt hm73).1 ?_
                                  show Steps p.tables e below (s₁.setTop (mkF m 167 #[.val (.int p0)] [])) _
                                  refine XS.iloadN X0.here hx rfl (hb hby own_d1_167) rfl ?_
                                  show Steps p.tables e below (s₁.setTop (mkF m 168 #[.val (.int p0)] [(.int p0)])) _
                                  refine X0.ldcInt hx hown (mvT hZ (hw _ (List.mem_of_getElem? (i := 31) rfl))) (g := (mkF m 168 #[.val (.int p0)] [(.int p0)])) rfl (hb hby own_d1_168) _ ?_
                                  show Steps p.tables e below (s₁.setTop (mkF m 170 #[.val (.int p0)] [(.int (65533 : Int32)), (.int p0)])) _
                                  refine XS.icmpYes X0.here hx rfl (pc0 := 170) (pc' := 185) rfl (hb hby own_d1_170) rfl (flt hm74).2.2.2 (by decide) (by decide) ?_
                                  show Steps p.tables e below (s₁.setTop (mkF m 185 #[.val (.int p0)] [])) _
                                  exact q
                            ) with ⟨hs75, k76⟩ | ⟨hs75, k77⟩
                          ·
                            have k78 : own_To p e below s₁ (mkF m 190 #[.val (.int p0)] [(.int (1 : Int32))]) s₁ (mkF m 0 #[.val (.int p0)] []) := fun t q => k76 t (by
                              refine XS.iconst X0.here hx rfl (hb hby own_d1_185) ?_
                              show Steps p.tables e below (s₁.setTop (mkF m 186 #[.val (.int p0)] [(.int (1 : Int32))])) _
                              refine XS.goto X0.here hx rfl (pc0 := 186) (pc' := 190) rfl (hb hby own_d1_186) (by decide) (by decide) ?_
                              show Steps p.tables e below (s₁.setTop (mkF m 190 #[.val (.int p0)] [(.int (1 : Int32))])) _
                              exact q)
                            obtain ⟨fs, hr, hrun, hended, hW, hsame⟩ := X0.leave (v := some (.int (1 : Int32))) (fun h => by rw [Bd.returns] at h; cases h)
                            refine ⟨_, _, k0 _ (k78 _ ?_), hrun, hended, _, _, rfl, ?_, ⟨_, rfl⟩, hW, hsame.mono (by decide) (by decide)⟩
                            · show Steps p.tables e below (s₁.setTop (mkF m 190 #[.val (.int p0)] [(.int (1 : Int32))])) _
                              exact retN X0 hx (t := .boolean) Bd.returns (by simp) (hb hby own_d1_190) hr
                            · show Q1 Z p0 h0 n0 _ s₁.heap _
                              rw [e0]
                              exact ⟨by rw [own_F1, if_neg hs3, if_neg hs9, if_neg hs15, if_neg hs21, if_neg hs27, if_neg hs33, if_neg hs39, if_neg hs45, if_neg hs51, if_neg hs57, if_neg hs63, if_neg hs69, if_pos hs75], N0, rfl⟩
                          ·
                            rcases (show (((¬ (p0 < (65536 : Int32)) ∧ ¬ ((983039 : Int32) < p0)) ∧ own_To p e below s₁ (mkF m 185 #[.val (.int p0)] []) s₁ (mkF m 0 #[.val (.int p0)] [])) ∨ (¬ (¬ (p0 < (65536 : Int32)) ∧ ¬ ((983039 : Int32) < p0)) ∧ own_To p e below s₁ (mkF m 189 #[.val (.int p0)] []) s₁ (mkF m 0 #[.val (.int p0)] []))) from by
                                by_cases hm79 : p0 < (65536 : Int32)
                                ·
                                  refine Or.inr ⟨fun w => w.1 hm79, fun t q => k77 t (?_)⟩
                                  refine XS.iloadN X0.here hx rfl (hb hby own_d1_173) rfl ?_
                                  show Steps p.tables e below (s₁.setTop (mkF m 174 #[.val (.int p0)] [(.int p0)])) _
                                  refine X0.ldcInt hx hown (mvT hZ (hw _ (List.mem_of_getElem? (i := 15) rfl))) (g := (mkF m 174 #[.val (.int p0)] [(.int p0)])) rfl (hb hby own_d1_174) _ ?_
                                  show Steps p.tables e below (s₁.setTop (mkF m 176 #[.val (.int p0)] [(.int (65536 : Int32)), (.int p0)])) _
                                  refine XS.icmpYes X0.here hx rfl (pc0 := 176) (pc' := 189) rfl (hb hby own_d1_176) rfl (tlt hm79).1 (by decide) (by decide) ?_
                                  show Steps p.tables e below (s₁.setTop (mkF m 189 #[.val (.int p0)] [])) _
                                  exact q
                                ·
                                  by_cases hm80 : (983039 : Int32) < p0
                                  ·
                                    refine Or.inr ⟨fun w => w.2 hm80, fun t q => k77 t (?_)⟩
                                    refine XS.iloadN X0.here hx rfl (hb hby own_d1_173) rfl ?_
                                    show Steps p.tables e below (s₁.setTop (mkF m 174 #[.val (.int p0)] [(.int p0)])) _
                                    refine X0.ldcInt hx hown (mvT hZ (hw _ (List.mem_of_getElem? (i := 15) rfl))) (g := (mkF m 174 #[.val (.int p0)] [(.int p0)])) rfl (hb hby own_d1_174) _ ?_
                                    show Steps p.tables e below (s₁.setTop (mkF m 176 #[.val (.int p0)] [(.int (65536 : Int32)), (.int p0)])) _
                                    refine XS.icmpNo X0.here hx rfl (hb hby own_d1_176) rfl (flt hm79).1 ?_
                                    show Steps p.tables e below (s₁.setTop (mkF m 179 #[.val (.int p0)] [])) _
                                    refine XS.iloadN X0.here hx rfl (hb hby own_d1_179) rfl ?_
                                    show Steps p.tables e below (s₁.setTop (mkF m 180 #[.val (.int p0)] [(.int p0)])) _
                                    refine X0.ldcInt hx hown (mvT hZ (hw _ (List.mem_of_getElem? (i := 32) rfl))) (g := (mkF m 180 #[.val (.int p0)] [(.int p0)])) rfl (hb hby own_d1_180) _ ?_
                                    show Steps p.tables e below (s₁.setTop (mkF m 182 #[.val (.int p0)] [(.int (983039 : Int32)), (.int p0)])) _
                                    refine XS.icmpYes X0.here hx rfl (pc0 := 182) (pc' := 189) rfl (hb hby own_d1_182) rfl (tlt hm80).2.2.1 (by decide) (by decide) ?_
                                    show Steps p.tables e below (s₁.setTop (mkF m 189 #[.val (.int p0)] [])) _
                                    exact q
                                  ·
                                    refine Or.inl ⟨⟨hm79, hm80⟩, fun t q => k77 t (?_)⟩
                                    refine XS.iloadN X0.here hx rfl (hb hby own_d1_173) rfl ?_
                                    show Steps p.tables e below (s₁.setTop (mkF m 174 #[.val (.int p0)] [(.int p0)])) _
                                    refine X0.ldcInt hx hown (mvT hZ (hw _ (List.mem_of_getElem? (i := 15) rfl))) (g := (mkF m 174 #[.val (.int p0)] [(.int p0)])) rfl (hb hby own_d1_174) _ ?_
                                    show Steps p.tables e below (s₁.setTop (mkF m 176 #[.val (.int p0)] [(.int (65536 : Int32)), (.int p0)])) _
                                    refine XS.icmpNo X0.here hx rfl (hb hby own_d1_176) rfl (flt hm79).1 ?_
                                    show Steps p.tables e below (s₁.setTop (mkF m 179 #[.val (.int p0)] [])) _
                                    refine XS.iloadN X0.here hx rfl (hb hby own_d1_179) rfl ?_
                                    show Steps p.tables e below (s₁.setTop (mkF m 180 #[.val (.int p0)] [(.int p0)])) _
                                    refine X0.ldcInt hx hown (mvT hZ (hw _ (List.mem_of_getElem? (i := 32) rfl))) (g := (mkF m 180 #[.val (.int p0)] [(.int p0)])) rfl (hb hby own_d1_180) _ ?_
                                    show Steps p.tables e below (s₁.setTop (mkF m 182 #[.val (.int p0)] [(.int (983039 : Int32)), (.int p0)])) _
                                    refine XS.icmpNo X0.here hx rfl (hb hby own_d1_182) rfl (flt hm80).2.2.1 ?_
                                    show Steps p.tables e below (s₁.setTop (mkF m 185 #[.val (.int p0)] [])) _
                                    exact q
                              ) with ⟨hs81, k82⟩ | ⟨hs81, k83⟩
                            ·
                              have k84 : own_To p e below s₁ (mkF m 190 #[.val (.int p0)] [(.int (1 : Int32))]) s₁ (mkF m 0 #[.val (.int p0)] []) := fun t q => k82 t (by
                                refine XS.iconst X0.here hx rfl (hb hby own_d1_185) ?_
                                show Steps p.tables e below (s₁.setTop (mkF m 186 #[.val (.int p0)] [(.int (1 : Int32))])) _
                                refine XS.goto X0.here hx rfl (pc0 := 186) (pc' := 190) rfl (hb hby own_d1_186) (by decide) (by decide) ?_
                                show Steps p.tables e below (s₁.setTop (mkF m 190 #[.val (.int p0)] [(.int (1 : Int32))])) _
                                exact q)
                              obtain ⟨fs, hr, hrun, hended, hW, hsame⟩ := X0.leave (v := some (.int (1 : Int32))) (fun h => by rw [Bd.returns] at h; cases h)
                              refine ⟨_, _, k0 _ (k84 _ ?_), hrun, hended, _, _, rfl, ?_, ⟨_, rfl⟩, hW, hsame.mono (by decide) (by decide)⟩
                              · show Steps p.tables e below (s₁.setTop (mkF m 190 #[.val (.int p0)] [(.int (1 : Int32))])) _
                                exact retN X0 hx (t := .boolean) Bd.returns (by simp) (hb hby own_d1_190) hr
                              · show Q1 Z p0 h0 n0 _ s₁.heap _
                                rw [e0]
                                exact ⟨by rw [own_F1, if_neg hs3, if_neg hs9, if_neg hs15, if_neg hs21, if_neg hs27, if_neg hs33, if_neg hs39, if_neg hs45, if_neg hs51, if_neg hs57, if_neg hs63, if_neg hs69, if_neg hs75, if_pos hs81], N0, rfl⟩
                            ·
                              have k85 : own_To p e below s₁ (mkF m 190 #[.val (.int p0)] [(.int (0 : Int32))]) s₁ (mkF m 0 #[.val (.int p0)] []) := fun t q => k83 t (by
                                refine XS.iconst X0.here hx rfl (hb hby own_d1_189) ?_
                                show Steps p.tables e below (s₁.setTop (mkF m 190 #[.val (.int p0)] [(.int (0 : Int32))])) _
                                exact q)
                              obtain ⟨fs, hr, hrun, hended, hW, hsame⟩ := X0.leave (v := some (.int (0 : Int32))) (fun h => by rw [Bd.returns] at h; cases h)
                              refine ⟨_, _, k0 _ (k85 _ ?_), hrun, hended, _, _, rfl, ?_, ⟨_, rfl⟩, hW, hsame.mono (by decide) (by decide)⟩
                              · show Steps p.tables e below (s₁.setTop (mkF m 190 #[.val (.int p0)] [(.int (0 : Int32))])) _
                                exact retN X0 hx (t := .boolean) Bd.returns (by simp) (hb hby own_d1_190) hr
                              · show Q1 Z p0 h0 n0 _ s₁.heap _
                                rw [e0]
                                exact ⟨by rw [own_F1, if_neg hs3, if_neg hs9, if_neg hs15, if_neg hs21, if_neg hs27, if_neg hs33, if_neg hs39, if_neg hs45, if_neg hs51, if_neg hs57, if_neg hs63, if_neg hs69, if_neg hs75, if_neg hs81], N0, rfl⟩
theorem own_in0 (p a b : Int32) : (own_in p a b = (0 : Int32)) ↔ ¬ (a.toInt ≤ p.toInt ∧ p.toInt ≤ b.toInt) := by
  unfold own_in; simp only [Int32.lt_iff_toInt_lt]
  split
  · constructor
    · intro _ h; omega
    · intro _; rfl
  · split
    · constructor
      · intro _ h; omega
      · intro _; rfl
    · constructor
      · intro h; exact absurd h (by decide)
      · intro h; exact absurd ⟨by omega, by omega⟩ h
set_option maxRecDepth 65536 in
set_option maxHeartbeats 40000000 in
theorem own_law (c : Int32) : own_F1 c = own_F2 c := by
  unfold own_F1 own_F2
  simp only [own_in0, Int32.lt_iff_toInt_lt, ← Int32.toInt_inj (x := c), Int32.reduceToInt]
  generalize c.toInt = z
  by_cases h14 : z < 8204
  ·
    by_cases h7 : z < 247
    ·
      by_cases h3 : z < 123
      ·
        by_cases h1 : z < 91
        ·
          by_cases h0 : z < 65
          ·
            rw [if_neg (by omega), if_neg (by omega), if_neg (by omega), if_neg (by omega), if_neg (by omega), if_neg (by omega), if_neg (by omega), if_neg (by omega), if_neg (by omega), if_neg (by omega), if_neg (by omega), if_neg (by omega), if_neg (by omega), if_neg (by omega), if_pos (by omega)]
          ·
            rw [if_neg (by omega), if_pos (by omega), if_neg (by omega), if_neg (by omega), if_pos (by omega), if_pos (by omega), if_neg (by omega), if_neg (by omega), if_pos (by omega), if_neg (by omega), if_pos (by omega), if_pos (by omega), if_pos (by omega), if_pos (by omega), if_pos (by omega), if_pos (by omega), if_pos (by omega)]
        ·
          by_cases h2 : z < 97
          ·
            rw [if_neg (by omega), if_neg (by omega), if_neg (by omega), if_neg (by omega), if_neg (by omega), if_neg (by omega), if_neg (by omega), if_neg (by omega), if_neg (by omega), if_neg (by omega), if_neg (by omega), if_neg (by omega), if_neg (by omega), if_neg (by omega), if_neg (by omega), if_neg (by omega), if_neg (by omega)]
          ·
            rw [if_pos (by omega), if_neg (by omega), if_neg (by omega), if_pos (by omega), if_pos (by omega), if_neg (by omega), if_neg (by omega), if_pos (by omega), if_neg (by omega), if_pos (by omega), if_pos (by omega), if_pos (by omega), if_pos (by omega), if_pos (by omega), if_pos (by omega), if_pos (by omega)]
      ·
        by_cases h5 : z < 215
        ·
          by_cases h4 : z < 192
          ·
            rw [if_neg (by omega), if_neg (by omega), if_neg (by omega), if_neg (by omega), if_neg (by omega), if_neg (by omega), if_neg (by omega), if_neg (by omega), if_neg (by omega), if_neg (by omega), if_neg (by omega), if_neg (by omega), if_neg (by omega), if_neg (by omega), if_neg (by omega), if_neg (by omega), if_pos (by omega), if_neg (by omega)]
          ·
            rw [if_neg (by omega), if_neg (by omega), if_pos (by omega), if_neg (by omega), if_neg (by omega), if_pos (by omega), if_pos (by omega), if_neg (by omega), if_neg (by omega), if_pos (by omega), if_neg (by omega), if_pos (by omega), if_pos (by omega), if_pos (by omega), if_pos (by omega), if_pos (by omega), if_pos (by omega), if_pos (by omega)]
        ·
          by_cases h6 : z < 216
          ·
            rw [if_neg (by omega), if_neg (by omega), if_neg (by omega), if_neg (by omega), if_neg (by omega), if_neg (by omega), if_neg (by omega), if_neg (by omega), if_neg (by omega), if_neg (by omega), if_neg (by omega), if_neg (by omega), if_neg (by omega), if_neg (by omega), if_neg (by omega), if_neg (by omega), if_pos (by omega), if_pos (by omega), if_pos (by omega)]
          ·
            rw [if_neg (by omega), if_neg (by omega), if_neg (by omega), if_pos (by omega), if_neg (by omega), if_neg (by omega), if_pos (by omega), if_pos (by omega), if_neg (by omega), if_neg (by omega), if_pos (by omega), if_neg (by omega), if_pos (by omega), if_pos (by omega), if_pos (by omega), if_pos (by omega), if_pos (by omega), if_pos (by omega), if_pos (by omega)]
    ·
      by_cases h11 : z < 894
      ·
        by_cases h9 : z < 768
        ·
          by_cases h8 : z < 248
          ·
            rw [if_neg (by omega), if_neg (by omega), if_neg (by omega), if_neg (by omega), if_neg (by omega), if_neg (by omega), if_neg (by omega), if_neg (by omega), if_neg (by omega), if_neg (by omega), if_neg (by omega), if_neg (by omega), if_neg (by omega), if_neg (by omega), if_neg (by omega), if_neg (by omega), if_pos (by omega), if_pos (by omega), if_neg (by omega), if_pos (by omega)]
          ·
            rw [if_neg (by omega), if_neg (by omega), if_neg (by omega), if_neg (by omega), if_pos (by omega), if_neg (by omega), if_neg (by omega), if_pos (by omega), if_pos (by omega), if_neg (by omega), if_neg (by omega), if_pos (by omega), if_neg (by omega), if_pos (by omega), if_pos (by omega), if_pos (by omega), if_pos (by omega), if_pos (by omega), if_pos (by omega), if_pos (by omega)]
        ·
          by_cases h10 : z < 880
          ·
            rw [if_neg (by omega), if_neg (by omega), if_neg (by omega), if_neg (by omega), if_neg (by omega), if_neg (by omega), if_neg (by omega), if_neg (by omega), if_neg (by omega), if_neg (by omega), if_neg (by omega), if_neg (by omega), if_neg (by omega), if_neg (by omega), if_neg (by omega), if_neg (by omega), if_pos (by omega), if_pos (by omega), if_neg (by omega), if_neg (by omega), if_neg (by omega)]
          ·
            rw [if_neg (by omega), if_neg (by omega), if_neg (by omega), if_neg (by omega), if_neg (by omega), if_pos (by omega), if_neg (by omega), if_neg (by omega), if_pos (by omega), if_pos (by omega), if_neg (by omega), if_neg (by omega), if_pos (by omega), if_neg (by omega), if_pos (by omega), if_pos (by omega), if_pos (by omega), if_pos (by omega), if_pos (by omega), if_pos (by omega), if_pos (by omega)]
      ·
        by_cases h13 : z < 8192
        ·
          by_cases h12 : z < 895
          ·
            rw [if_neg (by omega), if_neg (by omega), if_neg (by omega), if_neg (by omega), if_neg (by omega), if_neg (by omega), if_neg (by omega), if_neg (by omega), if_neg (by omega), if_neg (by omega), if_neg (by omega), if_neg (by omega), if_neg (by omega), if_neg (by omega), if_neg (by omega), if_neg (by omega), if_pos (by omega), if_pos (by omega), if_neg (by omega), if_neg (by omega), if_pos (by omega), if_pos (by omega)]
          ·
            rw [if_neg (by omega), if_neg (by omega), if_neg (by omega), if_neg (by omega), if_neg (by omega), if_neg (by omega), if_pos (by omega), if_neg (by omega), if_neg (by omega), if_pos (by omega), if_pos (by omega), if_neg (by omega), if_neg (by omega), if_pos (by omega), if_neg (by omega), if_pos (by omega), if_pos (by omega), if_pos (by omega), if_pos (by omega), if_pos (by omega), if_pos (by omega), if_pos (by omega)]
        ·
          rw [if_neg (by omega), if_neg (by omega), if_neg (by omega), if_neg (by omega), if_neg (by omega), if_neg (by omega), if_neg (by omega), if_neg (by omega), if_neg (by omega), if_neg (by omega), if_neg (by omega), if_neg (by omega), if_neg (by omega), if_neg (by omega), if_neg (by omega), if_neg (by omega), if_pos (by omega), if_pos (by omega), if_neg (by omega), if_neg (by omega), if_pos (by omega), if_neg (by omega), if_neg (by omega)]
  ·
    by_cases h21 : z < 55296
    ·
      by_cases h18 : z < 11264
      ·
        by_cases h16 : z < 8304
        ·
          by_cases h15 : z < 8206
          ·
            rw [if_neg (by omega), if_neg (by omega), if_neg (by omega), if_neg (by omega), if_neg (by omega), if_neg (by omega), if_neg (by omega), if_pos (by omega), if_neg (by omega), if_neg (by omega), if_pos (by omega), if_pos (by omega), if_neg (by omega), if_neg (by omega), if_pos (by omega), if_neg (by omega), if_pos (by omega), if_pos (by omega), if_pos (by omega), if_pos (by omega), if_pos (by omega), if_pos (by omega), if_pos (by omega)]
          ·
            rw [if_neg (by omega), if_neg (by omega), if_neg (by omega), if_neg (by omega), if_neg (by omega), if_neg (by omega), if_neg (by omega), if_neg (by omega), if_neg (by omega), if_neg (by omega), if_neg (by omega), if_neg (by omega), if_neg (by omega), if_neg (by omega), if_neg (by omega), if_neg (by omega), if_pos (by omega), if_pos (by omega), if_neg (by omega), if_neg (by omega), if_pos (by omega), if_neg (by omega), if_pos (by omega), if_neg (by omega)]
        ·
          by_cases h17 : z < 8592
          ·
            rw [if_neg (by omega), if_neg (by omega), if_neg (by omega), if_neg (by omega), if_neg (by omega), if_neg (by omega), if_neg (by omega), if_neg (by omega), if_pos (by omega), if_neg (by omega), if_neg (by omega), if_pos (by omega), if_pos (by omega), if_neg (by omega), if_neg (by omega), if_pos (by omega), if_neg (by omega), if_pos (by omega), if_pos (by omega), if_pos (by omega), if_pos (by omega), if_pos (by omega), if_pos (by omega), if_pos (by omega)]
          ·
            rw [if_neg (by omega), if_neg (by omega), if_neg (by omega), if_neg (by omega), if_neg (by omega), if_neg (by omega), if_neg (by omega), if_neg (by omega), if_neg (by omega), if_neg (by omega), if_neg (by omega), if_neg (by omega), if_neg (by omega), if_neg (by omega), if_neg (by omega), if_neg (by omega), if_pos (by omega), if_pos (by omega), if_neg (by omega), if_neg (by omega), if_pos (by omega), if_neg (by omega), if_pos (by omega), if_pos (by omega), if_neg (by omega)]
      ·
        by_cases h20 : z < 12289
        ·
          by_cases h19 : z < 12272
          ·
            rw [if_neg (by omega), if_neg (by omega), if_neg (by omega), if_neg (by omega), if_neg (by omega), if_neg (by omega), if_neg (by omega), if_neg (by omega), if_neg (by omega), if_pos (by omega), if_neg (by omega), if_neg (by omega), if_pos (by omega), if_pos (by omega), if_neg (by omega), if_neg (by omega), if_pos (by omega), if_neg (by omega), if_pos (by omega), if_pos (by omega), if_pos (by omega), if_pos (by omega), if_pos (by omega), if_pos (by omega), if_pos (by omega)]
          ·
            rw [if_neg (by omega), if_neg (by omega), if_neg (by omega), if_neg (by omega), if_neg (by omega), if_neg (by omega), if_neg (by omega), if_neg (by omega), if_neg (by omega), if_neg (by omega), if_neg (by omega), if_neg (by omega), if_neg (by omega), if_neg (by omega), if_neg (by omega), if_neg (by omega), if_pos (by omega), if_pos (by omega), if_neg (by omega), if_neg (by omega), if_pos (by omega), if_neg (by omega), if_pos (by omega), if_pos (by omega), if_pos (by omega), if_neg (by omega)]
        ·
          rw [if_neg (by omega), if_neg (by omega), if_neg (by omega), if_neg (by omega), if_neg (by omega), if_neg (by omega), if_neg (by omega), if_neg (by omega), if_neg (by omega), if_neg (by omega), if_pos (by omega), if_neg (by omega), if_neg (by omega), if_pos (by omega), if_pos (by omega), if_neg (by omega), if_neg (by omega), if_pos (by omega), if_neg (by omega), if_pos (by omega), if_pos (by omega), if_pos (by omega), if_pos (by omega), if_pos (by omega), if_pos (by omega), if_pos (by omega)]
    ·
      by_cases h25 : z < 65534
      ·
        by_cases h23 : z < 64976
        ·
          by_cases h22 : z < 63744
          ·
            rw [if_neg (by omega), if_neg (by omega), if_neg (by omega), if_neg (by omega), if_neg (by omega), if_neg (by omega), if_neg (by omega), if_neg (by omega), if_neg (by omega), if_neg (by omega), if_neg (by omega), if_neg (by omega), if_neg (by omega), if_neg (by omega), if_neg (by omega), if_neg (by omega), if_pos (by omega), if_pos (by omega), if_neg (by omega), if_neg (by omega), if_pos (by omega), if_neg (by omega), if_pos (by omega), if_pos (by omega), if_pos (by omega), if_pos (by omega), if_neg (by omega)]
          ·
            rw [if_neg (by omega), if_neg (by omega), if_neg (by omega), if_neg (by omega), if_neg (by omega), if_neg (by omega), if_neg (by omega), if_neg (by omega), if_neg (by omega), if_neg (by omega), if_neg (by omega), if_pos (by omega), if_neg (by omega), if_neg (by omega), if_pos (by omega), if_pos (by omega), if_neg (by omega), if_neg (by omega), if_pos (by omega), if_neg (by omega), if_pos (by omega), if_pos (by omega), if_pos (by omega), if_pos (by omega), if_pos (by omega), if_pos (by omega), if_pos (by omega)]
        ·
          by_cases h24 : z < 65008
          ·
            rw [if_neg (by omega), if_neg (by omega), if_neg (by omega), if_neg (by omega), if_neg (by omega), if_neg (by omega), if_neg (by omega), if_neg (by omega), if_neg (by omega), if_neg (by omega), if_neg (by omega), if_neg (by omega), if_neg (by omega), if_neg (by omega), if_neg (by omega), if_neg (by omega), if_pos (by omega), if_pos (by omega), if_neg (by omega), if_neg (by omega), if_pos (by omega), if_neg (by omega), if_pos (by omega), if_pos (by omega), if_pos (by omega), if_pos (by omega), if_pos (by omega), if_neg (by omega)]
          ·
            rw [if_neg (by omega), if_neg (by omega), if_neg (by omega), if_neg (by omega), if_neg (by omega), if_neg (by omega), if_neg (by omega), if_neg (by omega), if_neg (by omega), if_neg (by omega), if_neg (by omega), if_neg (by omega), if_pos (by omega), if_neg (by omega), if_neg (by omega), if_pos (by omega), if_pos (by omega), if_neg (by omega), if_neg (by omega), if_pos (by omega), if_neg (by omega), if_pos (by omega), if_pos (by omega), if_pos (by omega), if_pos (by omega), if_pos (by omega), if_pos (by omega), if_pos (by omega)]
      ·
        by_cases h27 : z < 983040
        ·
          by_cases h26 : z < 65536
          ·
            rw [if_neg (by omega), if_neg (by omega), if_neg (by omega), if_neg (by omega), if_neg (by omega), if_neg (by omega), if_neg (by omega), if_neg (by omega), if_neg (by omega), if_neg (by omega), if_neg (by omega), if_neg (by omega), if_neg (by omega), if_neg (by omega), if_neg (by omega), if_neg (by omega), if_pos (by omega), if_pos (by omega), if_neg (by omega), if_neg (by omega), if_pos (by omega), if_neg (by omega), if_pos (by omega), if_pos (by omega), if_pos (by omega), if_pos (by omega), if_pos (by omega), if_pos (by omega), if_neg (by omega)]
          ·
            rw [if_neg (by omega), if_neg (by omega), if_neg (by omega), if_neg (by omega), if_neg (by omega), if_neg (by omega), if_neg (by omega), if_neg (by omega), if_neg (by omega), if_neg (by omega), if_neg (by omega), if_neg (by omega), if_neg (by omega), if_pos (by omega), if_neg (by omega), if_neg (by omega), if_pos (by omega), if_pos (by omega), if_neg (by omega), if_neg (by omega), if_pos (by omega), if_neg (by omega), if_pos (by omega), if_pos (by omega), if_pos (by omega), if_pos (by omega), if_pos (by omega), if_pos (by omega), if_pos (by omega)]
        ·
          rw [if_neg (by omega), if_neg (by omega), if_neg (by omega), if_neg (by omega), if_neg (by omega), if_neg (by omega), if_neg (by omega), if_neg (by omega), if_neg (by omega), if_neg (by omega), if_neg (by omega), if_neg (by omega), if_neg (by omega), if_neg (by omega), if_neg (by omega), if_pos (by omega)]
theorem own_ints (l : List Int32) (j : Nat) : ∃ x, (l.map Value.int).getD j (.int (0 : Int32)) = .int x := by
  rw [List.getD_eq_getElem?_getD, List.getElem?_map]
  cases l[j]? with
  | none => exact ⟨_, rfl⟩
  | some x => exact ⟨x, rfl⟩
theorem own_idx (k : Int32) : ¬ ((k &&& (2147483647 : Int32)) % (28 : Int32)) < 0 ∧ ((k &&& (2147483647 : Int32)) % (28 : Int32)) < (28 : Int32) := by
  have h1 := c_mask k 2147483647 31 (by decide) (by decide)
  have h2 := (c_irem (k &&& 2147483647) 28 28 rfl).1 (by omega)
  rw [Int32.lt_iff_toInt_lt, Int32.lt_iff_toInt_lt, h2, show (0 : Int32).toInt = 0 from rfl, show (28 : Int32).toInt = 28 from rfl]
  omega
theorem own_pd0 : parseMethodDescriptor "(I)Z" = some ⟨[.int], some .boolean⟩ := by decide +kernel
theorem own_pn0 : plainName "com/example/hornloom/hornloom/NameCharactersIsNameStartCharPinLaw" = true := by first | (simp [plainName, overriddenIn]; done) | decide +kernel
theorem own_ef0 (m : MethodId) (x0 : Int32) (x1 : Int32) (x2 : Int32) : entryFrame m #[(.int x0), (.int x1), (.int x2)] maxLocals = mkF m 0 #[.val (.int x0), .val (.int x1), .val (.int x2), .unset, .unset, .unset, .unset, .unset] [] := by first | (simp [entryFrame, mkF, argsToLocals, Value.category, maxLocals]; done) | rfl
def Q0 (Z : State) (p0 : Int32) (p1 : Int32) (p2 : Int32) (h0 : Heap) (n0 : Nat) (v : Option Value) (h : Heap) (L : List Loc) : Prop := v = some (.int 1) ∧ Fr n0 L
set_option maxRecDepth 65536 in
set_option maxHeartbeats 40000000 in
theorem rm0 (l : Launch) (Z : State) (a0 : Array Value) (hw : ∀ d ∈ tables_1, d.before a0 Z = true) (ws : List Jvm.Cond) (p0 : Int32) (p1 : Int32) (p2 : Int32) (h0 : Heap) (n0 : Nat) (Z0 : n0 ≤ h0.size) :
    MetFree l x (head1 (Jvm.Cond.code x code maxLocals ret :: ws) room_1) (fun a U => a = #[(.int p0), (.int p1), (.int p2)] ∧ Z.Warmed39 U.vm ∧ U.heap = h0) (fun _ _ _ _ _ => True) (fun _ U o U' => ∃ v L, o = .returned v ∧ Q0 Z p0 p1 p2 h0 n0 v U'.heap L ∧ FrameEnd U o U' L 16 128) := by
  refine MetFree.of_bodySF (plainFor_of_name own_pn0) hisR ?_
  intro p e s m args below meth c s₁ Bd hml0 hP hK
  obtain ⟨rfl, hZ, hh⟩ := hP
  have hx := Bd.exec
  have hby := Bd.bytes
  have hml : c.maxLocals = 8 := hml0
  have hown : s.vm.findClass "com/example/hornloom/hornloom/NameCharactersIsNameStartCharPinLaw" = some m.cls := findClass_of_methodNamed Bd.named
  have hnm := (name_of_methodNamed Bd.named Bd.method).1
  have X0 : Stand p l e room_1 s m #[(.int p0), (.int p1), (.int p2)] below meth c s₁ [] 0 0 := Stand.of_body Bd
  have e0 : s₁.heap = h0 := by rw [← hh, Bd.state]; rfl
  have N0 := Fr.nil n0
  have k0 : own_To p e below s₁ (mkF m 0 #[.val (.int p0), .val (.int p1), .val (.int p2), .unset, .unset, .unset, .unset, .unset] []) s₁ (entryFrame m #[(.int p0), (.int p1), (.int p2)] maxLocals) := fun t k => castTop (own_ef0 m p0 p1 p2) k
  have ki : own_To p e below s₁ (mkF m 0 #[.val (.int p0), .val (.int p1), .val (.int p2), .unset, .unset, .unset, .unset, .unset] []) s₁ (mkF m 0 #[.val (.int p0), .val (.int p1), .val (.int p2), .unset, .unset, .unset, .unset, .unset] []) := fun t q => q
  obtain ⟨T1, h1, kk1, X1, e1, E1, A1, st1⟩ := newP X0 hx hZ (hw _ (List.mem_of_getElem? (i := 0) rfl)) e0 (g := (mkF m 2 #[.val (.int p0), .val (.int p1), .val (.int p2), .unset, .unset, .unset, .unset, .unset] [(.int (28 : Int32))])) rfl (hb hby at_2) rfl (by decide) (cap := 28) (by decide) (by decide) (by decide) (by decide)
  obtain ⟨b1, g1⟩ : ∃ z, z = h0.size := ⟨_, rfl⟩
  rw [← g1] at A1 st1
  have ge_b1 : n0 ≤ b1 := Nat.le_trans Z0 (Nat.le_of_eq g1.symm)
  have K2 : Keep h0 h0 [] := (Keep.refl h0 [])
  have sz_b1 : h0.size ≤ b1 := Nat.le_trans K2.1 (Nat.le_of_eq g1.symm)
  have V1 : Arv Z h1 b1 kk1 .int (28 : Int32) [(.int (0 : Int32)), (.int (0 : Int32)), (.int (0 : Int32)), (.int (0 : Int32)), (.int (0 : Int32)), (.int (0 : Int32)), (.int (0 : Int32)), (.int (0 : Int32)), (.int (0 : Int32)), (.int (0 : Int32)), (.int (0 : Int32)), (.int (0 : Int32)), (.int (0 : Int32)), (.int (0 : Int32)), (.int (0 : Int32)), (.int (0 : Int32)), (.int (0 : Int32)), (.int (0 : Int32)), (.int (0 : Int32)), (.int (0 : Int32)), (.int (0 : Int32)), (.int (0 : Int32)), (.int (0 : Int32)), (.int (0 : Int32)), (.int (0 : Int32)), (.int (0 : Int32)), (.int (0 : Int32)), (.int (0 : Int32))] (.int (0 : Int32)) := (Arv.new A1 (by decide)).pad (pad_rep [] (.int (0 : Int32)) 28)
  obtain ⟨clr3, Arr3, qr3, Sr3, Mr3, Hhr3, Gr3⟩ := id V1
  have hinr3 : ¬ ((0 : Int32) < 0 ∨ clr3.slots.size ≤ ((0 : Int32)).toNatClampNeg) := inb_of Sr3 ⟨by decide, by decide⟩
  obtain ⟨T4, h4, X4, e4, W4, st4⟩ := stI X1 hx hZ e1 Arr3 (j := (0 : Int32)) hinr3 (g := (mkF m 8 #[.val (.int p0), .val (.int p1), .val (.int p2), .unset, .unset, .unset, .unset, .unset] [(.int (65 : Int32)), (.int (0 : Int32)), (.ref b1), (.ref b1)])) rfl rfl (hb hby at_8)
  have N4 := Fr.snoc X4 N0 ge_b1
  obtain ⟨Lf4, Nf4, Xf4⟩ := own_fold X4 N4
  have V4 : Arv Z h4 b1 kk1 .int (28 : Int32) [(.int (65 : Int32)), (.int (0 : Int32)), (.int (0 : Int32)), (.int (0 : Int32)), (.int (0 : Int32)), (.int (0 : Int32)), (.int (0 : Int32)), (.int (0 : Int32)), (.int (0 : Int32)), (.int (0 : Int32)), (.int (0 : Int32)), (.int (0 : Int32)), (.int (0 : Int32)), (.int (0 : Int32)), (.int (0 : Int32)), (.int (0 : Int32)), (.int (0 : Int32)), (.int (0 : Int32)), (.int (0 : Int32)), (.int (0 : Int32)), (.int (0 : Int32)), (.int (0 : Int32)), (.int (0 : Int32)), (.int (0 : Int32)), (.int (0 : Int32)), (.int (0 : Int32)), (.int (0 : Int32)), (.int (0 : Int32))] (.int (0 : Int32)) := Arv.set Arr3 qr3 Sr3 Mr3 Hhr3 Gr3 rfl W4 0 rfl (Nat.le_of_ble_eq_true rfl)
  obtain ⟨clr5, Arr5, qr5, Sr5, Mr5, Hhr5, Gr5⟩ := id V4
  have hinr5 : ¬ ((1 : Int32) < 0 ∨ clr5.slots.size ≤ ((1 : Int32)).toNatClampNeg) := inb_of Sr5 ⟨by decide, by decide⟩
  obtain ⟨T6, h6, X6, e6, W6, st6⟩ := stI Xf4 hx hZ e4 Arr5 (j := (1 : Int32)) hinr5 (g := (mkF m 13 #[.val (.int p0), .val (.int p1), .val (.int p2), .unset, .unset, .unset, .unset, .unset] [(.int (90 : Int32)), (.int (1 : Int32)), (.ref b1), (.ref b1)])) rfl rfl (hb hby at_13)
  have N6 := Fr.snoc X6 Nf4 ge_b1
  obtain ⟨Lf6, Nf6, Xf6⟩ := own_fold X6 N6
  have V6 : Arv Z h6 b1 kk1 .int (28 : Int32) [(.int (65 : Int32)), (.int (90 : Int32)), (.int (0 : Int32)), (.int (0 : Int32)), (.int (0 : Int32)), (.int (0 : Int32)), (.int (0 : Int32)), (.int (0 : Int32)), (.int (0 : Int32)), (.int (0 : Int32)), (.int (0 : Int32)), (.int (0 : Int32)), (.int (0 : Int32)), (.int (0 : Int32)), (.int (0 : Int32)), (.int (0 : Int32)), (.int (0 : Int32)), (.int (0 : Int32)), (.int (0 : Int32)), (.int (0 : Int32)), (.int (0 : Int32)), (.int (0 : Int32)), (.int (0 : Int32)), (.int (0 : Int32)), (.int (0 : Int32)), (.int (0 : Int32)), (.int (0 : Int32)), (.int (0 : Int32))] (.int (0 : Int32)) := Arv.set Arr5 qr5 Sr5 Mr5 Hhr5 Gr5 rfl W6 1 rfl (Nat.le_of_ble_eq_true rfl)
  have k7 : own_To p e below T6 (mkF m 16 #[.val (.int p0), .val (.int p1), .val (.int p2), .unset, .unset, .unset, .unset, .unset] [(.int (2 : Int32)), (.ref b1), (.ref b1)]) s₁ (mkF m 0 #[.val (.int p0), .val (.int p1), .val (.int p2), .unset, .unset, .unset, .unset, .unset] []) := fun t q => ki t (by
    refine XS.bipush X0.here hx rfl (hb hby at_0) ?_
    show Steps p.tables e below (s₁.setTop (mkF m 2 #[.val (.int p0), .val (.int p1), .val (.int p2), .unset, .unset, .unset, .unset, .unset] [(.int (28 : Int32))])) _
    refine st1 _ ?_
    show Steps p.tables e below (T1.setTop (mkF m 4 #[.val (.int p0), .val (.int p1), .val (.int p2), .unset, .unset, .unset, .unset, .unset] [(.ref b1)])) _
    refine XS.dup X1.here hx rfl (hb hby at_4) rfl rfl ?_
    show Steps p.tables e below (T1.setTop (mkF m 5 #[.val (.int p0), .val (.int p1), .val (.int p2), .unset, .unset, .unset, .unset, .unset] [(.ref b1), (.ref b1)])) _
    refine XS.iconst X1.here hx rfl (hb hby at_5) ?_
    show Steps p.tables e below (T1.setTop (mkF m 6 #[.val (.int p0), .val (.int p1), .val (.int p2), .unset, .unset, .unset, .unset, .unset] [(.int (0 : Int32)), (.ref b1), (.ref b1)])) _
    refine XS.bipush X1.here hx rfl (hb hby at_6) ?_
    show Steps p.tables e below (T1.setTop (mkF m 8 #[.val (.int p0), .val (.int p1), .val (.int p2), .unset, .unset, .unset, .unset, .unset] [(.int (65 : Int32)), (.int (0 : Int32)), (.ref b1), (.ref b1)])) _
    refine st4 _ ?_
    show Steps p.tables e below (T4.setTop (mkF m 9 #[.val (.int p0), .val (.int p1), .val (.int p2), .unset, .unset, .unset, .unset, .unset] [(.ref b1)])) _
    refine XS.dup Xf4.here hx rfl (hb hby at_9) rfl rfl ?_
    show Steps p.tables e below (T4.setTop (mkF m 10 #[.val (.int p0), .val (.int p1), .val (.int p2), .unset, .unset, .unset, .unset, .unset] [(.ref b1), (.ref b1)])) _
    refine XS.iconst Xf4.here hx rfl (hb hby at_10) ?_
    show Steps p.tables e below (T4.setTop (mkF m 11 #[.val (.int p0), .val (.int p1), .val (.int p2), .unset, .unset, .unset, .unset, .unset] [(.int (1 : Int32)), (.ref b1), (.ref b1)])) _
    refine XS.bipush Xf4.here hx rfl (hb hby at_11) ?_
    show Steps p.tables e below (T4.setTop (mkF m 13 #[.val (.int p0), .val (.int p1), .val (.int p2), .unset, .unset, .unset, .unset, .unset] [(.int (90 : Int32)), (.int (1 : Int32)), (.ref b1), (.ref b1)])) _
    refine st6 _ ?_
    show Steps p.tables e below (T6.setTop (mkF m 14 #[.val (.int p0), .val (.int p1), .val (.int p2), .unset, .unset, .unset, .unset, .unset] [(.ref b1)])) _
    refine XS.dup Xf6.here hx rfl (hb hby at_14) rfl rfl ?_
    show Steps p.tables e below (T6.setTop (mkF m 15 #[.val (.int p0), .val (.int p1), .val (.int p2), .unset, .unset, .unset, .unset, .unset] [(.ref b1), (.ref b1)])) _
    refine XS.iconst Xf6.here hx rfl (hb hby at_15) ?_
    show Steps p.tables e below (T6.setTop (mkF m 16 #[.val (.int p0), .val (.int p1), .val (.int p2), .unset, .unset, .unset, .unset, .unset] [(.int (2 : Int32)), (.ref b1), (.ref b1)])) _
    exact q)
  obtain ⟨clr8, Arr8, qr8, Sr8, Mr8, Hhr8, Gr8⟩ := id V6
  have hinr8 : ¬ ((2 : Int32) < 0 ∨ clr8.slots.size ≤ ((2 : Int32)).toNatClampNeg) := inb_of Sr8 ⟨by decide, by decide⟩
  obtain ⟨T9, h9, X9, e9, W9, st9⟩ := stI Xf6 hx hZ e6 Arr8 (j := (2 : Int32)) hinr8 (g := (mkF m 18 #[.val (.int p0), .val (.int p1), .val (.int p2), .unset, .unset, .unset, .unset, .unset] [(.int (97 : Int32)), (.int (2 : Int32)), (.ref b1), (.ref b1)])) rfl rfl (hb hby at_18)
  have N9 := Fr.snoc X9 Nf6 ge_b1
  obtain ⟨Lf9, Nf9, Xf9⟩ := own_fold X9 N9
  have V9 : Arv Z h9 b1 kk1 .int (28 : Int32) [(.int (65 : Int32)), (.int (90 : Int32)), (.int (97 : Int32)), (.int (0 : Int32)), (.int (0 : Int32)), (.int (0 : Int32)), (.int (0 : Int32)), (.int (0 : Int32)), (.int (0 : Int32)), (.int (0 : Int32)), (.int (0 : Int32)), (.int (0 : Int32)), (.int (0 : Int32)), (.int (0 : Int32)), (.int (0 : Int32)), (.int (0 : Int32)), (.int (0 : Int32)), (.int (0 : Int32)), (.int (0 : Int32)), (.int (0 : Int32)), (.int (0 : Int32)), (.int (0 : Int32)), (.int (0 : Int32)), (.int (0 : Int32)), (.int (0 : Int32)), (.int (0 : Int32)), (.int (0 : Int32)), (.int (0 : Int32))] (.int (0 : Int32)) := Arv.set Arr8 qr8 Sr8 Mr8 Hhr8 Gr8 rfl W9 2 rfl (Nat.le_of_ble_eq_true rfl)
  obtain ⟨clr10, Arr10, qr10, Sr10, Mr10, Hhr10, Gr10⟩ := id V9
  have hinr10 : ¬ ((3 : Int32) < 0 ∨ clr10.slots.size ≤ ((3 : Int32)).toNatClampNeg) := inb_of Sr10 ⟨by decide, by decide⟩
  obtain ⟨T11, h11, X11, e11, W11, st11⟩ := stI Xf9 hx hZ e9 Arr10 (j := (3 : Int32)) hinr10 (g := (mkF m 23 #[.val (.int p0), .val (.int p1), .val (.int p2), .unset, .unset, .unset, .unset, .unset] [(.int (122 : Int32)), (.int (3 : Int32)), (.ref b1), (.ref b1)])) rfl rfl (hb hby at_23)
  have N11 := Fr.snoc X11 Nf9 ge_b1
  obtain ⟨Lf11, Nf11, Xf11⟩ := own_fold X11 N11
  have V11 : Arv Z h11 b1 kk1 .int (28 : Int32) [(.int (65 : Int32)), (.int (90 : Int32)), (.int (97 : Int32)), (.int (122 : Int32)), (.int (0 : Int32)), (.int (0 : Int32)), (.int (0 : Int32)), (.int (0 : Int32)), (.int (0 : Int32)), (.int (0 : Int32)), (.int (0 : Int32)), (.int (0 : Int32)), (.int (0 : Int32)), (.int (0 : Int32)), (.int (0 : Int32)), (.int (0 : Int32)), (.int (0 : Int32)), (.int (0 : Int32)), (.int (0 : Int32)), (.int (0 : Int32)), (.int (0 : Int32)), (.int (0 : Int32)), (.int (0 : Int32)), (.int (0 : Int32)), (.int (0 : Int32)), (.int (0 : Int32)), (.int (0 : Int32)), (.int (0 : Int32))] (.int (0 : Int32)) := Arv.set Arr10 qr10 Sr10 Mr10 Hhr10 Gr10 rfl W11 3 rfl (Nat.le_of_ble_eq_true rfl)
  obtain ⟨clr12, Arr12, qr12, Sr12, Mr12, Hhr12, Gr12⟩ := id V11
  have hinr12 : ¬ ((4 : Int32) < 0 ∨ clr12.slots.size ≤ ((4 : Int32)).toNatClampNeg) := inb_of Sr12 ⟨by decide, by decide⟩
  obtain ⟨T13, h13, X13, e13, W13, st13⟩ := stI Xf11 hx hZ e11 Arr12 (j := (4 : Int32)) hinr12 (g := (mkF m 29 #[.val (.int p0), .val (.int p1), .val (.int p2), .unset, .unset, .unset, .unset, .unset] [(.int (192 : Int32)), (.int (4 : Int32)), (.ref b1), (.ref b1)])) rfl rfl (hb hby at_29)
  have N13 := Fr.snoc X13 Nf11 ge_b1
  obtain ⟨Lf13, Nf13, Xf13⟩ := own_fold X13 N13
  have V13 : Arv Z h13 b1 kk1 .int (28 : Int32) [(.int (65 : Int32)), (.int (90 : Int32)), (.int (97 : Int32)), (.int (122 : Int32)), (.int (192 : Int32)), (.int (0 : Int32)), (.int (0 : Int32)), (.int (0 : Int32)), (.int (0 : Int32)), (.int (0 : Int32)), (.int (0 : Int32)), (.int (0 : Int32)), (.int (0 : Int32)), (.int (0 : Int32)), (.int (0 : Int32)), (.int (0 : Int32)), (.int (0 : Int32)), (.int (0 : Int32)), (.int (0 : Int32)), (.int (0 : Int32)), (.int (0 : Int32)), (.int (0 : Int32)), (.int (0 : Int32)), (.int (0 : Int32)), (.int (0 : Int32)), (.int (0 : Int32)), (.int (0 : Int32)), (.int (0 : Int32))] (.int (0 : Int32)) := Arv.set Arr12 qr12 Sr12 Mr12 Hhr12 Gr12 rfl W13 4 rfl (Nat.le_of_ble_eq_true rfl)
  have k14 : own_To p e below T13 (mkF m 32 #[.val (.int p0), .val (.int p1), .val (.int p2), .unset, .unset, .unset, .unset, .unset] [(.int (5 : Int32)), (.ref b1), (.ref b1)]) s₁ (mkF m 0 #[.val (.int p0), .val (.int p1), .val (.int p2), .unset, .unset, .unset, .unset, .unset] []) := fun t q => k7 t (by
    refine XS.bipush Xf6.here hx rfl (hb hby at_16) ?_
    show Steps p.tables e below (T6.setTop (mkF m 18 #[.val (.int p0), .val (.int p1), .val (.int p2), .unset, .unset, .unset, .unset, .unset] [(.int (97 : Int32)), (.int (2 : Int32)), (.ref b1), (.ref b1)])) _
    refine st9 _ ?_
    show Steps p.tables e below (T9.setTop (mkF m 19 #[.val (.int p0), .val (.int p1), .val (.int p2), .unset, .unset, .unset, .unset, .unset] [(.ref b1)])) _
    refine XS.dup Xf9.here hx rfl (hb hby at_19) rfl rfl ?_
    show Steps p.tables e below (T9.setTop (mkF m 20 #[.val (.int p0), .val (.int p1), .val (.int p2), .unset, .unset, .unset, .unset, .unset] [(.ref b1), (.ref b1)])) _
    refine XS.iconst Xf9.here hx rfl (hb hby at_20) ?_
    show Steps p.tables e below (T9.setTop (mkF m 21 #[.val (.int p0), .val (.int p1), .val (.int p2), .unset, .unset, .unset, .unset, .unset] [(.int (3 : Int32)), (.ref b1), (.ref b1)])) _
    refine XS.bipush Xf9.here hx rfl (hb hby at_21) ?_
    show Steps p.tables e below (T9.setTop (mkF m 23 #[.val (.int p0), .val (.int p1), .val (.int p2), .unset, .unset, .unset, .unset, .unset] [(.int (122 : Int32)), (.int (3 : Int32)), (.ref b1), (.ref b1)])) _
    refine st11 _ ?_
    show Steps p.tables e below (T11.setTop (mkF m 24 #[.val (.int p0), .val (.int p1), .val (.int p2), .unset, .unset, .unset, .unset, .unset] [(.ref b1)])) _
    refine XS.dup Xf11.here hx rfl (hb hby at_24) rfl rfl ?_
    show Steps p.tables e below (T11.setTop (mkF m 25 #[.val (.int p0), .val (.int p1), .val (.int p2), .unset, .unset, .unset, .unset, .unset] [(.ref b1), (.ref b1)])) _
    refine XS.iconst Xf11.here hx rfl (hb hby at_25) ?_
    show Steps p.tables e below (T11.setTop (mkF m 26 #[.val (.int p0), .val (.int p1), .val (.int p2), .unset, .unset, .unset, .unset, .unset] [(.int (4 : Int32)), (.ref b1), (.ref b1)])) _
    refine XS.sipush Xf11.here hx rfl (hb hby at_26) ?_
    show Steps p.tables e below (T11.setTop (mkF m 29 #[.val (.int p0), .val (.int p1), .val (.int p2), .unset, .unset, .unset, .unset, .unset] [(.int (192 : Int32)), (.int (4 : Int32)), (.ref b1), (.ref b1)])) _
    refine st13 _ ?_
    show Steps p.tables e below (T13.setTop (mkF m 30 #[.val (.int p0), .val (.int p1), .val (.int p2), .unset, .unset, .unset, .unset, .unset] [(.ref b1)])) _
    refine XS.dup Xf13.here hx rfl (hb hby at_30) rfl rfl ?_
    show Steps p.tables e below (T13.setTop (mkF m 31 #[.val (.int p0), .val (.int p1), .val (.int p2), .unset, .unset, .unset, .unset, .unset] [(.ref b1), (.ref b1)])) _
    refine XS.iconst Xf13.here hx rfl (hb hby at_31) ?_
    show Steps p.tables e below (T13.setTop (mkF m 32 #[.val (.int p0), .val (.int p1), .val (.int p2), .unset, .unset, .unset, .unset, .unset] [(.int (5 : Int32)), (.ref b1), (.ref b1)])) _
    exact q)
  obtain ⟨clr15, Arr15, qr15, Sr15, Mr15, Hhr15, Gr15⟩ := id V13
  have hinr15 : ¬ ((5 : Int32) < 0 ∨ clr15.slots.size ≤ ((5 : Int32)).toNatClampNeg) := inb_of Sr15 ⟨by decide, by decide⟩
  obtain ⟨T16, h16, X16, e16, W16, st16⟩ := stI Xf13 hx hZ e13 Arr15 (j := (5 : Int32)) hinr15 (g := (mkF m 35 #[.val (.int p0), .val (.int p1), .val (.int p2), .unset, .unset, .unset, .unset, .unset] [(.int (214 : Int32)), (.int (5 : Int32)), (.ref b1), (.ref b1)])) rfl rfl (hb hby at_35)
  have N16 := Fr.snoc X16 Nf13 ge_b1
  obtain ⟨Lf16, Nf16, Xf16⟩ := own_fold X16 N16
  have V16 : Arv Z h16 b1 kk1 .int (28 : Int32) [(.int (65 : Int32)), (.int (90 : Int32)), (.int (97 : Int32)), (.int (122 : Int32)), (.int (192 : Int32)), (.int (214 : Int32)), (.int (0 : Int32)), (.int (0 : Int32)), (.int (0 : Int32)), (.int (0 : Int32)), (.int (0 : Int32)), (.int (0 : Int32)), (.int (0 : Int32)), (.int (0 : Int32)), (.int (0 : Int32)), (.int (0 : Int32)), (.int (0 : Int32)), (.int (0 : Int32)), (.int (0 : Int32)), (.int (0 : Int32)), (.int (0 : Int32)), (.int (0 : Int32)), (.int (0 : Int32)), (.int (0 : Int32)), (.int (0 : Int32)), (.int (0 : Int32)), (.int (0 : Int32)), (.int (0 : Int32))] (.int (0 : Int32)) := Arv.set Arr15 qr15 Sr15 Mr15 Hhr15 Gr15 rfl W16 5 rfl (Nat.le_of_ble_eq_true rfl)
  obtain ⟨clr17, Arr17, qr17, Sr17, Mr17, Hhr17, Gr17⟩ := id V16
  have hinr17 : ¬ ((6 : Int32) < 0 ∨ clr17.slots.size ≤ ((6 : Int32)).toNatClampNeg) := inb_of Sr17 ⟨by decide, by decide⟩
  obtain ⟨T18, h18, X18, e18, W18, st18⟩ := stI Xf16 hx hZ e16 Arr17 (j := (6 : Int32)) hinr17 (g := (mkF m 42 #[.val (.int p0), .val (.int p1), .val (.int p2), .unset, .unset, .unset, .unset, .unset] [(.int (216 : Int32)), (.int (6 : Int32)), (.ref b1), (.ref b1)])) rfl rfl (hb hby at_42)
  have N18 := Fr.snoc X18 Nf16 ge_b1
  obtain ⟨Lf18, Nf18, Xf18⟩ := own_fold X18 N18
  have V18 : Arv Z h18 b1 kk1 .int (28 : Int32) [(.int (65 : Int32)), (.int (90 : Int32)), (.int (97 : Int32)), (.int (122 : Int32)), (.int (192 : Int32)), (.int (214 : Int32)), (.int (216 : Int32)), (.int (0 : Int32)), (.int (0 : Int32)), (.int (0 : Int32)), (.int (0 : Int32)), (.int (0 : Int32)), (.int (0 : Int32)), (.int (0 : Int32)), (.int (0 : Int32)), (.int (0 : Int32)), (.int (0 : Int32)), (.int (0 : Int32)), (.int (0 : Int32)), (.int (0 : Int32)), (.int (0 : Int32)), (.int (0 : Int32)), (.int (0 : Int32)), (.int (0 : Int32)), (.int (0 : Int32)), (.int (0 : Int32)), (.int (0 : Int32)), (.int (0 : Int32))] (.int (0 : Int32)) := Arv.set Arr17 qr17 Sr17 Mr17 Hhr17 Gr17 rfl W18 6 rfl (Nat.le_of_ble_eq_true rfl)
  obtain ⟨clr19, Arr19, qr19, Sr19, Mr19, Hhr19, Gr19⟩ := id V18
  have hinr19 : ¬ ((7 : Int32) < 0 ∨ clr19.slots.size ≤ ((7 : Int32)).toNatClampNeg) := inb_of Sr19 ⟨by decide, by decide⟩
  obtain ⟨T20, h20, X20, e20, W20, st20⟩ := stI Xf18 hx hZ e18 Arr19 (j := (7 : Int32)) hinr19 (g := (mkF m 49 #[.val (.int p0), .val (.int p1), .val (.int p2), .unset, .unset, .unset, .unset, .unset] [(.int (246 : Int32)), (.int (7 : Int32)), (.ref b1), (.ref b1)])) rfl rfl (hb hby at_49)
  have N20 := Fr.snoc X20 Nf18 ge_b1
  obtain ⟨Lf20, Nf20, Xf20⟩ := own_fold X20 N20
  have V20 : Arv Z h20 b1 kk1 .int (28 : Int32) [(.int (65 : Int32)), (.int (90 : Int32)), (.int (97 : Int32)), (.int (122 : Int32)), (.int (192 : Int32)), (.int (214 : Int32)), (.int (216 : Int32)), (.int (246 : Int32)), (.int (0 : Int32)), (.int (0 : Int32)), (.int (0 : Int32)), (.int (0 : Int32)), (.int (0 : Int32)), (.int (0 : Int32)), (.int (0 : Int32)), (.int (0 : Int32)), (.int (0 : Int32)), (.int (0 : Int32)), (.int (0 : Int32)), (.int (0 : Int32)), (.int (0 : Int32)), (.int (0 : Int32)), (.int (0 : Int32)), (.int (0 : Int32)), (.int (0 : Int32)), (.int (0 : Int32)), (.int (0 : Int32)), (.int (0 : Int32))] (.int (0 : Int32)) := Arv.set Arr19 qr19 Sr19 Mr19 Hhr19 Gr19 rfl W20 7 rfl (Nat.le_of_ble_eq_true rfl)
  have k21 : own_To p e below T20 (mkF m 53 #[.val (.int p0), .val (.int p1), .val (.int p2), .unset, .unset, .unset, .unset, .unset] [(.int (8 : Int32)), (.ref b1), (.ref b1)]) s₁ (mkF m 0 #[.val (.int p0), .val (.int p1), .val (.int p2), .unset, .unset, .unset, .unset, .unset] []) := fun t q => k14 t (by
    refine XS.sipush Xf13.here hx rfl (hb hby at_32) ?_
    show Steps p.tables e below (T13.setTop (mkF m 35 #[.val (.int p0), .val (.int p1), .val (.int p2), .unset, .unset, .unset, .unset, .unset] [(.int (214 : Int32)), (.int (5 : Int32)), (.ref b1), (.ref b1)])) _
    refine st16 _ ?_
    show Steps p.tables e below (T16.setTop (mkF m 36 #[.val (.int p0), .val (.int p1), .val (.int p2), .unset, .unset, .unset, .unset, .unset] [(.ref b1)])) _
    refine XS.dup Xf16.here hx rfl (hb hby at_36) rfl rfl ?_
    show Steps p.tables e below (T16.setTop (mkF m 37 #[.val (.int p0), .val (.int p1), .val (.int p2), .unset, .unset, .unset, .unset, .unset] [(.ref b1), (.ref b1)])) _
    refine XS.bipush Xf16.here hx rfl (hb hby at_37) ?_
    show Steps p.tables e below (T16.setTop (mkF m 39 #[.val (.int p0), .val (.int p1), .val (.int p2), .unset, .unset, .unset, .unset, .unset] [(.int (6 : Int32)), (.ref b1), (.ref b1)])) _
    refine XS.sipush Xf16.here hx rfl (hb hby at_39) ?_
    show Steps p.tables e below (T16.setTop (mkF m 42 #[.val (.int p0), .val (.int p1), .val (.int p2), .unset, .unset, .unset, .unset, .unset] [(.int (216 : Int32)), (.int (6 : Int32)), (.ref b1), (.ref b1)])) _
    refine st18 _ ?_
    show Steps p.tables e below (T18.setTop (mkF m 43 #[.val (.int p0), .val (.int p1), .val (.int p2), .unset, .unset, .unset, .unset, .unset] [(.ref b1)])) _
    refine XS.dup Xf18.here hx rfl (hb hby at_43) rfl rfl ?_
    show Steps p.tables e below (T18.setTop (mkF m 44 #[.val (.int p0), .val (.int p1), .val (.int p2), .unset, .unset, .unset, .unset, .unset] [(.ref b1), (.ref b1)])) _
    refine XS.bipush Xf18.here hx rfl (hb hby at_44) ?_
    show Steps p.tables e below (T18.setTop (mkF m 46 #[.val (.int p0), .val (.int p1), .val (.int p2), .unset, .unset, .unset, .unset, .unset] [(.int (7 : Int32)), (.ref b1), (.ref b1)])) _
    refine XS.sipush Xf18.here hx rfl (hb hby at_46) ?_
    show Steps p.tables e below (T18.setTop (mkF m 49 #[.val (.int p0), .val (.int p1), .val (.int p2), .unset, .unset, .unset, .unset, .unset] [(.int (246 : Int32)), (.int (7 : Int32)), (.ref b1), (.ref b1)])) _
    refine st20 _ ?_
    show Steps p.tables e below (T20.setTop (mkF m 50 #[.val (.int p0), .val (.int p1), .val (.int p2), .unset, .unset, .unset, .unset, .unset] [(.ref b1)])) _
    refine XS.dup Xf20.here hx rfl (hb hby at_50) rfl rfl ?_
    show Steps p.tables e below (T20.setTop (mkF m 51 #[.val (.int p0), .val (.int p1), .val (.int p2), .unset, .unset, .unset, .unset, .unset] [(.ref b1), (.ref b1)])) _
    refine XS.bipush Xf20.here hx rfl (hb hby at_51) ?_
    show Steps p.tables e below (T20.setTop (mkF m 53 #[.val (.int p0), .val (.int p1), .val (.int p2), .unset, .unset, .unset, .unset, .unset] [(.int (8 : Int32)), (.ref b1), (.ref b1)])) _
    exact q)
  obtain ⟨clr22, Arr22, qr22, Sr22, Mr22, Hhr22, Gr22⟩ := id V20
  have hinr22 : ¬ ((8 : Int32) < 0 ∨ clr22.slots.size ≤ ((8 : Int32)).toNatClampNeg) := inb_of Sr22 ⟨by decide, by decide⟩
  obtain ⟨T23, h23, X23, e23, W23, st23⟩ := stI Xf20 hx hZ e20 Arr22 (j := (8 : Int32)) hinr22 (g := (mkF m 56 #[.val (.int p0), .val (.int p1), .val (.int p2), .unset, .unset, .unset, .unset, .unset] [(.int (248 : Int32)), (.int (8 : Int32)), (.ref b1), (.ref b1)])) rfl rfl (hb hby at_56)
  have N23 := Fr.snoc X23 Nf20 ge_b1
  obtain ⟨Lf23, Nf23, Xf23⟩ := own_fold X23 N23
  have V23 : Arv Z h23 b1 kk1 .int (28 : Int32) [(.int (65 : Int32)), (.int (90 : Int32)), (.int (97 : Int32)), (.int (122 : Int32)), (.int (192 : Int32)), (.int (214 : Int32)), (.int (216 : Int32)), (.int (246 : Int32)), (.int (248 : Int32)), (.int (0 : Int32)), (.int (0 : Int32)), (.int (0 : Int32)), (.int (0 : Int32)), (.int (0 : Int32)), (.int (0 : Int32)), (.int (0 : Int32)), (.int (0 : Int32)), (.int (0 : Int32)), (.int (0 : Int32)), (.int (0 : Int32)), (.int (0 : Int32)), (.int (0 : Int32)), (.int (0 : Int32)), (.int (0 : Int32)), (.int (0 : Int32)), (.int (0 : Int32)), (.int (0 : Int32)), (.int (0 : Int32))] (.int (0 : Int32)) := Arv.set Arr22 qr22 Sr22 Mr22 Hhr22 Gr22 rfl W23 8 rfl (Nat.le_of_ble_eq_true rfl)
  obtain ⟨clr24, Arr24, qr24, Sr24, Mr24, Hhr24, Gr24⟩ := id V23
  have hinr24 : ¬ ((9 : Int32) < 0 ∨ clr24.slots.size ≤ ((9 : Int32)).toNatClampNeg) := inb_of Sr24 ⟨by decide, by decide⟩
  obtain ⟨T25, h25, X25, e25, W25, st25⟩ := stI Xf23 hx hZ e23 Arr24 (j := (9 : Int32)) hinr24 (g := (mkF m 63 #[.val (.int p0), .val (.int p1), .val (.int p2), .unset, .unset, .unset, .unset, .unset] [(.int (767 : Int32)), (.int (9 : Int32)), (.ref b1), (.ref b1)])) rfl rfl (hb hby at_63)
  have N25 := Fr.snoc X25 Nf23 ge_b1
  obtain ⟨Lf25, Nf25, Xf25⟩ := own_fold X25 N25
  have V25 : Arv Z h25 b1 kk1 .int (28 : Int32) [(.int (65 : Int32)), (.int (90 : Int32)), (.int (97 : Int32)), (.int (122 : Int32)), (.int (192 : Int32)), (.int (214 : Int32)), (.int (216 : Int32)), (.int (246 : Int32)), (.int (248 : Int32)), (.int (767 : Int32)), (.int (0 : Int32)), (.int (0 : Int32)), (.int (0 : Int32)), (.int (0 : Int32)), (.int (0 : Int32)), (.int (0 : Int32)), (.int (0 : Int32)), (.int (0 : Int32)), (.int (0 : Int32)), (.int (0 : Int32)), (.int (0 : Int32)), (.int (0 : Int32)), (.int (0 : Int32)), (.int (0 : Int32)), (.int (0 : Int32)), (.int (0 : Int32)), (.int (0 : Int32)), (.int (0 : Int32))] (.int (0 : Int32)) := Arv.set Arr24 qr24 Sr24 Mr24 Hhr24 Gr24 rfl W25 9 rfl (Nat.le_of_ble_eq_true rfl)
  obtain ⟨clr26, Arr26, qr26, Sr26, Mr26, Hhr26, Gr26⟩ := id V25
  have hinr26 : ¬ ((10 : Int32) < 0 ∨ clr26.slots.size ≤ ((10 : Int32)).toNatClampNeg) := inb_of Sr26 ⟨by decide, by decide⟩
  obtain ⟨T27, h27, X27, e27, W27, st27⟩ := stI Xf25 hx hZ e25 Arr26 (j := (10 : Int32)) hinr26 (g := (mkF m 70 #[.val (.int p0), .val (.int p1), .val (.int p2), .unset, .unset, .unset, .unset, .unset] [(.int (880 : Int32)), (.int (10 : Int32)), (.ref b1), (.ref b1)])) rfl rfl (hb hby at_70)
  have N27 := Fr.snoc X27 Nf25 ge_b1
  obtain ⟨Lf27, Nf27, Xf27⟩ := own_fold X27 N27
  have V27 : Arv Z h27 b1 kk1 .int (28 : Int32) [(.int (65 : Int32)), (.int (90 : Int32)), (.int (97 : Int32)), (.int (122 : Int32)), (.int (192 : Int32)), (.int (214 : Int32)), (.int (216 : Int32)), (.int (246 : Int32)), (.int (248 : Int32)), (.int (767 : Int32)), (.int (880 : Int32)), (.int (0 : Int32)), (.int (0 : Int32)), (.int (0 : Int32)), (.int (0 : Int32)), (.int (0 : Int32)), (.int (0 : Int32)), (.int (0 : Int32)), (.int (0 : Int32)), (.int (0 : Int32)), (.int (0 : Int32)), (.int (0 : Int32)), (.int (0 : Int32)), (.int (0 : Int32)), (.int (0 : Int32)), (.int (0 : Int32)), (.int (0 : Int32)), (.int (0 : Int32))] (.int (0 : Int32)) := Arv.set Arr26 qr26 Sr26 Mr26 Hhr26 Gr26 rfl W27 10 rfl (Nat.le_of_ble_eq_true rfl)
  have k28 : own_To p e below T27 (mkF m 74 #[.val (.int p0), .val (.int p1), .val (.int p2), .unset, .unset, .unset, .unset, .unset] [(.int (11 : Int32)), (.ref b1), (.ref b1)]) s₁ (mkF m 0 #[.val (.int p0), .val (.int p1), .val (.int p2), .unset, .unset, .unset, .unset, .unset] []) := fun t q => k21 t (by
    refine XS.sipush Xf20.here hx rfl (hb hby at_53) ?_
    show Steps p.tables e below (T20.setTop (mkF m 56 #[.val (.int p0), .val (.int p1), .val (.int p2), .unset, .unset, .unset, .unset, .unset] [(.int (248 : Int32)), (.int (8 : Int32)), (.ref b1), (.ref b1)])) _
    refine st23 _ ?_
    show Steps p.tables e below (T23.setTop (mkF m 57 #[.val (.int p0), .val (.int p1), .val (.int p2), .unset, .unset, .unset, .unset, .unset] [(.ref b1)])) _
    refine XS.dup Xf23.here hx rfl (hb hby at_57) rfl rfl ?_
    show Steps p.tables e below (T23.setTop (mkF m 58 #[.val (.int p0), .val (.int p1), .val (.int p2), .unset, .unset, .unset, .unset, .unset] [(.ref b1), (.ref b1)])) _
    refine XS.bipush Xf23.here hx rfl (hb hby at_58) ?_
    show Steps p.tables e below (T23.setTop (mkF m 60 #[.val (.int p0), .val (.int p1), .val (.int p2), .unset, .unset, .unset, .unset, .unset] [(.int (9 : Int32)), (.ref b1), (.ref b1)])) _
    refine XS.sipush Xf23.here hx rfl (hb hby at_60) ?_
    show Steps p.tables e below (T23.setTop (mkF m 63 #[.val (.int p0), .val (.int p1), .val (.int p2), .unset, .unset, .unset, .unset, .unset] [(.int (767 : Int32)), (.int (9 : Int32)), (.ref b1), (.ref b1)])) _
    refine st25 _ ?_
    show Steps p.tables e below (T25.setTop (mkF m 64 #[.val (.int p0), .val (.int p1), .val (.int p2), .unset, .unset, .unset, .unset, .unset] [(.ref b1)])) _
    refine XS.dup Xf25.here hx rfl (hb hby at_64) rfl rfl ?_
    show Steps p.tables e below (T25.setTop (mkF m 65 #[.val (.int p0), .val (.int p1), .val (.int p2), .unset, .unset, .unset, .unset, .unset] [(.ref b1), (.ref b1)])) _
    refine XS.bipush Xf25.here hx rfl (hb hby at_65) ?_
    show Steps p.tables e below (T25.setTop (mkF m 67 #[.val (.int p0), .val (.int p1), .val (.int p2), .unset, .unset, .unset, .unset, .unset] [(.int (10 : Int32)), (.ref b1), (.ref b1)])) _
    refine XS.sipush Xf25.here hx rfl (hb hby at_67) ?_
    show Steps p.tables e below (T25.setTop (mkF m 70 #[.val (.int p0), .val (.int p1), .val (.int p2), .unset, .unset, .unset, .unset, .unset] [(.int (880 : Int32)), (.int (10 : Int32)), (.ref b1), (.ref b1)])) _
    refine st27 _ ?_
    show Steps p.tables e below (T27.setTop (mkF m 71 #[.val (.int p0), .val (.int p1), .val (.int p2), .unset, .unset, .unset, .unset, .unset] [(.ref b1)])) _
    refine XS.dup Xf27.here hx rfl (hb hby at_71) rfl rfl ?_
    show Steps p.tables e below (T27.setTop (mkF m 72 #[.val (.int p0), .val (.int p1), .val (.int p2), .unset, .unset, .unset, .unset, .unset] [(.ref b1), (.ref b1)])) _
    refine XS.bipush Xf27.here hx rfl (hb hby at_72) ?_
    show Steps p.tables e below (T27.setTop (mkF m 74 #[.val (.int p0), .val (.int p1), .val (.int p2), .unset, .unset, .unset, .unset, .unset] [(.int (11 : Int32)), (.ref b1), (.ref b1)])) _
    exact q)
  obtain ⟨clr29, Arr29, qr29, Sr29, Mr29, Hhr29, Gr29⟩ := id V27
  have hinr29 : ¬ ((11 : Int32) < 0 ∨ clr29.slots.size ≤ ((11 : Int32)).toNatClampNeg) := inb_of Sr29 ⟨by decide, by decide⟩
  obtain ⟨T30, h30, X30, e30, W30, st30⟩ := stI Xf27 hx hZ e27 Arr29 (j := (11 : Int32)) hinr29 (g := (mkF m 77 #[.val (.int p0), .val (.int p1), .val (.int p2), .unset, .unset, .unset, .unset, .unset] [(.int (893 : Int32)), (.int (11 : Int32)), (.ref b1), (.ref b1)])) rfl rfl (hb hby at_77)
  have N30 := Fr.snoc X30 Nf27 ge_b1
  obtain ⟨Lf30, Nf30, Xf30⟩ := own_fold X30 N30
  have V30 : Arv Z h30 b1 kk1 .int (28 : Int32) [(.int (65 : Int32)), (.int (90 : Int32)), (.int (97 : Int32)), (.int (122 : Int32)), (.int (192 : Int32)), (.int (214 : Int32)), (.int (216 : Int32)), (.int (246 : Int32)), (.int (248 : Int32)), (.int (767 : Int32)), (.int (880 : Int32)), (.int (893 : Int32)), (.int (0 : Int32)), (.int (0 : Int32)), (.int (0 : Int32)), (.int (0 : Int32)), (.int (0 : Int32)), (.int (0 : Int32)), (.int (0 : Int32)), (.int (0 : Int32)), (.int (0 : Int32)), (.int (0 : Int32)), (.int (0 : Int32)), (.int (0 : Int32)), (.int (0 : Int32)), (.int (0 : Int32)), (.int (0 : Int32)), (.int (0 : Int32))] (.int (0 : Int32)) := Arv.set Arr29 qr29 Sr29 Mr29 Hhr29 Gr29 rfl W30 11 rfl (Nat.le_of_ble_eq_true rfl)
  obtain ⟨clr31, Arr31, qr31, Sr31, Mr31, Hhr31, Gr31⟩ := id V30
  have hinr31 : ¬ ((12 : Int32) < 0 ∨ clr31.slots.size ≤ ((12 : Int32)).toNatClampNeg) := inb_of Sr31 ⟨by decide, by decide⟩
  obtain ⟨T32, h32, X32, e32, W32, st32⟩ := stI Xf30 hx hZ e30 Arr31 (j := (12 : Int32)) hinr31 (g := (mkF m 84 #[.val (.int p0), .val (.int p1), .val (.int p2), .unset, .unset, .unset, .unset, .unset] [(.int (895 : Int32)), (.int (12 : Int32)), (.ref b1), (.ref b1)])) rfl rfl (hb hby at_84)
  have N32 := Fr.snoc X32 Nf30 ge_b1
  obtain ⟨Lf32, Nf32, Xf32⟩ := own_fold X32 N32
  have V32 : Arv Z h32 b1 kk1 .int (28 : Int32) [(.int (65 : Int32)), (.int (90 : Int32)), (.int (97 : Int32)), (.int (122 : Int32)), (.int (192 : Int32)), (.int (214 : Int32)), (.int (216 : Int32)), (.int (246 : Int32)), (.int (248 : Int32)), (.int (767 : Int32)), (.int (880 : Int32)), (.int (893 : Int32)), (.int (895 : Int32)), (.int (0 : Int32)), (.int (0 : Int32)), (.int (0 : Int32)), (.int (0 : Int32)), (.int (0 : Int32)), (.int (0 : Int32)), (.int (0 : Int32)), (.int (0 : Int32)), (.int (0 : Int32)), (.int (0 : Int32)), (.int (0 : Int32)), (.int (0 : Int32)), (.int (0 : Int32)), (.int (0 : Int32)), (.int (0 : Int32))] (.int (0 : Int32)) := Arv.set Arr31 qr31 Sr31 Mr31 Hhr31 Gr31 rfl W32 12 rfl (Nat.le_of_ble_eq_true rfl)
  obtain ⟨clr33, Arr33, qr33, Sr33, Mr33, Hhr33, Gr33⟩ := id V32
  have hinr33 : ¬ ((13 : Int32) < 0 ∨ clr33.slots.size ≤ ((13 : Int32)).toNatClampNeg) := inb_of Sr33 ⟨by decide, by decide⟩
  obtain ⟨T34, h34, X34, e34, W34, st34⟩ := stI Xf32 hx hZ e32 Arr33 (j := (13 : Int32)) hinr33 (g := (mkF m 91 #[.val (.int p0), .val (.int p1), .val (.int p2), .unset, .unset, .unset, .unset, .unset] [(.int (8191 : Int32)), (.int (13 : Int32)), (.ref b1), (.ref b1)])) rfl rfl (hb hby at_91)
  have N34 := Fr.snoc X34 Nf32 ge_b1
  obtain ⟨Lf34, Nf34, Xf34⟩ := own_fold X34 N34
  have V34 : Arv Z h34 b1 kk1 .int (28 : Int32) [(.int (65 : Int32)), (.int (90 : Int32)), (.int (97 : Int32)), (.int (122 : Int32)), (.int (192 : Int32)), (.int (214 : Int32)), (.int (216 : Int32)), (.int (246 : Int32)), (.int (248 : Int32)), (.int (767 : Int32)), (.int (880 : Int32)), (.int (893 : Int32)), (.int (895 : Int32)), (.int (8191 : Int32)), (.int (0 : Int32)), (.int (0 : Int32)), (.int (0 : Int32)), (.int (0 : Int32)), (.int (0 : Int32)), (.int (0 : Int32)), (.int (0 : Int32)), (.int (0 : Int32)), (.int (0 : Int32)), (.int (0 : Int32)), (.int (0 : Int32)), (.int (0 : Int32)), (.int (0 : Int32)), (.int (0 : Int32))] (.int (0 : Int32)) := Arv.set Arr33 qr33 Sr33 Mr33 Hhr33 Gr33 rfl W34 13 rfl (Nat.le_of_ble_eq_true rfl)
  have k35 : own_To p e below T34 (mkF m 95 #[.val (.int p0), .val (.int p1), .val (.int p2), .unset, .unset, .unset, .unset, .unset] [(.int (14 : Int32)), (.ref b1), (.ref b1)]) s₁ (mkF m 0 #[.val (.int p0), .val (.int p1), .val (.int p2), .unset, .unset, .unset, .unset, .unset] []) := fun t q => k28 t (by
    refine XS.sipush Xf27.here hx rfl (hb hby at_74) ?_
    show Steps p.tables e below (T27.setTop (mkF m 77 #[.val (.int p0), .val (.int p1), .val (.int p2), .unset, .unset, .unset, .unset, .unset] [(.int (893 : Int32)), (.int (11 : Int32)), (.ref b1), (.ref b1)])) _
    refine st30 _ ?_
    show Steps p.tables e below (T30.setTop (mkF m 78 #[.val (.int p0), .val (.int p1), .val (.int p2), .unset, .unset, .unset, .unset, .unset] [(.ref b1)])) _
    refine XS.dup Xf30.here hx rfl (hb hby at_78) rfl rfl ?_
    show Steps p.tables e below (T30.setTop (mkF m 79 #[.val (.int p0), .val (.int p1), .val (.int p2), .unset, .unset, .unset, .unset, .unset] [(.ref b1), (.ref b1)])) _
    refine XS.bipush Xf30.here hx rfl (hb hby at_79) ?_
    show Steps p.tables e below (T30.setTop (mkF m 81 #[.val (.int p0), .val (.int p1), .val (.int p2), .unset, .unset, .unset, .unset, .unset] [(.int (12 : Int32)), (.ref b1), (.ref b1)])) _
    refine XS.sipush Xf30.here hx rfl (hb hby at_81) ?_
    show Steps p.tables e below (T30.setTop (mkF m 84 #[.val (.int p0), .val (.int p1), .val (.int p2), .unset, .unset, .unset, .unset, .unset] [(.int (895 : Int32)), (.int (12 : Int32)), (.ref b1), (.ref b1)])) _
    refine st32 _ ?_
    show Steps p.tables e below (T32.setTop (mkF m 85 #[.val (.int p0), .val (.int p1), .val (.int p2), .unset, .unset, .unset, .unset, .unset] [(.ref b1)])) _
    refine XS.dup Xf32.here hx rfl (hb hby at_85) rfl rfl ?_
    show Steps p.tables e below (T32.setTop (mkF m 86 #[.val (.int p0), .val (.int p1), .val (.int p2), .unset, .unset, .unset, .unset, .unset] [(.ref b1), (.ref b1)])) _
    refine XS.bipush Xf32.here hx rfl (hb hby at_86) ?_
    show Steps p.tables e below (T32.setTop (mkF m 88 #[.val (.int p0), .val (.int p1), .val (.int p2), .unset, .unset, .unset, .unset, .unset] [(.int (13 : Int32)), (.ref b1), (.ref b1)])) _
    refine XS.sipush Xf32.here hx rfl (hb hby at_88) ?_
    show Steps p.tables e below (T32.setTop (mkF m 91 #[.val (.int p0), .val (.int p1), .val (.int p2), .unset, .unset, .unset, .unset, .unset] [(.int (8191 : Int32)), (.int (13 : Int32)), (.ref b1), (.ref b1)])) _
    refine st34 _ ?_
    show Steps p.tables e below (T34.setTop (mkF m 92 #[.val (.int p0), .val (.int p1), .val (.int p2), .unset, .unset, .unset, .unset, .unset] [(.ref b1)])) _
    refine XS.dup Xf34.here hx rfl (hb hby at_92) rfl rfl ?_
    show Steps p.tables e below (T34.setTop (mkF m 93 #[.val (.int p0), .val (.int p1), .val (.int p2), .unset, .unset, .unset, .unset, .unset] [(.ref b1), (.ref b1)])) _
    refine XS.bipush Xf34.here hx rfl (hb hby at_93) ?_
    show Steps p.tables e below (T34.setTop (mkF m 95 #[.val (.int p0), .val (.int p1), .val (.int p2), .unset, .unset, .unset, .unset, .unset] [(.int (14 : Int32)), (.ref b1), (.ref b1)])) _
    exact q)
  obtain ⟨clr36, Arr36, qr36, Sr36, Mr36, Hhr36, Gr36⟩ := id V34
  have hinr36 : ¬ ((14 : Int32) < 0 ∨ clr36.slots.size ≤ ((14 : Int32)).toNatClampNeg) := inb_of Sr36 ⟨by decide, by decide⟩
  obtain ⟨T37, h37, X37, e37, W37, st37⟩ := stI Xf34 hx hZ e34 Arr36 (j := (14 : Int32)) hinr36 (g := (mkF m 98 #[.val (.int p0), .val (.int p1), .val (.int p2), .unset, .unset, .unset, .unset, .unset] [(.int (8204 : Int32)), (.int (14 : Int32)), (.ref b1), (.ref b1)])) rfl rfl (hb hby at_98)
  have N37 := Fr.snoc X37 Nf34 ge_b1
  obtain ⟨Lf37, Nf37, Xf37⟩ := own_fold X37 N37
  have V37 : Arv Z h37 b1 kk1 .int (28 : Int32) [(.int (65 : Int32)), (.int (90 : Int32)), (.int (97 : Int32)), (.int (122 : Int32)), (.int (192 : Int32)), (.int (214 : Int32)), (.int (216 : Int32)), (.int (246 : Int32)), (.int (248 : Int32)), (.int (767 : Int32)), (.int (880 : Int32)), (.int (893 : Int32)), (.int (895 : Int32)), (.int (8191 : Int32)), (.int (8204 : Int32)), (.int (0 : Int32)), (.int (0 : Int32)), (.int (0 : Int32)), (.int (0 : Int32)), (.int (0 : Int32)), (.int (0 : Int32)), (.int (0 : Int32)), (.int (0 : Int32)), (.int (0 : Int32)), (.int (0 : Int32)), (.int (0 : Int32)), (.int (0 : Int32)), (.int (0 : Int32))] (.int (0 : Int32)) := Arv.set Arr36 qr36 Sr36 Mr36 Hhr36 Gr36 rfl W37 14 rfl (Nat.le_of_ble_eq_true rfl)
  obtain ⟨clr38, Arr38, qr38, Sr38, Mr38, Hhr38, Gr38⟩ := id V37
  have hinr38 : ¬ ((15 : Int32) < 0 ∨ clr38.slots.size ≤ ((15 : Int32)).toNatClampNeg) := inb_of Sr38 ⟨by decide, by decide⟩
  obtain ⟨T39, h39, X39, e39, W39, st39⟩ := stI Xf37 hx hZ e37 Arr38 (j := (15 : Int32)) hinr38 (g := (mkF m 105 #[.val (.int p0), .val (.int p1), .val (.int p2), .unset, .unset, .unset, .unset, .unset] [(.int (8205 : Int32)), (.int (15 : Int32)), (.ref b1), (.ref b1)])) rfl rfl (hb hby at_105)
  have N39 := Fr.snoc X39 Nf37 ge_b1
  obtain ⟨Lf39, Nf39, Xf39⟩ := own_fold X39 N39
  have V39 : Arv Z h39 b1 kk1 .int (28 : Int32) [(.int (65 : Int32)), (.int (90 : Int32)), (.int (97 : Int32)), (.int (122 : Int32)), (.int (192 : Int32)), (.int (214 : Int32)), (.int (216 : Int32)), (.int (246 : Int32)), (.int (248 : Int32)), (.int (767 : Int32)), (.int (880 : Int32)), (.int (893 : Int32)), (.int (895 : Int32)), (.int (8191 : Int32)), (.int (8204 : Int32)), (.int (8205 : Int32)), (.int (0 : Int32)), (.int (0 : Int32)), (.int (0 : Int32)), (.int (0 : Int32)), (.int (0 : Int32)), (.int (0 : Int32)), (.int (0 : Int32)), (.int (0 : Int32)), (.int (0 : Int32)), (.int (0 : Int32)), (.int (0 : Int32)), (.int (0 : Int32))] (.int (0 : Int32)) := Arv.set Arr38 qr38 Sr38 Mr38 Hhr38 Gr38 rfl W39 15 rfl (Nat.le_of_ble_eq_true rfl)
  obtain ⟨clr40, Arr40, qr40, Sr40, Mr40, Hhr40, Gr40⟩ := id V39
  have hinr40 : ¬ ((16 : Int32) < 0 ∨ clr40.slots.size ≤ ((16 : Int32)).toNatClampNeg) := inb_of Sr40 ⟨by decide, by decide⟩
  obtain ⟨T41, h41, X41, e41, W41, st41⟩ := stI Xf39 hx hZ e39 Arr40 (j := (16 : Int32)) hinr40 (g := (mkF m 112 #[.val (.int p0), .val (.int p1), .val (.int p2), .unset, .unset, .unset, .unset, .unset] [(.int (8304 : Int32)), (.int (16 : Int32)), (.ref b1), (.ref b1)])) rfl rfl (hb hby at_112)
  have N41 := Fr.snoc X41 Nf39 ge_b1
  obtain ⟨Lf41, Nf41, Xf41⟩ := own_fold X41 N41
  have V41 : Arv Z h41 b1 kk1 .int (28 : Int32) [(.int (65 : Int32)), (.int (90 : Int32)), (.int (97 : Int32)), (.int (122 : Int32)), (.int (192 : Int32)), (.int (214 : Int32)), (.int (216 : Int32)), (.int (246 : Int32)), (.int (248 : Int32)), (.int (767 : Int32)), (.int (880 : Int32)), (.int (893 : Int32)), (.int (895 : Int32)), (.int (8191 : Int32)), (.int (8204 : Int32)), (.int (8205 : Int32)), (.int (8304 : Int32)), (.int (0 : Int32)), (.int (0 : Int32)), (.int (0 : Int32)), (.int (0 : Int32)), (.int (0 : Int32)), (.int (0 : Int32)), (.int (0 : Int32)), (.int (0 : Int32)), (.int (0 : Int32)), (.int (0 : Int32)), (.int (0 : Int32))] (.int (0 : Int32)) := Arv.set Arr40 qr40 Sr40 Mr40 Hhr40 Gr40 rfl W41 16 rfl (Nat.le_of_ble_eq_true rfl)
  have k42 : own_To p e below T41 (mkF m 116 #[.val (.int p0), .val (.int p1), .val (.int p2), .unset, .unset, .unset, .unset, .unset] [(.int (17 : Int32)), (.ref b1), (.ref b1)]) s₁ (mkF m 0 #[.val (.int p0), .val (.int p1), .val (.int p2), .unset, .unset, .unset, .unset, .unset] []) := fun t q => k35 t (by
    refine XS.sipush Xf34.here hx rfl (hb hby at_95) ?_
    show Steps p.tables e below (T34.setTop (mkF m 98 #[.val (.int p0), .val (.int p1), .val (.int p2), .unset, .unset, .unset, .unset, .unset] [(.int (8204 : Int32)), (.int (14 : Int32)), (.ref b1), (.ref b1)])) _
    refine st37 _ ?_
    show Steps p.tables e below (T37.setTop (mkF m 99 #[.val (.int p0), .val (.int p1), .val (.int p2), .unset, .unset, .unset, .unset, .unset] [(.ref b1)])) _
    refine XS.dup Xf37.here hx rfl (hb hby at_99) rfl rfl ?_
    show Steps p.tables e below (T37.setTop (mkF m 100 #[.val (.int p0), .val (.int p1), .val (.int p2), .unset, .unset, .unset, .unset, .unset] [(.ref b1), (.ref b1)])) _
    refine XS.bipush Xf37.here hx rfl (hb hby at_100) ?_
    show Steps p.tables e below (T37.setTop (mkF m 102 #[.val (.int p0), .val (.int p1), .val (.int p2), .unset, .unset, .unset, .unset, .unset] [(.int (15 : Int32)), (.ref b1), (.ref b1)])) _
    refine XS.sipush Xf37.here hx rfl (hb hby at_102) ?_
    show Steps p.tables e below (T37.setTop (mkF m 105 #[.val (.int p0), .val (.int p1), .val (.int p2), .unset, .unset, .unset, .unset, .unset] [(.int (8205 : Int32)), (.int (15 : Int32)), (.ref b1), (.ref b1)])) _
    refine st39 _ ?_
    show Steps p.tables e below (T39.setTop (mkF m 106 #[.val (.int p0), .val (.int p1), .val (.int p2), .unset, .unset, .unset, .unset, .unset] [(.ref b1)])) _
    refine XS.dup Xf39.here hx rfl (hb hby at_106) rfl rfl ?_
    show Steps p.tables e below (T39.setTop (mkF m 107 #[.val (.int p0), .val (.int p1), .val (.int p2), .unset, .unset, .unset, .unset, .unset] [(.ref b1), (.ref b1)])) _
    refine XS.bipush Xf39.here hx rfl (hb hby at_107) ?_
    show Steps p.tables e below (T39.setTop (mkF m 109 #[.val (.int p0), .val (.int p1), .val (.int p2), .unset, .unset, .unset, .unset, .unset] [(.int (16 : Int32)), (.ref b1), (.ref b1)])) _
    refine XS.sipush Xf39.here hx rfl (hb hby at_109) ?_
    show Steps p.tables e below (T39.setTop (mkF m 112 #[.val (.int p0), .val (.int p1), .val (.int p2), .unset, .unset, .unset, .unset, .unset] [(.int (8304 : Int32)), (.int (16 : Int32)), (.ref b1), (.ref b1)])) _
    refine st41 _ ?_
    show Steps p.tables e below (T41.setTop (mkF m 113 #[.val (.int p0), .val (.int p1), .val (.int p2), .unset, .unset, .unset, .unset, .unset] [(.ref b1)])) _
    refine XS.dup Xf41.here hx rfl (hb hby at_113) rfl rfl ?_
    show Steps p.tables e below (T41.setTop (mkF m 114 #[.val (.int p0), .val (.int p1), .val (.int p2), .unset, .unset, .unset, .unset, .unset] [(.ref b1), (.ref b1)])) _
    refine XS.bipush Xf41.here hx rfl (hb hby at_114) ?_
    show Steps p.tables e below (T41.setTop (mkF m 116 #[.val (.int p0), .val (.int p1), .val (.int p2), .unset, .unset, .unset, .unset, .unset] [(.int (17 : Int32)), (.ref b1), (.ref b1)])) _
    exact q)
  obtain ⟨clr43, Arr43, qr43, Sr43, Mr43, Hhr43, Gr43⟩ := id V41
  have hinr43 : ¬ ((17 : Int32) < 0 ∨ clr43.slots.size ≤ ((17 : Int32)).toNatClampNeg) := inb_of Sr43 ⟨by decide, by decide⟩
  obtain ⟨T44, h44, X44, e44, W44, st44⟩ := stI Xf41 hx hZ e41 Arr43 (j := (17 : Int32)) hinr43 (g := (mkF m 119 #[.val (.int p0), .val (.int p1), .val (.int p2), .unset, .unset, .unset, .unset, .unset] [(.int (8591 : Int32)), (.int (17 : Int32)), (.ref b1), (.ref b1)])) rfl rfl (hb hby at_119)
  have N44 := Fr.snoc X44 Nf41 ge_b1
  obtain ⟨Lf44, Nf44, Xf44⟩ := own_fold X44 N44
  have V44 : Arv Z h44 b1 kk1 .int (28 : Int32) [(.int (65 : Int32)), (.int (90 : Int32)), (.int (97 : Int32)), (.int (122 : Int32)), (.int (192 : Int32)), (.int (214 : Int32)), (.int (216 : Int32)), (.int (246 : Int32)), (.int (248 : Int32)), (.int (767 : Int32)), (.int (880 : Int32)), (.int (893 : Int32)), (.int (895 : Int32)), (.int (8191 : Int32)), (.int (8204 : Int32)), (.int (8205 : Int32)), (.int (8304 : Int32)), (.int (8591 : Int32)), (.int (0 : Int32)), (.int (0 : Int32)), (.int (0 : Int32)), (.int (0 : Int32)), (.int (0 : Int32)), (.int (0 : Int32)), (.int (0 : Int32)), (.int (0 : Int32)), (.int (0 : Int32)), (.int (0 : Int32))] (.int (0 : Int32)) := Arv.set Arr43 qr43 Sr43 Mr43 Hhr43 Gr43 rfl W44 17 rfl (Nat.le_of_ble_eq_true rfl)
  obtain ⟨clr45, Arr45, qr45, Sr45, Mr45, Hhr45, Gr45⟩ := id V44
  have hinr45 : ¬ ((18 : Int32) < 0 ∨ clr45.slots.size ≤ ((18 : Int32)).toNatClampNeg) := inb_of Sr45 ⟨by decide, by decide⟩
  obtain ⟨T46, h46, X46, e46, W46, st46⟩ := stI Xf44 hx hZ e44 Arr45 (j := (18 : Int32)) hinr45 (g := (mkF m 126 #[.val (.int p0), .val (.int p1), .val (.int p2), .unset, .unset, .unset, .unset, .unset] [(.int (11264 : Int32)), (.int (18 : Int32)), (.ref b1), (.ref b1)])) rfl rfl (hb hby at_126)
  have N46 := Fr.snoc X46 Nf44 ge_b1
  obtain ⟨Lf46, Nf46, Xf46⟩ := own_fold X46 N46
  have V46 : Arv Z h46 b1 kk1 .int (28 : Int32) [(.int (65 : Int32)), (.int (90 : Int32)), (.int (97 : Int32)), (.int (122 : Int32)), (.int (192 : Int32)), (.int (214 : Int32)), (.int (216 : Int32)), (.int (246 : Int32)), (.int (248 : Int32)), (.int (767 : Int32)), (.int (880 : Int32)), (.int (893 : Int32)), (.int (895 : Int32)), (.int (8191 : Int32)), (.int (8204 : Int32)), (.int (8205 : Int32)), (.int (8304 : Int32)), (.int (8591 : Int32)), (.int (11264 : Int32)), (.int (0 : Int32)), (.int (0 : Int32)), (.int (0 : Int32)), (.int (0 : Int32)), (.int (0 : Int32)), (.int (0 : Int32)), (.int (0 : Int32)), (.int (0 : Int32)), (.int (0 : Int32))] (.int (0 : Int32)) := Arv.set Arr45 qr45 Sr45 Mr45 Hhr45 Gr45 rfl W46 18 rfl (Nat.le_of_ble_eq_true rfl)
  obtain ⟨clr47, Arr47, qr47, Sr47, Mr47, Hhr47, Gr47⟩ := id V46
  have hinr47 : ¬ ((19 : Int32) < 0 ∨ clr47.slots.size ≤ ((19 : Int32)).toNatClampNeg) := inb_of Sr47 ⟨by decide, by decide⟩
  obtain ⟨T48, h48, X48, e48, W48, st48⟩ := stI Xf46 hx hZ e46 Arr47 (j := (19 : Int32)) hinr47 (g := (mkF m 133 #[.val (.int p0), .val (.int p1), .val (.int p2), .unset, .unset, .unset, .unset, .unset] [(.int (12271 : Int32)), (.int (19 : Int32)), (.ref b1), (.ref b1)])) rfl rfl (hb hby at_133)
  have N48 := Fr.snoc X48 Nf46 ge_b1
  obtain ⟨Lf48, Nf48, Xf48⟩ := own_fold X48 N48
  have V48 : Arv Z h48 b1 kk1 .int (28 : Int32) [(.int (65 : Int32)), (.int (90 : Int32)), (.int (97 : Int32)), (.int (122 : Int32)), (.int (192 : Int32)), (.int (214 : Int32)), (.int (216 : Int32)), (.int (246 : Int32)), (.int (248 : Int32)), (.int (767 : Int32)), (.int (880 : Int32)), (.int (893 : Int32)), (.int (895 : Int32)), (.int (8191 : Int32)), (.int (8204 : Int32)), (.int (8205 : Int32)), (.int (8304 : Int32)), (.int (8591 : Int32)), (.int (11264 : Int32)), (.int (12271 : Int32)), (.int (0 : Int32)), (.int (0 : Int32)), (.int (0 : Int32)), (.int (0 : Int32)), (.int (0 : Int32)), (.int (0 : Int32)), (.int (0 : Int32)), (.int (0 : Int32))] (.int (0 : Int32)) := Arv.set Arr47 qr47 Sr47 Mr47 Hhr47 Gr47 rfl W48 19 rfl (Nat.le_of_ble_eq_true rfl)
  have k49 : own_To p e below T48 (mkF m 137 #[.val (.int p0), .val (.int p1), .val (.int p2), .unset, .unset, .unset, .unset, .unset] [(.int (20 : Int32)), (.ref b1), (.ref b1)]) s₁ (mkF m 0 #[.val (.int p0), .val (.int p1), .val (.int p2), .unset, .unset, .unset, .unset, .unset] []) := fun t q => k42 t (by
    refine XS.sipush Xf41.here hx rfl (hb hby at_116) ?_
    show Steps p.tables e below (T41.setTop (mkF m 119 #[.val (.int p0), .val (.int p1), .val (.int p2), .unset, .unset, .unset, .unset, .unset] [(.int (8591 : Int32)), (.int (17 : Int32)), (.ref b1), (.ref b1)])) _
    refine st44 _ ?_
    show Steps p.tables e below (T44.setTop (mkF m 120 #[.val (.int p0), .val (.int p1), .val (.int p2), .unset, .unset, .unset, .unset, .unset] [(.ref b1)])) _
    refine XS.dup Xf44.here hx rfl (hb hby at_120) rfl rfl ?_
    show Steps p.tables e below (T44.setTop (mkF m 121 #[.val (.int p0), .val (.int p1), .val (.int p2), .unset, .unset, .unset, .unset, .unset] [(.ref b1), (.ref b1)])) _
    refine XS.bipush Xf44.here hx rfl (hb hby at_121) ?_
    show Steps p.tables e below (T44.setTop (mkF m 123 #[.val (.int p0), .val (.int p1), .val (.int p2), .unset, .unset, .unset, .unset, .unset] [(.int (18 : Int32)), (.ref b1), (.ref b1)])) _
    refine XS.sipush Xf44.here hx rfl (hb hby at_123) ?_
    show Steps p.tables e below (T44.setTop (mkF m 126 #[.val (.int p0), .val (.int p1), .val (.int p2), .unset, .unset, .unset, .unset, .unset] [(.int (11264 : Int32)), (.int (18 : Int32)), (.ref b1), (.ref b1)])) _
    refine st46 _ ?_
    show Steps p.tables e below (T46.setTop (mkF m 127 #[.val (.int p0), .val (.int p1), .val (.int p2), .unset, .unset, .unset, .unset, .unset] [(.ref b1)])) _
    refine XS.dup Xf46.here hx rfl (hb hby at_127) rfl rfl ?_
    show Steps p.tables e below (T46.setTop (mkF m 128 #[.val (.int p0), .val (.int p1), .val (.int p2), .unset, .unset, .unset, .unset, .unset] [(.ref b1), (.ref b1)])) _
    refine XS.bipush Xf46.here hx rfl (hb hby at_128) ?_
    show Steps p.tables e below (T46.setTop (mkF m 130 #[.val (.int p0), .val (.int p1), .val (.int p2), .unset, .unset, .unset, .unset, .unset] [(.int (19 : Int32)), (.ref b1), (.ref b1)])) _
    refine XS.sipush Xf46.here hx rfl (hb hby at_130) ?_
    show Steps p.tables e below (T46.setTop (mkF m 133 #[.val (.int p0), .val (.int p1), .val (.int p2), .unset, .unset, .unset, .unset, .unset] [(.int (12271 : Int32)), (.int (19 : Int32)), (.ref b1), (.ref b1)])) _
    refine st48 _ ?_
    show Steps p.tables e below (T48.setTop (mkF m 134 #[.val (.int p0), .val (.int p1), .val (.int p2), .unset, .unset, .unset, .unset, .unset] [(.ref b1)])) _
    refine XS.dup Xf48.here hx rfl (hb hby at_134) rfl rfl ?_
    show Steps p.tables e below (T48.setTop (mkF m 135 #[.val (.int p0), .val (.int p1), .val (.int p2), .unset, .unset, .unset, .unset, .unset] [(.ref b1), (.ref b1)])) _
    refine XS.bipush Xf48.here hx rfl (hb hby at_135) ?_
    show Steps p.tables e below (T48.setTop (mkF m 137 #[.val (.int p0), .val (.int p1), .val (.int p2), .unset, .unset, .unset, .unset, .unset] [(.int (20 : Int32)), (.ref b1), (.ref b1)])) _
    exact q)
  obtain ⟨clr50, Arr50, qr50, Sr50, Mr50, Hhr50, Gr50⟩ := id V48
  have hinr50 : ¬ ((20 : Int32) < 0 ∨ clr50.slots.size ≤ ((20 : Int32)).toNatClampNeg) := inb_of Sr50 ⟨by decide, by decide⟩
  obtain ⟨T51, h51, X51, e51, W51, st51⟩ := stI Xf48 hx hZ e48 Arr50 (j := (20 : Int32)) hinr50 (g := (mkF m 140 #[.val (.int p0), .val (.int p1), .val (.int p2), .unset, .unset, .unset, .unset, .unset] [(.int (12289 : Int32)), (.int (20 : Int32)), (.ref b1), (.ref b1)])) rfl rfl (hb hby at_140)
  have N51 := Fr.snoc X51 Nf48 ge_b1
  obtain ⟨Lf51, Nf51, Xf51⟩ := own_fold X51 N51
  have V51 : Arv Z h51 b1 kk1 .int (28 : Int32) [(.int (65 : Int32)), (.int (90 : Int32)), (.int (97 : Int32)), (.int (122 : Int32)), (.int (192 : Int32)), (.int (214 : Int32)), (.int (216 : Int32)), (.int (246 : Int32)), (.int (248 : Int32)), (.int (767 : Int32)), (.int (880 : Int32)), (.int (893 : Int32)), (.int (895 : Int32)), (.int (8191 : Int32)), (.int (8204 : Int32)), (.int (8205 : Int32)), (.int (8304 : Int32)), (.int (8591 : Int32)), (.int (11264 : Int32)), (.int (12271 : Int32)), (.int (12289 : Int32)), (.int (0 : Int32)), (.int (0 : Int32)), (.int (0 : Int32)), (.int (0 : Int32)), (.int (0 : Int32)), (.int (0 : Int32)), (.int (0 : Int32))] (.int (0 : Int32)) := Arv.set Arr50 qr50 Sr50 Mr50 Hhr50 Gr50 rfl W51 20 rfl (Nat.le_of_ble_eq_true rfl)
  obtain ⟨clr52, Arr52, qr52, Sr52, Mr52, Hhr52, Gr52⟩ := id V51
  have hinr52 : ¬ ((21 : Int32) < 0 ∨ clr52.slots.size ≤ ((21 : Int32)).toNatClampNeg) := inb_of Sr52 ⟨by decide, by decide⟩
  obtain ⟨T53, h53, X53, e53, W53, st53⟩ := stI Xf51 hx hZ e51 Arr52 (j := (21 : Int32)) hinr52 (g := (mkF m 146 #[.val (.int p0), .val (.int p1), .val (.int p2), .unset, .unset, .unset, .unset, .unset] [(.int (55295 : Int32)), (.int (21 : Int32)), (.ref b1), (.ref b1)])) rfl rfl (hb hby at_146)
  have N53 := Fr.snoc X53 Nf51 ge_b1
  obtain ⟨Lf53, Nf53, Xf53⟩ := own_fold X53 N53
  have V53 : Arv Z h53 b1 kk1 .int (28 : Int32) [(.int (65 : Int32)), (.int (90 : Int32)), (.int (97 : Int32)), (.int (122 : Int32)), (.int (192 : Int32)), (.int (214 : Int32)), (.int (216 : Int32)), (.int (246 : Int32)), (.int (248 : Int32)), (.int (767 : Int32)), (.int (880 : Int32)), (.int (893 : Int32)), (.int (895 : Int32)), (.int (8191 : Int32)), (.int (8204 : Int32)), (.int (8205 : Int32)), (.int (8304 : Int32)), (.int (8591 : Int32)), (.int (11264 : Int32)), (.int (12271 : Int32)), (.int (12289 : Int32)), (.int (55295 : Int32)), (.int (0 : Int32)), (.int (0 : Int32)), (.int (0 : Int32)), (.int (0 : Int32)), (.int (0 : Int32)), (.int (0 : Int32))] (.int (0 : Int32)) := Arv.set Arr52 qr52 Sr52 Mr52 Hhr52 Gr52 rfl W53 21 rfl (Nat.le_of_ble_eq_true rfl)
  obtain ⟨clr54, Arr54, qr54, Sr54, Mr54, Hhr54, Gr54⟩ := id V53
  have hinr54 : ¬ ((22 : Int32) < 0 ∨ clr54.slots.size ≤ ((22 : Int32)).toNatClampNeg) := inb_of Sr54 ⟨by decide, by decide⟩
  obtain ⟨T55, h55, X55, e55, W55, st55⟩ := stI Xf53 hx hZ e53 Arr54 (j := (22 : Int32)) hinr54 (g := (mkF m 152 #[.val (.int p0), .val (.int p1), .val (.int p2), .unset, .unset, .unset, .unset, .unset] [(.int (63744 : Int32)), (.int (22 : Int32)), (.ref b1), (.ref b1)])) rfl rfl (hb hby at_152)
  have N55 := Fr.snoc X55 Nf53 ge_b1
  obtain ⟨Lf55, Nf55, Xf55⟩ := own_fold X55 N55
  have V55 : Arv Z h55 b1 kk1 .int (28 : Int32) [(.int (65 : Int32)), (.int (90 : Int32)), (.int (97 : Int32)), (.int (122 : Int32)), (.int (192 : Int32)), (.int (214 : Int32)), (.int (216 : Int32)), (.int (246 : Int32)), (.int (248 : Int32)), (.int (767 : Int32)), (.int (880 : Int32)), (.int (893 : Int32)), (.int (895 : Int32)), (.int (8191 : Int32)), (.int (8204 : Int32)), (.int (8205 : Int32)), (.int (8304 : Int32)), (.int (8591 : Int32)), (.int (11264 : Int32)), (.int (12271 : Int32)), (.int (12289 : Int32)), (.int (55295 : Int32)), (.int (63744 : Int32)), (.int (0 : Int32)), (.int (0 : Int32)), (.int (0 : Int32)), (.int (0 : Int32)), (.int (0 : Int32))] (.int (0 : Int32)) := Arv.set Arr54 qr54 Sr54 Mr54 Hhr54 Gr54 rfl W55 22 rfl (Nat.le_of_ble_eq_true rfl)
  have k56 : own_To p e below T55 (mkF m 156 #[.val (.int p0), .val (.int p1), .val (.int p2), .unset, .unset, .unset, .unset, .unset] [(.int (23 : Int32)), (.ref b1), (.ref b1)]) s₁ (mkF m 0 #[.val (.int p0), .val (.int p1), .val (.int p2), .unset, .unset, .unset, .unset, .unset] []) := fun t q => k49 t (by
    refine XS.sipush Xf48.here hx rfl (hb hby at_137) ?_
    show Steps p.tables e below (T48.setTop (mkF m 140 #[.val (.int p0), .val (.int p1), .val (.int p2), .unset, .unset, .unset, .unset, .unset] [(.int (12289 : Int32)), (.int (20 : Int32)), (.ref b1), (.ref b1)])) _
    refine st51 _ ?_
    show Steps p.tables e below (T51.setTop (mkF m 141 #[.val (.int p0), .val (.int p1), .val (.int p2), .unset, .unset, .unset, .unset, .unset] [(.ref b1)])) _
    refine XS.dup Xf51.here hx rfl (hb hby at_141) rfl rfl ?_
    show Steps p.tables e below (T51.setTop (mkF m 142 #[.val (.int p0), .val (.int p1), .val (.int p2), .unset, .unset, .unset, .unset, .unset] [(.ref b1), (.ref b1)])) _
    refine XS.bipush Xf51.here hx rfl (hb hby at_142) ?_
    show Steps p.tables e below (T51.setTop (mkF m 144 #[.val (.int p0), .val (.int p1), .val (.int p2), .unset, .unset, .unset, .unset, .unset] [(.int (21 : Int32)), (.ref b1), (.ref b1)])) _
    refine Xf51.ldcInt hx hown (mvT hZ (hw _ (List.mem_of_getElem? (i := 1) rfl))) (g := (mkF m 144 #[.val (.int p0), .val (.int p1), .val (.int p2), .unset, .unset, .unset, .unset, .unset] [(.int (21 : Int32)), (.ref b1), (.ref b1)])) rfl (hb hby at_144) _ ?_
    show Steps p.tables e below (T51.setTop (mkF m 146 #[.val (.int p0), .val (.int p1), .val (.int p2), .unset, .unset, .unset, .unset, .unset] [(.int (55295 : Int32)), (.int (21 : Int32)), (.ref b1), (.ref b1)])) _
    refine st53 _ ?_
    show Steps p.tables e below (T53.setTop (mkF m 147 #[.val (.int p0), .val (.int p1), .val (.int p2), .unset, .unset, .unset, .unset, .unset] [(.ref b1)])) _
    refine XS.dup Xf53.here hx rfl (hb hby at_147) rfl rfl ?_
    show Steps p.tables e below (T53.setTop (mkF m 148 #[.val (.int p0), .val (.int p1), .val (.int p2), .unset, .unset, .unset, .unset, .unset] [(.ref b1), (.ref b1)])) _
    refine XS.bipush Xf53.here hx rfl (hb hby at_148) ?_
    show Steps p.tables e below (T53.setTop (mkF m 150 #[.val (.int p0), .val (.int p1), .val (.int p2), .unset, .unset, .unset, .unset, .unset] [(.int (22 : Int32)), (.ref b1), (.ref b1)])) _
    refine Xf53.ldcInt hx hown (mvT hZ (hw _ (List.mem_of_getElem? (i := 2) rfl))) (g := (mkF m 150 #[.val (.int p0), .val (.int p1), .val (.int p2), .unset, .unset, .unset, .unset, .unset] [(.int (22 : Int32)), (.ref b1), (.ref b1)])) rfl (hb hby at_150) _ ?_
    show Steps p.tables e below (T53.setTop (mkF m 152 #[.val (.int p0), .val (.int p1), .val (.int p2), .unset, .unset, .unset, .unset, .unset] [(.int (63744 : Int32)), (.int (22 : Int32)), (.ref b1), (.ref b1)])) _
    refine st55 _ ?_
    show Steps p.tables e below (T55.setTop (mkF m 153 #[.val (.int p0), .val (.int p1), .val (.int p2), .unset, .unset, .unset, .unset, .unset] [(.ref b1)])) _
    refine XS.dup Xf55.here hx rfl (hb hby at_153) rfl rfl ?_
    show Steps p.tables e below (T55.setTop (mkF m 154 #[.val (.int p0), .val (.int p1), .val (.int p2), .unset, .unset, .unset, .unset, .unset] [(.ref b1), (.ref b1)])) _
    refine XS.bipush Xf55.here hx rfl (hb hby at_154) ?_
    show Steps p.tables e below (T55.setTop (mkF m 156 #[.val (.int p0), .val (.int p1), .val (.int p2), .unset, .unset, .unset, .unset, .unset] [(.int (23 : Int32)), (.ref b1), (.ref b1)])) _
    exact q)
  obtain ⟨clr57, Arr57, qr57, Sr57, Mr57, Hhr57, Gr57⟩ := id V55
  have hinr57 : ¬ ((23 : Int32) < 0 ∨ clr57.slots.size ≤ ((23 : Int32)).toNatClampNeg) := inb_of Sr57 ⟨by decide, by decide⟩
  obtain ⟨T58, h58, X58, e58, W58, st58⟩ := stI Xf55 hx hZ e55 Arr57 (j := (23 : Int32)) hinr57 (g := (mkF m 158 #[.val (.int p0), .val (.int p1), .val (.int p2), .unset, .unset, .unset, .unset, .unset] [(.int (64975 : Int32)), (.int (23 : Int32)), (.ref b1), (.ref b1)])) rfl rfl (hb hby at_158)
  have N58 := Fr.snoc X58 Nf55 ge_b1
  obtain ⟨Lf58, Nf58, Xf58⟩ := own_fold X58 N58
  have V58 : Arv Z h58 b1 kk1 .int (28 : Int32) [(.int (65 : Int32)), (.int (90 : Int32)), (.int (97 : Int32)), (.int (122 : Int32)), (.int (192 : Int32)), (.int (214 : Int32)), (.int (216 : Int32)), (.int (246 : Int32)), (.int (248 : Int32)), (.int (767 : Int32)), (.int (880 : Int32)), (.int (893 : Int32)), (.int (895 : Int32)), (.int (8191 : Int32)), (.int (8204 : Int32)), (.int (8205 : Int32)), (.int (8304 : Int32)), (.int (8591 : Int32)), (.int (11264 : Int32)), (.int (12271 : Int32)), (.int (12289 : Int32)), (.int (55295 : Int32)), (.int (63744 : Int32)), (.int (64975 : Int32)), (.int (0 : Int32)), (.int (0 : Int32)), (.int (0 : Int32)), (.int (0 : Int32))] (.int (0 : Int32)) := Arv.set Arr57 qr57 Sr57 Mr57 Hhr57 Gr57 rfl W58 23 rfl (Nat.le_of_ble_eq_true rfl)
  obtain ⟨clr59, Arr59, qr59, Sr59, Mr59, Hhr59, Gr59⟩ := id V58
  have hinr59 : ¬ ((24 : Int32) < 0 ∨ clr59.slots.size ≤ ((24 : Int32)).toNatClampNeg) := inb_of Sr59 ⟨by decide, by decide⟩
  obtain ⟨T60, h60, X60, e60, W60, st60⟩ := stI Xf58 hx hZ e58 Arr59 (j := (24 : Int32)) hinr59 (g := (mkF m 164 #[.val (.int p0), .val (.int p1), .val (.int p2), .unset, .unset, .unset, .unset, .unset] [(.int (65008 : Int32)), (.int (24 : Int32)), (.ref b1), (.ref b1)])) rfl rfl (hb hby at_164)
  have N60 := Fr.snoc X60 Nf58 ge_b1
  obtain ⟨Lf60, Nf60, Xf60⟩ := own_fold X60 N60
  have V60 : Arv Z h60 b1 kk1 .int (28 : Int32) [(.int (65 : Int32)), (.int (90 : Int32)), (.int (97 : Int32)), (.int (122 : Int32)), (.int (192 : Int32)), (.int (214 : Int32)), (.int (216 : Int32)), (.int (246 : Int32)), (.int (248 : Int32)), (.int (767 : Int32)), (.int (880 : Int32)), (.int (893 : Int32)), (.int (895 : Int32)), (.int (8191 : Int32)), (.int (8204 : Int32)), (.int (8205 : Int32)), (.int (8304 : Int32)), (.int (8591 : Int32)), (.int (11264 : Int32)), (.int (12271 : Int32)), (.int (12289 : Int32)), (.int (55295 : Int32)), (.int (63744 : Int32)), (.int (64975 : Int32)), (.int (65008 : Int32)), (.int (0 : Int32)), (.int (0 : Int32)), (.int (0 : Int32))] (.int (0 : Int32)) := Arv.set Arr59 qr59 Sr59 Mr59 Hhr59 Gr59 rfl W60 24 rfl (Nat.le_of_ble_eq_true rfl)
  obtain ⟨clr61, Arr61, qr61, Sr61, Mr61, Hhr61, Gr61⟩ := id V60
  have hinr61 : ¬ ((25 : Int32) < 0 ∨ clr61.slots.size ≤ ((25 : Int32)).toNatClampNeg) := inb_of Sr61 ⟨by decide, by decide⟩
  obtain ⟨T62, h62, X62, e62, W62, st62⟩ := stI Xf60 hx hZ e60 Arr61 (j := (25 : Int32)) hinr61 (g := (mkF m 170 #[.val (.int p0), .val (.int p1), .val (.int p2), .unset, .unset, .unset, .unset, .unset] [(.int (65533 : Int32)), (.int (25 : Int32)), (.ref b1), (.ref b1)])) rfl rfl (hb hby at_170)
  have N62 := Fr.snoc X62 Nf60 ge_b1
  obtain ⟨Lf62, Nf62, Xf62⟩ := own_fold X62 N62
  have V62 : Arv Z h62 b1 kk1 .int (28 : Int32) [(.int (65 : Int32)), (.int (90 : Int32)), (.int (97 : Int32)), (.int (122 : Int32)), (.int (192 : Int32)), (.int (214 : Int32)), (.int (216 : Int32)), (.int (246 : Int32)), (.int (248 : Int32)), (.int (767 : Int32)), (.int (880 : Int32)), (.int (893 : Int32)), (.int (895 : Int32)), (.int (8191 : Int32)), (.int (8204 : Int32)), (.int (8205 : Int32)), (.int (8304 : Int32)), (.int (8591 : Int32)), (.int (11264 : Int32)), (.int (12271 : Int32)), (.int (12289 : Int32)), (.int (55295 : Int32)), (.int (63744 : Int32)), (.int (64975 : Int32)), (.int (65008 : Int32)), (.int (65533 : Int32)), (.int (0 : Int32)), (.int (0 : Int32))] (.int (0 : Int32)) := Arv.set Arr61 qr61 Sr61 Mr61 Hhr61 Gr61 rfl W62 25 rfl (Nat.le_of_ble_eq_true rfl)
  have k63 : own_To p e below T62 (mkF m 174 #[.val (.int p0), .val (.int p1), .val (.int p2), .unset, .unset, .unset, .unset, .unset] [(.int (26 : Int32)), (.ref b1), (.ref b1)]) s₁ (mkF m 0 #[.val (.int p0), .val (.int p1), .val (.int p2), .unset, .unset, .unset, .unset, .unset] []) := fun t q => k56 t (by
    refine Xf55.ldcInt hx hown (mvT hZ (hw _ (List.mem_of_getElem? (i := 3) rfl))) (g := (mkF m 156 #[.val (.int p0), .val (.int p1), .val (.int p2), .unset, .unset, .unset, .unset, .unset] [(.int (23 : Int32)), (.ref b1), (.ref b1)])) rfl (hb hby at_156) _ ?_
    show Steps p.tables e below (T55.setTop (mkF m 158 #[.val (.int p0), .val (.int p1), .val (.int p2), .unset, .unset, .unset, .unset, .unset] [(.int (64975 : Int32)), (.int (23 : Int32)), (.ref b1), (.ref b1)])) _
    refine st58 _ ?_
    show Steps p.tables e below (T58.setTop (mkF m 159 #[.val (.int p0), .val (.int p1), .val (.int p2), .unset, .unset, .unset, .unset, .unset] [(.ref b1)])) _
    refine XS.dup Xf58.here hx rfl (hb hby at_159) rfl rfl ?_
    show Steps p.tables e below (T58.setTop (mkF m 160 #[.val (.int p0), .val (.int p1), .val (.int p2), .unset, .unset, .unset, .unset, .unset] [(.ref b1), (.ref b1)])) _
    refine XS.bipush Xf58.here hx rfl (hb hby at_160) ?_
    show Steps p.tables e below (T58.setTop (mkF m 162 #[.val (.int p0), .val (.int p1), .val (.int p2), .unset, .unset, .unset, .unset, .unset] [(.int (24 : Int32)), (.ref b1), (.ref b1)])) _
    refine Xf58.ldcInt hx hown (mvT hZ (hw _ (List.mem_of_getElem? (i := 4) rfl))) (g := (mkF m 162 #[.val (.int p0), .val (.int p1), .val (.int p2), .unset, .unset, .unset, .unset, .unset] [(.int (24 : Int32)), (.ref b1), (.ref b1)])) rfl (hb hby at_162) _ ?_
    show Steps p.tables e below (T58.setTop (mkF m 164 #[.val (.int p0), .val (.int p1), .val (.int p2), .unset, .unset, .unset, .unset, .unset] [(.int (65008 : Int32)), (.int (24 : Int32)), (.ref b1), (.ref b1)])) _
    refine st60 _ ?_
    show Steps p.tables e below (T60.setTop (mkF m 165 #[.val (.int p0), .val (.int p1), .val (.int p2), .unset, .unset, .unset, .unset, .unset] [(.ref b1)])) _
    refine XS.dup Xf60.here hx rfl (hb hby at_165) rfl rfl ?_
    show Steps p.tables e below (T60.setTop (mkF m 166 #[.val (.int p0), .val (.int p1), .val (.int p2), .unset, .unset, .unset, .unset, .unset] [(.ref b1), (.ref b1)])) _
    refine XS.bipush Xf60.here hx rfl (hb hby at_166) ?_
    show Steps p.tables e below (T60.setTop (mkF m 168 #[.val (.int p0), .val (.int p1), .val (.int p2), .unset, .unset, .unset, .unset, .unset] [(.int (25 : Int32)), (.ref b1), (.ref b1)])) _
    refine Xf60.ldcInt hx hown (mvT hZ (hw _ (List.mem_of_getElem? (i := 5) rfl))) (g := (mkF m 168 #[.val (.int p0), .val (.int p1), .val (.int p2), .unset, .unset, .unset, .unset, .unset] [(.int (25 : Int32)), (.ref b1), (.ref b1)])) rfl (hb hby at_168) _ ?_
    show Steps p.tables e below (T60.setTop (mkF m 170 #[.val (.int p0), .val (.int p1), .val (.int p2), .unset, .unset, .unset, .unset, .unset] [(.int (65533 : Int32)), (.int (25 : Int32)), (.ref b1), (.ref b1)])) _
    refine st62 _ ?_
    show Steps p.tables e below (T62.setTop (mkF m 171 #[.val (.int p0), .val (.int p1), .val (.int p2), .unset, .unset, .unset, .unset, .unset] [(.ref b1)])) _
    refine XS.dup Xf62.here hx rfl (hb hby at_171) rfl rfl ?_
    show Steps p.tables e below (T62.setTop (mkF m 172 #[.val (.int p0), .val (.int p1), .val (.int p2), .unset, .unset, .unset, .unset, .unset] [(.ref b1), (.ref b1)])) _
    refine XS.bipush Xf62.here hx rfl (hb hby at_172) ?_
    show Steps p.tables e below (T62.setTop (mkF m 174 #[.val (.int p0), .val (.int p1), .val (.int p2), .unset, .unset, .unset, .unset, .unset] [(.int (26 : Int32)), (.ref b1), (.ref b1)])) _
    exact q)
  obtain ⟨clr64, Arr64, qr64, Sr64, Mr64, Hhr64, Gr64⟩ := id V62
  have hinr64 : ¬ ((26 : Int32) < 0 ∨ clr64.slots.size ≤ ((26 : Int32)).toNatClampNeg) := inb_of Sr64 ⟨by decide, by decide⟩
  obtain ⟨T65, h65, X65, e65, W65, st65⟩ := stI Xf62 hx hZ e62 Arr64 (j := (26 : Int32)) hinr64 (g := (mkF m 176 #[.val (.int p0), .val (.int p1), .val (.int p2), .unset, .unset, .unset, .unset, .unset] [(.int (65536 : Int32)), (.int (26 : Int32)), (.ref b1), (.ref b1)])) rfl rfl (hb hby at_176)
  have N65 := Fr.snoc X65 Nf62 ge_b1
  obtain ⟨Lf65, Nf65, Xf65⟩ := own_fold X65 N65
  have V65 : Arv Z h65 b1 kk1 .int (28 : Int32) [(.int (65 : Int32)), (.int (90 : Int32)), (.int (97 : Int32)), (.int (122 : Int32)), (.int (192 : Int32)), (.int (214 : Int32)), (.int (216 : Int32)), (.int (246 : Int32)), (.int (248 : Int32)), (.int (767 : Int32)), (.int (880 : Int32)), (.int (893 : Int32)), (.int (895 : Int32)), (.int (8191 : Int32)), (.int (8204 : Int32)), (.int (8205 : Int32)), (.int (8304 : Int32)), (.int (8591 : Int32)), (.int (11264 : Int32)), (.int (12271 : Int32)), (.int (12289 : Int32)), (.int (55295 : Int32)), (.int (63744 : Int32)), (.int (64975 : Int32)), (.int (65008 : Int32)), (.int (65533 : Int32)), (.int (65536 : Int32)), (.int (0 : Int32))] (.int (0 : Int32)) := Arv.set Arr64 qr64 Sr64 Mr64 Hhr64 Gr64 rfl W65 26 rfl (Nat.le_of_ble_eq_true rfl)
  obtain ⟨clr66, Arr66, qr66, Sr66, Mr66, Hhr66, Gr66⟩ := id V65
  have hinr66 : ¬ ((27 : Int32) < 0 ∨ clr66.slots.size ≤ ((27 : Int32)).toNatClampNeg) := inb_of Sr66 ⟨by decide, by decide⟩
  obtain ⟨T67, h67, X67, e67, W67, st67⟩ := stI Xf65 hx hZ e65 Arr66 (j := (27 : Int32)) hinr66 (g := (mkF m 182 #[.val (.int p0), .val (.int p1), .val (.int p2), .unset, .unset, .unset, .unset, .unset] [(.int (983039 : Int32)), (.int (27 : Int32)), (.ref b1), (.ref b1)])) rfl rfl (hb hby at_182)
  have N67 := Fr.snoc X67 Nf65 ge_b1
  obtain ⟨Lf67, Nf67, Xf67⟩ := own_fold X67 N67
  have V67 : Arv Z h67 b1 kk1 .int (28 : Int32) [(.int (65 : Int32)), (.int (90 : Int32)), (.int (97 : Int32)), (.int (122 : Int32)), (.int (192 : Int32)), (.int (214 : Int32)), (.int (216 : Int32)), (.int (246 : Int32)), (.int (248 : Int32)), (.int (767 : Int32)), (.int (880 : Int32)), (.int (893 : Int32)), (.int (895 : Int32)), (.int (8191 : Int32)), (.int (8204 : Int32)), (.int (8205 : Int32)), (.int (8304 : Int32)), (.int (8591 : Int32)), (.int (11264 : Int32)), (.int (12271 : Int32)), (.int (12289 : Int32)), (.int (55295 : Int32)), (.int (63744 : Int32)), (.int (64975 : Int32)), (.int (65008 : Int32)), (.int (65533 : Int32)), (.int (65536 : Int32)), (.int (983039 : Int32))] (.int (0 : Int32)) := Arv.set Arr66 qr66 Sr66 Mr66 Hhr66 Gr66 rfl W67 27 rfl (Nat.le_of_ble_eq_true rfl)
  have k68 : own_To p e below T67 (mkF m 191 #[.val (.int p0), .val (.int p1), .val (.int p2), .val (.ref b1), .unset, .unset, .unset, .unset] [(.int ((p1 &&& (2147483647 : Int32)) % (28 : Int32)))]) s₁ (mkF m 0 #[.val (.int p0), .val (.int p1), .val (.int p2), .unset, .unset, .unset, .unset, .unset] []) := fun t q => k63 t (by
    refine Xf62.ldcInt hx hown (mvT hZ (hw _ (List.mem_of_getElem? (i := 6) rfl))) (g := (mkF m 174 #[.val (.int p0), .val (.int p1), .val (.int p2), .unset, .unset, .unset, .unset, .unset] [(.int (26 : Int32)), (.ref b1), (.ref b1)])) rfl (hb hby at_174) _ ?_
    show Steps p.tables e below (T62.setTop (mkF m 176 #[.val (.int p0), .val (.int p1), .val (.int p2), .unset, .unset, .unset, .unset, .unset] [(.int (65536 : Int32)), (.int (26 : Int32)), (.ref b1), (.ref b1)])) _
    refine st65 _ ?_
    show Steps p.tables e below (T65.setTop (mkF m 177 #[.val (.int p0), .val (.int p1), .val (.int p2), .unset, .unset, .unset, .unset, .unset] [(.ref b1)])) _
    refine XS.dup Xf65.here hx rfl (hb hby at_177) rfl rfl ?_
    show Steps p.tables e below (T65.setTop (mkF m 178 #[.val (.int p0), .val (.int p1), .val (.int p2), .unset, .unset, .unset, .unset, .unset] [(.ref b1), (.ref b1)])) _
    refine XS.bipush Xf65.here hx rfl (hb hby at_178) ?_
    show Steps p.tables e below (T65.setTop (mkF m 180 #[.val (.int p0), .val (.int p1), .val (.int p2), .unset, .unset, .unset, .unset, .unset] [(.int (27 : Int32)), (.ref b1), (.ref b1)])) _
    refine Xf65.ldcInt hx hown (mvT hZ (hw _ (List.mem_of_getElem? (i := 7) rfl))) (g := (mkF m 180 #[.val (.int p0), .val (.int p1), .val (.int p2), .unset, .unset, .unset, .unset, .unset] [(.int (27 : Int32)), (.ref b1), (.ref b1)])) rfl (hb hby at_180) _ ?_
    show Steps p.tables e below (T65.setTop (mkF m 182 #[.val (.int p0), .val (.int p1), .val (.int p2), .unset, .unset, .unset, .unset, .unset] [(.int (983039 : Int32)), (.int (27 : Int32)), (.ref b1), (.ref b1)])) _
    refine st67 _ ?_
    show Steps p.tables e below (T67.setTop (mkF m 183 #[.val (.int p0), .val (.int p1), .val (.int p2), .unset, .unset, .unset, .unset, .unset] [(.ref b1)])) _
    refine XS.astoreN Xf67.here hx rfl (hb hby at_183) rfl rfl (l' := #[.val (.int p0), .val (.int p1), .val (.int p2), .val (.ref b1), .unset, .unset, .unset, .unset]) rfl ?_
    show Steps p.tables e below (T67.setTop (mkF m 184 #[.val (.int p0), .val (.int p1), .val (.int p2), .val (.ref b1), .unset, .unset, .unset, .unset] [])) _
    refine XS.iloadN Xf67.here hx rfl (hb hby at_184) rfl ?_
    show Steps p.tables e below (T67.setTop (mkF m 185 #[.val (.int p0), .val (.int p1), .val (.int p2), .val (.ref b1), .unset, .unset, .unset, .unset] [(.int p1)])) _
    refine Xf67.ldcInt hx hown (mvT hZ (hw _ (List.mem_of_getElem? (i := 8) rfl))) (g := (mkF m 185 #[.val (.int p0), .val (.int p1), .val (.int p2), .val (.ref b1), .unset, .unset, .unset, .unset] [(.int p1)])) rfl (hb hby at_185) _ ?_
    show Steps p.tables e below (T67.setTop (mkF m 187 #[.val (.int p0), .val (.int p1), .val (.int p2), .val (.ref b1), .unset, .unset, .unset, .unset] [(.int (2147483647 : Int32)), (.int p1)])) _
    refine XS.iand Xf67.here hx rfl (hb hby at_187) rfl ?_
    show Steps p.tables e below (T67.setTop (mkF m 188 #[.val (.int p0), .val (.int p1), .val (.int p2), .val (.ref b1), .unset, .unset, .unset, .unset] [(.int (p1 &&& (2147483647 : Int32)))])) _
    refine XS.bipush Xf67.here hx rfl (hb hby at_188) ?_
    show Steps p.tables e below (T67.setTop (mkF m 190 #[.val (.int p0), .val (.int p1), .val (.int p2), .val (.ref b1), .unset, .unset, .unset, .unset] [(.int (28 : Int32)), (.int (p1 &&& (2147483647 : Int32)))])) _
    refine iremM Xf67 hx rfl (hb hby at_190) rfl (by decide) ?_
    show Steps p.tables e below (T67.setTop (mkF m 191 #[.val (.int p0), .val (.int p1), .val (.int p2), .val (.ref b1), .unset, .unset, .unset, .unset] [(.int ((p1 &&& (2147483647 : Int32)) % (28 : Int32)))])) _
    exact q)
  obtain ⟨clr69, Arr69, qr69, Sr69, Mr69, Hhr69, Gr69⟩ := id V67
  have hinr69 : ¬ (((p1 &&& (2147483647 : Int32)) % (28 : Int32)) < 0 ∨ clr69.slots.size ≤ (((p1 &&& (2147483647 : Int32)) % (28 : Int32))).toNatClampNeg) := inb_of Sr69 (own_idx p1)
  obtain ⟨xe, hxe⟩ := own_ints [(65 : Int32), (90 : Int32), (97 : Int32), (122 : Int32), (192 : Int32), (214 : Int32), (216 : Int32), (246 : Int32), (248 : Int32), (767 : Int32), (880 : Int32), (893 : Int32), (895 : Int32), (8191 : Int32), (8204 : Int32), (8205 : Int32), (8304 : Int32), (8591 : Int32), (11264 : Int32), (12271 : Int32), (12289 : Int32), (55295 : Int32), (63744 : Int32), (64975 : Int32), (65008 : Int32), (65533 : Int32), (65536 : Int32), (983039 : Int32)] (((p1 &&& (2147483647 : Int32)) % (28 : Int32))).toNatClampNeg
  have hatr69 : clr69.slots[(((p1 &&& (2147483647 : Int32)) % (28 : Int32))).toNatClampNeg]? = some (.int xe) := Has.at Hhr69 hinr69 hxe
  have k70 : own_To p e below T67 (mkF m 206 #[.val (.int p0), .val (.int p1), .val (.int p2), .val (.ref b1), .val (.int ((p1 &&& (2147483647 : Int32)) % (28 : Int32))), .val (.int (xe + ((p2 &&& (3 : Int32)) - (1 : Int32)))), .unset, .unset] [(.int p0)]) s₁ (mkF m 0 #[.val (.int p0), .val (.int p1), .val (.int p2), .unset, .unset, .unset, .unset, .unset] []) := fun t q => k68 t (by
    refine XS.istore Xf67.here hx rfl (hb hby at_191) rfl (l' := #[.val (.int p0), .val (.int p1), .val (.int p2), .val (.ref b1), .val (.int ((p1 &&& (2147483647 : Int32)) % (28 : Int32))), .unset, .unset, .unset]) rfl ?_
    show Steps p.tables e below (T67.setTop (mkF m 193 #[.val (.int p0), .val (.int p1), .val (.int p2), .val (.ref b1), .val (.int ((p1 &&& (2147483647 : Int32)) % (28 : Int32))), .unset, .unset, .unset] [])) _
    refine XS.aloadN Xf67.here hx rfl (hb hby at_193) rfl rfl ?_
    show Steps p.tables e below (T67.setTop (mkF m 194 #[.val (.int p0), .val (.int p1), .val (.int p2), .val (.ref b1), .val (.int ((p1 &&& (2147483647 : Int32)) % (28 : Int32))), .unset, .unset, .unset] [(.ref b1)])) _
    refine XS.iload Xf67.here hx rfl (hb hby at_194) rfl ?_
    show Steps p.tables e below (T67.setTop (mkF m 196 #[.val (.int p0), .val (.int p1), .val (.int p2), .val (.ref b1), .val (.int ((p1 &&& (2147483647 : Int32)) % (28 : Int32))), .unset, .unset, .unset] [(.int ((p1 &&& (2147483647 : Int32)) % (28 : Int32))), (.ref b1)])) _
    refine Xf67.iaload hx (j := ((p1 &&& (2147483647 : Int32)) % (28 : Int32))) (v := (.int xe)) (by rw [e67]; exact Arr69.1) (State.isArrayOf_alike hZ.alike Arr69.2.1) Arr69.2.2 hinr69 hatr69 (g := (mkF m 196 #[.val (.int p0), .val (.int p1), .val (.int p2), .val (.ref b1), .val (.int ((p1 &&& (2147483647 : Int32)) % (28 : Int32))), .unset, .unset, .unset] [(.int ((p1 &&& (2147483647 : Int32)) % (28 : Int32))), (.ref b1)])) rfl rfl (hb hby at_196) _ ?_
    show Steps p.tables e below (T67.setTop (mkF m 197 #[.val (.int p0), .val (.int p1), .val (.int p2), .val (.ref b1), .val (.int ((p1 &&& (2147483647 : Int32)) % (28 : Int32))), .unset, .unset, .unset] [(.int xe)])) _
    refine XS.iloadN Xf67.here hx rfl (hb hby at_197) rfl ?_
    show Steps p.tables e below (T67.setTop (mkF m 198 #[.val (.int p0), .val (.int p1), .val (.int p2), .val (.ref b1), .val (.int ((p1 &&& (2147483647 : Int32)) % (28 : Int32))), .unset, .unset, .unset] [(.int p2), (.int xe)])) _
    refine XS.iconst Xf67.here hx rfl (hb hby at_198) ?_
    show Steps p.tables e below (T67.setTop (mkF m 199 #[.val (.int p0), .val (.int p1), .val (.int p2), .val (.ref b1), .val (.int ((p1 &&& (2147483647 : Int32)) % (28 : Int32))), .unset, .unset, .unset] [(.int (3 : Int32)), (.int p2), (.int xe)])) _
    refine XS.iand Xf67.here hx rfl (hb hby at_199) rfl ?_
    show Steps p.tables e below (T67.setTop (mkF m 200 #[.val (.int p0), .val (.int p1), .val (.int p2), .val (.ref b1), .val (.int ((p1 &&& (2147483647 : Int32)) % (28 : Int32))), .unset, .unset, .unset] [(.int (p2 &&& (3 : Int32))), (.int xe)])) _
    refine XS.iconst Xf67.here hx rfl (hb hby at_200) ?_
    show Steps p.tables e below (T67.setTop (mkF m 201 #[.val (.int p0), .val (.int p1), .val (.int p2), .val (.ref b1), .val (.int ((p1 &&& (2147483647 : Int32)) % (28 : Int32))), .unset, .unset, .unset] [(.int (1 : Int32)), (.int (p2 &&& (3 : Int32))), (.int xe)])) _
    refine XS.isub Xf67.here hx rfl (hb hby at_201) rfl ?_
    show Steps p.tables e below (T67.setTop (mkF m 202 #[.val (.int p0), .val (.int p1), .val (.int p2), .val (.ref b1), .val (.int ((p1 &&& (2147483647 : Int32)) % (28 : Int32))), .unset, .unset, .unset] [(.int ((p2 &&& (3 : Int32)) - (1 : Int32))), (.int xe)])) _
    refine XS.iadd Xf67.here hx rfl (hb hby at_202) rfl ?_
    show Steps p.tables e below (T67.setTop (mkF m 203 #[.val (.int p0), .val (.int p1), .val (.int p2), .val (.ref b1), .val (.int ((p1 &&& (2147483647 : Int32)) % (28 : Int32))), .unset, .unset, .unset] [(.int (xe + ((p2 &&& (3 : Int32)) - (1 : Int32))))])) _
    refine XS.istore Xf67.here hx rfl (hb hby at_203) rfl (l' := #[.val (.int p0), .val (.int p1), .val (.int p2), .val (.ref b1), .val (.int ((p1 &&& (2147483647 : Int32)) % (28 : Int32))), .val (.int (xe + ((p2 &&& (3 : Int32)) - (1 : Int32)))), .unset, .unset]) rfl ?_
    show Steps p.tables e below (T67.setTop (mkF m 205 #[.val (.int p0), .val (.int p1), .val (.int p2), .val (.ref b1), .val (.int ((p1 &&& (2147483647 : Int32)) % (28 : Int32))), .val (.int (xe + ((p2 &&& (3 : Int32)) - (1 : Int32)))), .unset, .unset] [])) _
    refine XS.iloadN Xf67.here hx rfl (hb hby at_205) rfl ?_
    show Steps p.tables e below (T67.setTop (mkF m 206 #[.val (.int p0), .val (.int p1), .val (.int p2), .val (.ref b1), .val (.int ((p1 &&& (2147483647 : Int32)) % (28 : Int32))), .val (.int (xe + ((p2 &&& (3 : Int32)) - (1 : Int32)))), .unset, .unset] [(.int p0)])) _
    exact q)
  have K72 := (((K2.ext E1).wr W4 (Or.inr sz_b1)).wr W6 (Or.inr sz_b1))
  have K73 := (((K72.wr W9 (Or.inr sz_b1)).wr W11 (Or.inr sz_b1)).wr W13 (Or.inr sz_b1))
  have K74 := (((K73.wr W16 (Or.inr sz_b1)).wr W18 (Or.inr sz_b1)).wr W20 (Or.inr sz_b1))
  have K75 := (((K74.wr W23 (Or.inr sz_b1)).wr W25 (Or.inr sz_b1)).wr W27 (Or.inr sz_b1))
  have K76 := (((K75.wr W30 (Or.inr sz_b1)).wr W32 (Or.inr sz_b1)).wr W34 (Or.inr sz_b1))
  have K77 := (((K76.wr W37 (Or.inr sz_b1)).wr W39 (Or.inr sz_b1)).wr W41 (Or.inr sz_b1))
  have K78 := (((K77.wr W44 (Or.inr sz_b1)).wr W46 (Or.inr sz_b1)).wr W48 (Or.inr sz_b1))
  have K79 := (((K78.wr W51 (Or.inr sz_b1)).wr W53 (Or.inr sz_b1)).wr W55 (Or.inr sz_b1))
  have K80 := (((K79.wr W58 (Or.inr sz_b1)).wr W60 (Or.inr sz_b1)).wr W62 (Or.inr sz_b1))
  have K81 : Keep h0 h67 [] := ((K80.wr W65 (Or.inr sz_b1)).wr W67 (Or.inr sz_b1))
  obtain ⟨_, _, ⟨T71, L71, kk71, n71⟩, -, X71, ⟨Lc71, hQ71, l71, y71, z71⟩, st71⟩ := Jvm.LawKit.callS Xf67 hx (y := (⟨"com/example/hornloom/hornloom/NameCharacters", "isNameStartChar", "(I)Z"⟩ : MethodName)) hown (mvT hZ (hw _ (List.mem_of_getElem? (i := 9) rfl))) (mvT hZ (hw _ (List.mem_of_getElem? (i := 10) rfl))) (mvT hZ (hw _ (List.mem_of_getElem? (i := 11) rfl))) (mvT hZ (hw _ (List.mem_of_getElem? (i := 12) rfl))) (by decide) (backOf (W := 0) (rm1 l Z a0 hw [] p0 h67 n0 (Nat.le_trans Z0 K81.1)) hZ (hw _ (List.mem_of_getElem? (i := 12) rfl)) (hw _ (List.mem_of_getElem? (i := 11) rfl)) (by decide) (by decide)) (g := (mkF m 206 #[.val (.int p0), .val (.int p1), .val (.int p2), .val (.ref b1), .val (.int ((p1 &&& (2147483647 : Int32)) % (28 : Int32))), .val (.int (xe + ((p2 &&& (3 : Int32)) - (1 : Int32)))), .unset, .unset] [(.int p0)])) rfl (by rw [hml]; rfl) (argsL := [(.int p0)]) (rest := []) (lenOf own_pd0 rfl) rfl (by show 2 * 0 + _ ≤ _; exact Nat.le_of_eq rfl) (hb hby at_206) (fun _ _ => ⟨rfl, e67, (by decide : 1 + 0 ≤ _), (by decide : 28 + 0 ≤ _)⟩)
  dsimp only [Pt.U, Pt.locs, Pt.cells, Pt.slots] at X71 l71 y71 z71 st71 hQ71
  subst l71 y71 z71
  obtain ⟨rfl, N71q, e71⟩ := hQ71
  have N71 := Fr.app Nf67 N71q
  obtain ⟨_, _, ⟨T82, L82, kk82, n82⟩, -, X82, ⟨Lc82, hQ82, l82, y82, z82⟩, st82⟩ := Jvm.LawKit.callS X71 hx (y := (⟨"com/example/hornloom/hornloom/NameCharactersIsNameStartCharPinLaw", "expected", "(I)Z"⟩ : MethodName)) hown (mvT hZ (hw _ (List.mem_of_getElem? (i := 16) rfl))) (mvT hZ (hw _ (List.mem_of_getElem? (i := 17) rfl))) (mvT hZ (hw _ (List.mem_of_getElem? (i := 18) rfl))) (mvT hZ (hw _ (List.mem_of_getElem? (i := 19) rfl))) (by decide) (backOf (W := 1) (rm2 l Z a0 hw [] p0 h67 n0 (Nat.le_trans Z0 K81.1)) hZ (hw _ (List.mem_of_getElem? (i := 19) rfl)) (hw _ (List.mem_of_getElem? (i := 18) rfl)) (by decide) (by decide)) (g := (mkF m 210 #[.val (.int p0), .val (.int p1), .val (.int p2), .val (.ref b1), .val (.int ((p1 &&& (2147483647 : Int32)) % (28 : Int32))), .val (.int (xe + ((p2 &&& (3 : Int32)) - (1 : Int32)))), .unset, .unset] [(.int p0), (.int (own_F1 p0))])) rfl (by rw [hml]; rfl) (argsL := [(.int p0)]) (rest := [(.int (own_F1 p0))]) (lenOf own_pd0 rfl) rfl (by show 2 * 0 + _ ≤ _; exact Nat.le_of_eq rfl) (hb hby at_210) (fun _ _ => ⟨rfl, e71, (by decide : 1 + 0 ≤ _), (by decide : 28 + 0 ≤ _)⟩)
  dsimp only [Pt.U, Pt.locs, Pt.cells, Pt.slots] at X82 l82 y82 z82 st82 hQ82
  subst l82 y82 z82
  obtain ⟨rfl, N82q, e82⟩ := hQ82
  have N82 := Fr.app N71 N82q
  obtain ⟨_, _, ⟨T83, L83, kk83, n83⟩, -, X83, ⟨Lc83, hQ83, l83, y83, z83⟩, st83⟩ := Jvm.LawKit.callS X82 hx (y := (⟨"com/example/hornloom/hornloom/NameCharacters", "isNameStartChar", "(I)Z"⟩ : MethodName)) hown (mvT hZ (hw _ (List.mem_of_getElem? (i := 9) rfl))) (mvT hZ (hw _ (List.mem_of_getElem? (i := 10) rfl))) (mvT hZ (hw _ (List.mem_of_getElem? (i := 11) rfl))) (mvT hZ (hw _ (List.mem_of_getElem? (i := 12) rfl))) (by decide) (backOf (W := 0) (rm1 l Z a0 hw [] (xe + ((p2 &&& (3 : Int32)) - (1 : Int32))) h67 n0 (Nat.le_trans Z0 K81.1)) hZ (hw _ (List.mem_of_getElem? (i := 12) rfl)) (hw _ (List.mem_of_getElem? (i := 11) rfl)) (by decide) (by decide)) (g := (mkF m 225 #[.val (.int p0), .val (.int p1), .val (.int p2), .val (.ref b1), .val (.int ((p1 &&& (2147483647 : Int32)) % (28 : Int32))), .val (.int (xe + ((p2 &&& (3 : Int32)) - (1 : Int32)))), .val (.int (1 : Int32)), .unset] [(.int (xe + ((p2 &&& (3 : Int32)) - (1 : Int32))))])) rfl (by rw [hml]; rfl) (argsL := [(.int (xe + ((p2 &&& (3 : Int32)) - (1 : Int32))))]) (rest := []) (lenOf own_pd0 rfl) rfl (by show 2 * 0 + _ ≤ _; exact Nat.le_of_eq rfl) (hb hby at_225) (fun _ _ => ⟨rfl, e82, (by decide : 1 + 0 ≤ _), (by decide : 28 + 0 ≤ _)⟩)
  dsimp only [Pt.U, Pt.locs, Pt.cells, Pt.slots] at X83 l83 y83 z83 st83 hQ83
  subst l83 y83 z83
  obtain ⟨rfl, N83q, e83⟩ := hQ83
  have N83 := Fr.app N82 N83q
  obtain ⟨_, _, ⟨T84, L84, kk84, n84⟩, -, X84, ⟨Lc84, hQ84, l84, y84, z84⟩, st84⟩ := Jvm.LawKit.callS X83 hx (y := (⟨"com/example/hornloom/hornloom/NameCharactersIsNameStartCharPinLaw", "expected", "(I)Z"⟩ : MethodName)) hown (mvT hZ (hw _ (List.mem_of_getElem? (i := 16) rfl))) (mvT hZ (hw _ (List.mem_of_getElem? (i := 17) rfl))) (mvT hZ (hw _ (List.mem_of_getElem? (i := 18) rfl))) (mvT hZ (hw _ (List.mem_of_getElem? (i := 19) rfl))) (by decide) (backOf (W := 1) (rm2 l Z a0 hw [] (xe + ((p2 &&& (3 : Int32)) - (1 : Int32))) h67 n0 (Nat.le_trans Z0 K81.1)) hZ (hw _ (List.mem_of_getElem? (i := 19) rfl)) (hw _ (List.mem_of_getElem? (i := 18) rfl)) (by decide) (by decide)) (g := (mkF m 230 #[.val (.int p0), .val (.int p1), .val (.int p2), .val (.ref b1), .val (.int ((p1 &&& (2147483647 : Int32)) % (28 : Int32))), .val (.int (xe + ((p2 &&& (3 : Int32)) - (1 : Int32)))), .val (.int (1 : Int32)), .unset] [(.int (xe + ((p2 &&& (3 : Int32)) - (1 : Int32)))), (.int (own_F1 (xe + ((p2 &&& (3 : Int32)) - (1 : Int32)))))])) rfl (by rw [hml]; rfl) (argsL := [(.int (xe + ((p2 &&& (3 : Int32)) - (1 : Int32))))]) (rest := [(.int (own_F1 (xe + ((p2 &&& (3 : Int32)) - (1 : Int32)))))]) (lenOf own_pd0 rfl) rfl (by show 2 * 0 + _ ≤ _; exact Nat.le_of_eq rfl) (hb hby at_230) (fun _ _ => ⟨rfl, e83, (by decide : 1 + 0 ≤ _), (by decide : 28 + 0 ≤ _)⟩)
  dsimp only [Pt.U, Pt.locs, Pt.cells, Pt.slots] at X84 l84 y84 z84 st84 hQ84
  subst l84 y84 z84
  obtain ⟨rfl, N84q, e84⟩ := hQ84
  have N84 := Fr.app N83 N84q
  have k85 : own_To p e below T84 (mkF m 236 #[.val (.int p0), .val (.int p1), .val (.int p2), .val (.ref b1), .val (.int ((p1 &&& (2147483647 : Int32)) % (28 : Int32))), .val (.int (xe + ((p2 &&& (3 : Int32)) - (1 : Int32)))), .val (.int (1 : Int32)), .unset] []) s₁ (mkF m 0 #[.val (.int p0), .val (.int p1), .val (.int p2), .unset, .unset, .unset, .unset, .unset] []) := fun t q => k70 t (by
    refine st71 _ ?_
    show Steps p.tables e below (T71.setTop (mkF m 209 #[.val (.int p0), .val (.int p1), .val (.int p2), .val (.ref b1), .val (.int ((p1 &&& (2147483647 : Int32)) % (28 : Int32))), .val (.int (xe + ((p2 &&& (3 : Int32)) - (1 : Int32)))), .unset, .unset] [(.int (own_F1 p0))])) _
    refine XS.iloadN X71.here hx rfl (hb hby at_209) rfl ?_
    show Steps p.tables e below (T71.setTop (mkF m 210 #[.val (.int p0), .val (.int p1), .val (.int p2), .val (.ref b1), .val (.int ((p1 &&& (2147483647 : Int32)) % (28 : Int32))), .val (.int (xe + ((p2 &&& (3 : Int32)) - (1 : Int32)))), .unset, .unset] [(.int p0), (.int (own_F1 p0))])) _
    refine st82 _ ?_
    show Steps p.tables e below (T82.setTop (mkF m 213 #[.val (.int p0), .val (.int p1), .val (.int p2), .val (.ref b1), .val (.int ((p1 &&& (2147483647 : Int32)) % (28 : Int32))), .val (.int (xe + ((p2 &&& (3 : Int32)) - (1 : Int32)))), .unset, .unset] [(.int (own_F2 p0)), (.int (own_F1 p0))])) _
    refine XS.icmpNo X82.here hx rfl (hb hby at_213) rfl (teq (own_law p0)).2 ?_
    show Steps p.tables e below (T82.setTop (mkF m 216 #[.val (.int p0), .val (.int p1), .val (.int p2), .val (.ref b1), .val (.int ((p1 &&& (2147483647 : Int32)) % (28 : Int32))), .val (.int (xe + ((p2 &&& (3 : Int32)) - (1 : Int32)))), .unset, .unset] [])) _
    refine XS.iconst X82.here hx rfl (hb hby at_216) ?_
    show Steps p.tables e below (T82.setTop (mkF m 217 #[.val (.int p0), .val (.int p1), .val (.int p2), .val (.ref b1), .val (.int ((p1 &&& (2147483647 : Int32)) % (28 : Int32))), .val (.int (xe + ((p2 &&& (3 : Int32)) - (1 : Int32)))), .unset, .unset] [(.int (1 : Int32))])) _
    refine XS.goto X82.here hx rfl (pc0 := 217) (pc' := 221) rfl (hb hby at_217) (by decide) (by decide) ?_
    show Steps p.tables e below (T82.setTop (mkF m 221 #[.val (.int p0), .val (.int p1), .val (.int p2), .val (.ref b1), .val (.int ((p1 &&& (2147483647 : Int32)) % (28 : Int32))), .val (.int (xe + ((p2 &&& (3 : Int32)) - (1 : Int32)))), .unset, .unset] [(.int (1 : Int32))])) _
    refine XS.istore X82.here hx rfl (hb hby at_221) rfl (l' := #[.val (.int p0), .val (.int p1), .val (.int p2), .val (.ref b1), .val (.int ((p1 &&& (2147483647 : Int32)) % (28 : Int32))), .val (.int (xe + ((p2 &&& (3 : Int32)) - (1 : Int32)))), .val (.int (1 : Int32)), .unset]) rfl ?_
    show Steps p.tables e below (T82.setTop (mkF m 223 #[.val (.int p0), .val (.int p1), .val (.int p2), .val (.ref b1), .val (.int ((p1 &&& (2147483647 : Int32)) % (28 : Int32))), .val (.int (xe + ((p2 &&& (3 : Int32)) - (1 : Int32)))), .val (.int (1 : Int32)), .unset] [])) _
    refine XS.iload X82.here hx rfl (hb hby at_223) rfl ?_
    show Steps p.tables e below (T82.setTop (mkF m 225 #[.val (.int p0), .val (.int p1), .val (.int p2), .val (.ref b1), .val (.int ((p1 &&& (2147483647 : Int32)) % (28 : Int32))), .val (.int (xe + ((p2 &&& (3 : Int32)) - (1 : Int32)))), .val (.int (1 : Int32)), .unset] [(.int (xe + ((p2 &&& (3 : Int32)) - (1 : Int32))))])) _
    refine st83 _ ?_
    show Steps p.tables e below (T83.setTop (mkF m 228 #[.val (.int p0), .val (.int p1), .val (.int p2), .val (.ref b1), .val (.int ((p1 &&& (2147483647 : Int32)) % (28 : Int32))), .val (.int (xe + ((p2 &&& (3 : Int32)) - (1 : Int32)))), .val (.int (1 : Int32)), .unset] [(.int (own_F1 (xe + ((p2 &&& (3 : Int32)) - (1 : Int32)))))])) _
    refine XS.iload X83.here hx rfl (hb hby at_228) rfl ?_
    show Steps p.tables e below (T83.setTop (mkF m 230 #[.val (.int p0), .val (.int p1), .val (.int p2), .val (.ref b1), .val (.int ((p1 &&& (2147483647 : Int32)) % (28 : Int32))), .val (.int (xe + ((p2 &&& (3 : Int32)) - (1 : Int32)))), .val (.int (1 : Int32)), .unset] [(.int (xe + ((p2 &&& (3 : Int32)) - (1 : Int32)))), (.int (own_F1 (xe + ((p2 &&& (3 : Int32)) - (1 : Int32)))))])) _
    refine st84 _ ?_
    show Steps p.tables e below (T84.setTop (mkF m 233 #[.val (.int p0), .val (.int p1), .val (.int p2), .val (.ref b1), .val (.int ((p1 &&& (2147483647 : Int32)) % (28 : Int32))), .val (.int (xe + ((p2 &&& (3 : Int32)) - (1 : Int32)))), .val (.int (1 : Int32)), .unset] [(.int (own_F2 (xe + ((p2 &&& (3 : Int32)) - (1 : Int32))))), (.int (own_F1 (xe + ((p2 &&& (3 : Int32)) - (1 : Int32)))))])) _
    refine XS.icmpNo X84.here hx rfl (hb hby at_233) rfl (teq (own_law (xe + ((p2 &&& (3 : Int32)) - (1 : Int32))))).2 ?_
    show Steps p.tables e below (T84.setTop (mkF m 236 #[.val (.int p0), .val (.int p1), .val (.int p2), .val (.ref b1), .val (.int ((p1 &&& (2147483647 : Int32)) % (28 : Int32))), .val (.int (xe + ((p2 &&& (3 : Int32)) - (1 : Int32)))), .val (.int (1 : Int32)), .unset] [])) _
    exact q)
  have k86 : own_To p e below T84 (mkF m 258 #[.val (.int p0), .val (.int p1), .val (.int p2), .val (.ref b1), .val (.int ((p1 &&& (2147483647 : Int32)) % (28 : Int32))), .val (.int (xe + ((p2 &&& (3 : Int32)) - (1 : Int32)))), .val (.int (1 : Int32)), .val (.int (1 : Int32))] [(.int (1 : Int32))]) s₁ (mkF m 0 #[.val (.int p0), .val (.int p1), .val (.int p2), .unset, .unset, .unset, .unset, .unset] []) := fun t q => k85 t (by
    refine XS.iconst X84.here hx rfl (hb hby at_236) ?_
    show Steps p.tables e below (T84.setTop (mkF m 237 #[.val (.int p0), .val (.int p1), .val (.int p2), .val (.ref b1), .val (.int ((p1 &&& (2147483647 : Int32)) % (28 : Int32))), .val (.int (xe + ((p2 &&& (3 : Int32)) - (1 : Int32)))), .val (.int (1 : Int32)), .unset] [(.int (1 : Int32))])) _
    refine XS.goto X84.here hx rfl (pc0 := 237) (pc' := 241) rfl (hb hby at_237) (by decide) (by decide) ?_
    show Steps p.tables e below (T84.setTop (mkF m 241 #[.val (.int p0), .val (.int p1), .val (.int p2), .val (.ref b1), .val (.int ((p1 &&& (2147483647 : Int32)) % (28 : Int32))), .val (.int (xe + ((p2 &&& (3 : Int32)) - (1 : Int32)))), .val (.int (1 : Int32)), .unset] [(.int (1 : Int32))])) _
    refine XS.istore X84.here hx rfl (hb hby at_241) rfl (l' := #[.val (.int p0), .val (.int p1), .val (.int p2), .val (.ref b1), .val (.int ((p1 &&& (2147483647 : Int32)) % (28 : Int32))), .val (.int (xe + ((p2 &&& (3 : Int32)) - (1 : Int32)))), .val (.int (1 : Int32)), .val (.int (1 : Int32))]) rfl ?_
    show Steps p.tables e below (T84.setTop (mkF m 243 #[.val (.int p0), .val (.int p1), .val (.int p2), .val (.ref b1), .val (.int ((p1 &&& (2147483647 : Int32)) % (28 : Int32))), .val (.int (xe + ((p2 &&& (3 : Int32)) - (1 : Int32)))), .val (.int (1 : Int32)), .val (.int (1 : Int32))] [])) _
    refine XS.iload X84.here hx rfl (hb hby at_243) rfl ?_
    show Steps p.tables e below (T84.setTop (mkF m 245 #[.val (.int p0), .val (.int p1), .val (.int p2), .val (.ref b1), .val (.int ((p1 &&& (2147483647 : Int32)) % (28 : Int32))), .val (.int (xe + ((p2 &&& (3 : Int32)) - (1 : Int32)))), .val (.int (1 : Int32)), .val (.int (1 : Int32))] [(.int (1 : Int32))])) _
    refine XS.ifNo X84.here hx rfl (hb hby at_245) rfl ((if0 _ _).trans (feq (by decide)).1) ?_
    show Steps p.tables e below (T84.setTop (mkF m 248 #[.val (.int p0), .val (.int p1), .val (.int p2), .val (.ref b1), .val (.int ((p1 &&& (2147483647 : Int32)) % (28 : Int32))), .val (.int (xe + ((p2 &&& (3 : Int32)) - (1 : Int32)))), .val (.int (1 : Int32)), .val (.int (1 : Int32))] [])) _
    refine XS.iload X84.here hx rfl (hb hby at_248) rfl ?_
    show Steps p.tables e below (T84.setTop (mkF m 250 #[.val (.int p0), .val (.int p1), .val (.int p2), .val (.ref b1), .val (.int ((p1 &&& (2147483647 : Int32)) % (28 : Int32))), .val (.int (xe + ((p2 &&& (3 : Int32)) - (1 : Int32)))), .val (.int (1 : Int32)), .val (.int (1 : Int32))] [(.int (1 : Int32))])) _
    refine XS.ifNo X84.here hx rfl (hb hby at_250) rfl ((if0 _ _).trans (feq (by decide)).1) ?_
    show Steps p.tables e below (T84.setTop (mkF m 253 #[.val (.int p0), .val (.int p1), .val (.int p2), .val (.ref b1), .val (.int ((p1 &&& (2147483647 : Int32)) % (28 : Int32))), .val (.int (xe + ((p2 &&& (3 : Int32)) - (1 : Int32)))), .val (.int (1 : Int32)), .val (.int (1 : Int32))] [])) _
    refine XS.iconst X84.here hx rfl (hb hby at_253) ?_
    show Steps p.tables e below (T84.setTop (mkF m 254 #[.val (.int p0), .val (.int p1), .val (.int p2), .val (.ref b1), .val (.int ((p1 &&& (2147483647 : Int32)) % (28 : Int32))), .val (.int (xe + ((p2 &&& (3 : Int32)) - (1 : Int32)))), .val (.int (1 : Int32)), .val (.int (1 : Int32))] [(.int (1 : Int32))])) _
    refine XS.goto X84.here hx rfl (pc0 := 254) (pc' := 258) rfl (hb hby at_254) (by decide) (by decide) ?_
    show Steps p.tables e below (T84.setTop (mkF m 258 #[.val (.int p0), .val (.int p1), .val (.int p2), .val (.ref b1), .val (.int ((p1 &&& (2147483647 : Int32)) % (28 : Int32))), .val (.int (xe + ((p2 &&& (3 : Int32)) - (1 : Int32)))), .val (.int (1 : Int32)), .val (.int (1 : Int32))] [(.int (1 : Int32))])) _
    exact q)
  obtain ⟨fs, hr, hrun, hended, hW, hsame⟩ := X84.leave (v := some (.int (1 : Int32))) (fun h => by rw [Bd.returns] at h; cases h)
  refine ⟨_, _, k0 _ (k86 _ ?_), hrun, hended, _, _, rfl, ?_, ⟨_, rfl⟩, hW, hsame.mono (by decide) (by decide)⟩
  · show Steps p.tables e below (T84.setTop (mkF m 258 #[.val (.int p0), .val (.int p1), .val (.int p2), .val (.ref b1), .val (.int ((p1 &&& (2147483647 : Int32)) % (28 : Int32))), .val (.int (xe + ((p2 &&& (3 : Int32)) - (1 : Int32)))), .val (.int (1 : Int32)), .val (.int (1 : Int32))] [(.int (1 : Int32))])) _
    exact retN X84 hx (t := .boolean) Bd.returns (by simp) (hb hby at_258) hr
  · show Q0 Z p0 p1 p2 h0 n0 _ T84.heap _
    rw [e84]
    exact ⟨rfl, N84⟩
set_option maxRecDepth 65536 in
set_option maxHeartbeats 40000000 in
theorem comes_1 {Post : Tables → Env → Array Value → State → Outcome → State → Prop} (hpost : ∀ tb e args s v u, (limb_1_1.after args s (.returned v) u = true ∧ limb_1_2.after args s (.returned v) u = true ∧ True) → FrameEnd s (.returned v) u (Jvm.fieldLocs frame_1_writes args s ++ Jvm.arrayLocs frame_1_arrays args s ++ Jvm.staticLocs frame_1_statics s) 16 128 → Post tb e args s (.returned v) u) :
    ArmFor flags0 classFile x code maxLocals ret World_1 tables_1 room_1 Calls_1 rest_1 Pre_1 Post := by
  intro l hfl _ _ p e ha hc hk s m args below hf hA hF happ hP
  obtain ⟨hcalls, hrest, hpre⟩ := hP
  obtain ⟨-, -, -, hnamed, -, -, -, hat⟩ := (Spec.applies_iff hf).mp happ
  obtain ⟨hg, hn⟩ := and_e (Cond.before_iff.mp (show (Jvm.Cond.and given_1 narrow_1).before args s = true from hpre))
  obtain ⟨hgc, hg0⟩ := and_e hg
  obtain ⟨ga0, hg1⟩ := and_e hg0
  obtain ⟨ga1, hg2⟩ := and_e hg1
  obtain ⟨w0, w1, w2, rfl⟩ : ∃ w0 w1 w2 : Value, args = #[w0, w1, w2] := by
    have hs : args.size = 3 := by simpa [Cond.value, given_1] using hgc
    obtain ⟨L⟩ := args
    match L, hs with
    | [w0, w1, w2], _ => exact ⟨w0, w1, w2, rfl⟩
  have hw := fun d (hd : d ∈ tables_1) => atoms_spec (ws := Jvm.Cond.code x code maxLocals ret :: tables_1) hat d (List.mem_cons_of_mem _ hd)
  have hfit : Fit s := fun {y c} hc i hi => by
    obtain ⟨ha, rfl⟩ := Array.getElem?_eq_some_iff.mp hc
    have q := List.all_eq_true.mp ((Array.all_eq_true_iff_forall_mem.mp hF) _ (Array.getElem_mem ha)) i (List.mem_range.mpr hi)
    simpa [Array.getElem?_eq_getElem hi] using q
  obtain ⟨i0, ei0⟩ := is_v ga0
  obtain rfl : w0 = (.int i0) := Option.some.inj ei0
  obtain ⟨i1, ei1⟩ := is_v ga1
  obtain rfl : w1 = (.int i1) := Option.some.inj ei1
  obtain ⟨i2, ei2⟩ := is_v hg2
  obtain rfl : w2 = (.int i2) := Option.some.inj ei2
  obtain ⟨n, o, h1, h2, h3, _, L, rfl, ⟨rfl, N⟩, hq⟩ := rm0 l s _ hw tables_1 i0 i1 i2 s.heap s.heap.size (Nat.le_refl _) p e ha hc hk s m _ below hf ((Spec.applies_iff_loose hf).mp happ).1 ⟨rfl, State.Warmed39.refl s, rfl⟩ trivial
  refine ⟨n, _, h1, h2, h3, hpost _ _ _ _ _ _ ⟨Cond.after_iff.mpr rfl, Cond.after_iff.mpr (eq_i res_at (Term.int_eval (1)) rfl), trivial⟩ ⟨hq.1, hq.2.1, (hq.2.2.sift fun y hy => Or.inr (N y hy)).mono (by decide) (by decide)⟩⟩
theorem main_1_1 : Claimed_1_1 := comes_1 fun _ _ _ _ _ _ h hF => ⟨h.1, hF⟩
theorem main_1_2 : Claimed_1_2 := comes_1 fun _ _ _ _ _ _ h hF => ⟨h.2.1, hF⟩
end Jvm.Pilot.@@N@@
namespace Jvm.Pilot.@@N@@
open Jvm Jvm.ClassFile Sem Op Lib Jvm.Free Jvm.Stand Jvm.Pilot.@@N@@.Jvm.D
/-! MADE BY PROGRAM (witnessworld.py) out of the Statement's table words and the real class files: 9 classes; the members and pool entries that the words name. The judged class is class 1, her method 3. -/
namespace start1
open Jvm.ClassFile
def u (s : String) : CpInfo := .utf8 (stringToUtf16 s)
/-- a pool by its gaps: so many unusable entries, then the entry; so many at the end -/
def gap : Nat → List CpInfo → List CpInfo
  | 0, r => r
  | n + 1, r => .unusable :: gap n r
def poolList (es : List (Nat × CpInfo)) (last : Nat) : List CpInfo := es.foldr (fun e r => gap e.1 (e.2 :: r)) (gap last [])
def pool (es : List (Nat × CpInfo)) (last : Nat) : Array CpInfo := ⟨poolList es last⟩
def fileOf (pool : Array CpInfo) (this : Nat) (attrs : Array Attribute := #[]) (ms : Array MethodInfo := #[]) (fl : Nat := 33) (sup : Nat := 0) (ifs : Array Nat := #[]) (fds : Array FieldInfo := #[]) : ClassFile where
  minorVersion := 0
  majorVersion := 65
  constantPool := pool
  accessFlags := fl
  thisClass := this
  superClass := sup
  interfaces := ifs
  fields := fds
  methods := ms
  attributes := attrs
def plain (name : String) (sup : Option ClassId) : Class where
  name := name
  kind := .ordinary
  loader := none
  accessFlags := 33
  super := sup
  interfaces := #[]
  cf := none
  fields := #[]
  methods := #[]
  instanceTypes := #[]
  staticTypes := #[]
  resolved := #[]
  callSites := []
  init := .initialized
  statics := none
  mirror := none

def pool0 : Array CpInfo := pool [(5, u "<init>"), (0, u "()V"), (1, .class_ 10), (1, u "java/lang/Object")] 113

def k0m0 : Method := { name := "<init>", desc := "()V", sig := { parameters := [], returnType := none }, accessFlags := 1, code := none }
/-- java/lang/Object -/
def k0 : Class := { plain "java/lang/Object" none with
  accessFlags := 33
  interfaces := #[]
  cf := some (fileOf pool0 8 #[] #[{ accessFlags := 1, nameIndex := 5, descriptorIndex := 6, attributes := #[] }] 33 0 #[] #[])
  fields := #[]
  methods := #[k0m0]
  instanceTypes := #[]
  staticTypes := #[]
  resolved := Array.replicate 124 none
  statics := none }

def pool1 : Array CpInfo := pool [(2, .class_ 4), (1, u "java/lang/Object"), (0, u "<init>"), (0, u "()V"), (0, .integer 983039), (0, .methodref 9 10), (0, .class_ 11), (0, .nameAndType 12 13), (0, u "com/example/hornloom/hornloom/NameCharactersIsNameStartCharPinLaw"), (0, u "in"), (0, u "(III)Z"), (0, .integer 55296), (0, .integer 63743), (0, .integer 64976), (0, .integer 65007), (0, .integer 65534), (0, .integer 65535), (0, .integer 55295), (0, .integer 63744), (0, .integer 64975), (0, .integer 65008), (0, .integer 65533), (0, .integer 65536), (0, .integer 2147483647), (0, .methodref 28 29), (0, .class_ 30), (0, .nameAndType 31 32), (0, u "com/example/hornloom/hornloom/NameCharacters"), (0, u "isNameStartChar"), (0, u "(I)Z"), (0, .methodref 9 34), (0, .nameAndType 35 32), (0, u "expected"), (3, u "law")] 4

def k1m0 : Method := { name := "<init>", desc := "()V", sig := { parameters := [], returnType := none }, accessFlags := 2, code := none }
def k1c1 : Code := { maxStack := 2, maxLocals := 3, code := method_2_code, exceptionTable := #[], attributes := #[] }
def k1m1 : Method := { name := "in", desc := "(III)Z", sig := { parameters := [.int, .int, .int], returnType := some .boolean }, accessFlags := 10, code := some k1c1 }
def k1c2 : Code := { maxStack := 3, maxLocals := 1, code := method_3_code, exceptionTable := #[], attributes := #[] }
def k1m2 : Method := { name := "expected", desc := "(I)Z", sig := { parameters := [.int], returnType := some .boolean }, accessFlags := 10, code := some k1c2 }
def k1c3 : Code := { maxStack := 4, maxLocals := 8, code := code, exceptionTable := #[], attributes := #[] }
def k1m3 : Method := { name := "law", desc := "(III)Z", sig := { parameters := [.int, .int, .int], returnType := some .boolean }, accessFlags := 9, code := some k1c3 }
/-- com/example/hornloom/hornloom/NameCharactersIsNameStartCharPinLaw -/
def k1 : Class := { plain "com/example/hornloom/hornloom/NameCharactersIsNameStartCharPinLaw" (some 0) with
  accessFlags := 49
  interfaces := #[]
  cf := some (fileOf pool1 9 #[] #[{ accessFlags := 2, nameIndex := 5, descriptorIndex := 6, attributes := #[] }, { accessFlags := 10, nameIndex := 12, descriptorIndex := 13, attributes := #[] }, { accessFlags := 10, nameIndex := 35, descriptorIndex := 32, attributes := #[] }, { accessFlags := 9, nameIndex := 39, descriptorIndex := 13, attributes := #[] }] 49 2 #[] #[])
  fields := #[]
  methods := #[k1m0, k1m1, k1m2, k1m3]
  instanceTypes := #[]
  staticTypes := #[]
  resolved := Array.replicate 44 none
  statics := none }

def pool2 : Array CpInfo := pool [(2, .class_ 4), (1, u "java/lang/Object"), (0, u "<init>"), (0, u "()V"), (0, .integer 55295), (0, .integer 63744), (0, .integer 64975), (0, .integer 65008), (0, .integer 65533), (0, .integer 65536), (0, .integer 983039), (1, .class_ 17), (1, u "com/example/hornloom/hornloom/NameCharacters"), (0, u "isNameStartChar"), (0, u "(I)Z"), (3, u "MIDDLE_DOT"), (0, u "I")] 8

def k2m0 : Method := { name := "<init>", desc := "()V", sig := { parameters := [], returnType := none }, accessFlags := 2, code := none }
def k2c1 : Code := { maxStack := 2, maxLocals := 1, code := prog_1_method_2_code, exceptionTable := #[], attributes := #[] }
def k2m1 : Method := { name := "isNameStartChar", desc := "(I)Z", sig := { parameters := [.int], returnType := some .boolean }, accessFlags := 9, code := some k2c1 }
/-- com/example/hornloom/hornloom/NameCharacters -/
def k2 : Class := { plain "com/example/hornloom/hornloom/NameCharacters" (some 0) with
  accessFlags := 49
  interfaces := #[]
  cf := some (fileOf pool2 15 #[] #[{ accessFlags := 2, nameIndex := 5, descriptorIndex := 6, attributes := #[] }, { accessFlags := 9, nameIndex := 18, descriptorIndex := 19, attributes := #[] }] 49 2 #[] #[{ accessFlags := 25, nameIndex := 23, descriptorIndex := 24, attributes := #[] }])
  fields := #[{ name := "MIDDLE_DOT", type := .int, accessFlags := 25, slot := 0, constantValue := 0 }]
  methods := #[k2m0, k2m1]
  instanceTypes := #[]
  staticTypes := #[.int]
  resolved := Array.replicate 33 none
  statics := none }

def pool3 : Array CpInfo := pool [(1, u "java/lang/Cloneable"), (0, .class_ 1), (0, u "java/lang/Object"), (0, .class_ 3)] 3

/-- java/lang/Cloneable -/
def k3 : Class := { plain "java/lang/Cloneable" (some 0) with
  accessFlags := 1537
  interfaces := #[]
  cf := some (fileOf pool3 2 #[] #[] 1537 4 #[] #[])
  fields := #[]
  methods := #[]
  instanceTypes := #[]
  staticTypes := #[]
  resolved := Array.replicate 8 none
  statics := none }

def pool4 : Array CpInfo := pool [(1, u "java/io/Serializable"), (0, .class_ 1), (0, u "java/lang/Object"), (0, .class_ 3)] 3

/-- java/io/Serializable -/
def k4 : Class := { plain "java/io/Serializable" (some 0) with
  accessFlags := 1537
  interfaces := #[]
  cf := some (fileOf pool4 2 #[] #[] 1537 4 #[] #[])
  fields := #[]
  methods := #[]
  instanceTypes := #[]
  staticTypes := #[]
  resolved := Array.replicate 8 none
  statics := none }

/-- the primitive byte -/
def k5 : Class := { plain "byte" none with kind := .primitive 'B', accessFlags := 0x411 }
/-- [B -/
def k6 : Class := { plain "[B" (some 0) with kind := .array 5 .byte, interfaces := #[3, 4], accessFlags := 1041 }

/-- the primitive int -/
def k7 : Class := { plain "int" none with kind := .primitive 'I', accessFlags := 0x411 }
/-- [I -/
def k8 : Class := { plain "[I" (some 0) with kind := .array 7 .int, interfaces := #[3, 4], accessFlags := 1041 }

def heap : Heap := #[]
def classes : Array Class := #[k0, k1, k2, k3, k4, k5, k6, k7, k8]
def interned : List (Array UInt16 × Addr) := []
def slotsUsed : Nat := 0
def theMethod : MethodId := ⟨1, 3⟩
def args0 : Array Value := #[.int 5, .int 7, .int 9]
def aboutOver (below : List Frame) : State where
  vm := { classes := classes, interned := interned.toArray }
  heap := heap
  slotsUsed := slotsUsed
  threads := #[{ frames := .invoking theMethod args0 :: below }]
def below0 : List Frame := [.native { method := ⟨0, 0⟩, args := #[] }]
def about1 : State := aboutOver below0
def p0 : Program := .bare "" "" ""
def e0 : Env := launch0.env 0 0 0
theorem w_frames : about1.frames = Frame.invoking theMethod args0 :: below0 := rfl
set_option maxRecDepth 65536 in
theorem w_args : argsFit about1.vm theMethod args0 = true := by decide +kernel
set_option maxRecDepth 65536 in
theorem w_heap : heapFits about1 = true := by decide +kernel
set_option maxRecDepth 65536 in
theorem w_runnable : about1.curStatus? = some .runnable := by decide +kernel
set_option maxRecDepth 65536 in
theorem w_alone : about1.alone = true := by decide +kernel
set_option maxRecDepth 65536 in
theorem w_named : about1.methodNamed? x = some theMethod := by decide +kernel
set_option maxRecDepth 65536 in
theorem w_hears : about1.hears theMethod below0 = true := by decide +kernel
set_option maxRecDepth 65536 in
theorem w_ripe : about1.ripe theMethod args0 below0 = true := by decide +kernel
theorem w_running : about1.status = .running := rfl
set_option maxRecDepth 65536 in
theorem w_room : about1.hasRoom e0.platform room_1 = true :=
  launch0.hasRoom_least _ room_1 (by decide +kernel) (by decide +kernel) (by decide +kernel) (by decide +kernel) (by decide +kernel) (by decide +kernel)
theorem allAtoms_all (ts : List Jvm.Cond) (a : Array Jvm.Value) (st : Jvm.State) : (allAtoms ts).before a st = ts.all (fun c => c.before a st) := by
  induction ts with
  | nil => rfl
  | cons c t ih =>
    show (Jvm.Cond.and c (allAtoms t)).before a st = _
    rw [Jvm.Cond.before_and, ih, List.all_cons]
def words1 : List Jvm.Cond := Jvm.Cond.code x code maxLocals ret :: tables_1
/-- a 'code' word, met by the world's own term for the bytes: nothing is compared byte by byte -/
theorem code_word {y : MethodName} {bytes : ByteArray} {mx : Nat} {rt : Option FieldType} {a : Array Value} {s : State} {m : MethodId} {meth : Method} {c : Code} (h1 : s.methodNamed? y = some m) (h2 : s.vm.method? m = some meth) (h3 : meth.code = some c) (h4 : c.code = bytes)
    (h5 : (c.maxLocals == mx && c.exceptionTable.isEmpty && decide (c.maxStack ≤ mostOperands) && decide (meth.sig.returnType = rt) && !meth.locks && decide (parseMethodDescriptor y.desc = some meth.sig)) = true) : (Jvm.Cond.code y bytes mx rt).before a s = true := by
  simp only [Bool.and_eq_true, beq_iff_eq, Bool.not_eq_true', decide_eq_true_eq] at h5
  obtain ⟨⟨⟨⟨⟨g1, g2⟩, g3⟩, g4⟩, g5⟩, g6⟩ := h5
  simp [Cond.before, Cond.holds, Cond.value, h1, h2, h3, h4, g1, g2, g3, g4, g5, g6]
def isCode : Jvm.Cond → Bool
  | .code _ _ _ _ => true
  | _ => false
theorem all_split {L : List Jvm.Cond} {P : Jvm.Cond → Bool} (h1 : L.all (fun c => isCode c || P c) = true) (h2 : ∀ c ∈ L.filter isCode, P c = true) : L.all P = true := by
  refine List.all_eq_true.mpr fun c hc => ?_
  have h := List.all_eq_true.mp h1 c hc
  rcases Bool.eq_false_or_eq_true (isCode c) with hi | hi
  · exact h2 c (List.mem_filter.mpr ⟨hc, hi⟩)
  · simpa [hi] using h
set_option maxRecDepth 65536 in
theorem w_c0 : (Jvm.Cond.code x code maxLocals ret).before args0 about1 = true := code_word (m := ⟨1, 3⟩) (meth := k1m3) (c := k1c3) (by decide +kernel) rfl rfl rfl (by decide +kernel)
set_option maxRecDepth 65536 in
theorem w_c1 : (Jvm.Cond.code ({ cls := "com/example/hornloom/hornloom/NameCharacters", name := "isNameStartChar", desc := "(I)Z" } : Jvm.MethodName) prog_1_method_2_code (1 : Nat) (Option.some Jvm.ClassFile.FieldType.boolean)).before args0 about1 = true := code_word (m := ⟨2, 1⟩) (meth := k2m1) (c := k2c1) (by decide +kernel) rfl rfl rfl (by decide +kernel)
set_option maxRecDepth 65536 in
theorem w_c2 : (Jvm.Cond.code ({ cls := "com/example/hornloom/hornloom/NameCharactersIsNameStartCharPinLaw", name := "expected", desc := "(I)Z" } : Jvm.MethodName) method_3_code (1 : Nat) (Option.some Jvm.ClassFile.FieldType.boolean)).before args0 about1 = true := code_word (m := ⟨1, 2⟩) (meth := k1m2) (c := k1c2) (by decide +kernel) rfl rfl rfl (by decide +kernel)
set_option maxRecDepth 65536 in
theorem w_c3 : (Jvm.Cond.code ({ cls := "com/example/hornloom/hornloom/NameCharactersIsNameStartCharPinLaw", name := "in", desc := "(III)Z" } : Jvm.MethodName) method_2_code (3 : Nat) (Option.some Jvm.ClassFile.FieldType.boolean)).before args0 about1 = true := code_word (m := ⟨1, 1⟩) (meth := k1m1) (c := k1c1) (by decide +kernel) rfl rfl rfl (by decide +kernel)
def codes1 : List Jvm.Cond := [Jvm.Cond.code x code maxLocals ret, Jvm.Cond.code ({ cls := "com/example/hornloom/hornloom/NameCharacters", name := "isNameStartChar", desc := "(I)Z" } : Jvm.MethodName) prog_1_method_2_code (1 : Nat) (Option.some Jvm.ClassFile.FieldType.boolean), Jvm.Cond.code ({ cls := "com/example/hornloom/hornloom/NameCharactersIsNameStartCharPinLaw", name := "expected", desc := "(I)Z" } : Jvm.MethodName) method_3_code (1 : Nat) (Option.some Jvm.ClassFile.FieldType.boolean), Jvm.Cond.code ({ cls := "com/example/hornloom/hornloom/NameCharactersIsNameStartCharPinLaw", name := "in", desc := "(III)Z" } : Jvm.MethodName) method_2_code (3 : Nat) (Option.some Jvm.ClassFile.FieldType.boolean)]
set_option maxRecDepth 65536 in
theorem codes_eq : words1.filter isCode = codes1 := rfl
theorem w_codes : ∀ c ∈ words1.filter isCode, c.before args0 about1 = true := by
  rw [codes_eq]
  intro c hc
  simp only [codes1, List.mem_cons, List.not_mem_nil, or_false] at hc
  rcases hc with rfl | rfl | rfl | rfl
  · exact w_c0
  · exact w_c1
  · exact w_c2
  · exact w_c3
set_option maxRecDepth 65536 in
theorem w_t1 : (words1.take 24).all (fun c => isCode c || c.before args0 about1) = true := by decide +kernel
set_option maxRecDepth 65536 in
theorem w_t2 : (words1.drop 24).all (fun c => isCode c || c.before args0 about1) = true := by decide +kernel
theorem w_tables : (allAtoms (Jvm.Cond.code x code maxLocals ret :: tables_1)).before args0 about1 = true := by
  rw [allAtoms_all]
  show words1.all (fun c => c.before args0 about1) = true
  refine all_split ?_ w_codes
  rw [← List.take_append_drop 24 words1, List.all_append, w_t1, w_t2]
  rfl
set_option maxRecDepth 65536 in
theorem w_case : (Jvm.Cond.and given_1 narrow_1).before args0 about1 = true := by decide +kernel
theorem w_applies : (headSpec (Jvm.Cond.code x code maxLocals ret :: tables_1) room_1).applies x e0.platform about1 = true :=
  (Spec.applies_iff w_frames).mpr ⟨w_running, w_runnable, w_alone, w_named, w_hears, w_ripe, w_room, w_tables⟩
theorem atStart : AtStart classFile x code maxLocals ret World_1 tables_1 room_1 Calls_1 rest_1 Pre_1 launch0 p0 e0 about1 theMethod args0 below0 :=
  ⟨lists_1, trivial, launch0.admits_env _ _ _, launch0.least_env, fairChoices_fair.cas, fairChoices_fair.clock, w_frames, w_args, w_heap, w_applies, trivial, trivial, w_case⟩
end start1
theorem witness_1 : WitnessClaimed_1 := ⟨start1.p0, start1.e0, start1.about1, start1.theMethod, start1.args0, start1.below0, start1.atStart⟩
end Jvm.Pilot.@@N@@
