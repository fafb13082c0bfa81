import JvmDerived
import JvmDerived.Pilot.@@N@@Statement
import JvmDerived.Pilot.@@N@@Code
set_option linter.unusedVariables false
set_option linter.unusedSimpArgs false

namespace Jvm.Pilot.@@N@@
open Jvm Jvm.ClassFile Sem Op Lib Jvm.Free Jvm.Stand Jvm.LawKit Jvm.RoadKit Bundle Jvm.Pilot.@@N@@.Jvm.D
/-- from every end that the second place reaches the first does -/
abbrev own_To (p : Program) (e : Env) (below : List Frame) (T' : State) (f' : JFrame) (T : State) (f : JFrame) : Prop := ∀ t, Steps p.tables e below (T'.setTop f') t → Steps p.tables e below (T.setTop f) t
theorem own_d3_0 : decode jdk_29_method_70_code 0 = .ok (.lload_n 0, 1) := by decide +kernel
theorem own_d3_1 : decode jdk_29_method_70_code 1 = .ok (.lload_n 2, 1) := by decide +kernel
theorem own_d3_2 : decode jdk_29_method_70_code 2 = .ok (.lcmp, 1) := by decide +kernel
theorem own_d3_3 : decode jdk_29_method_70_code 3 = .ok (.ifCond .gt 7, 3) := by decide +kernel
theorem own_d3_6 : decode jdk_29_method_70_code 6 = .ok (.lload_n 0, 1) := by decide +kernel
theorem own_d3_7 : decode jdk_29_method_70_code 7 = .ok (.goto 4, 3) := by decide +kernel
theorem own_d3_10 : decode jdk_29_method_70_code 10 = .ok (.lload_n 2, 1) := by decide +kernel
theorem own_d3_11 : decode jdk_29_method_70_code 11 = .ok (.lreturn, 1) := by decide +kernel
theorem own_ef3 (m : MethodId) (x0 : Int64) (x1 : Int64) : entryFrame m #[(.long x0), (.long x1)] 4 = mkF m 0 #[.val (.long x0), .second, .val (.long x1), .second] [] := by first | (simp [entryFrame, mkF, argsToLocals, Value.category]; done) | rfl
def own_min (q0 q1 : Int64) : Int64 := (if q1 < q0 then q1 else q0)
def Q3 (Z : State) (q0 : Int64) (q1 : Int64) (h0 : Heap) (n0 : Nat) (v : Option Value) (h : Heap) (L : List Loc) : Prop := v = some (.long (own_min q0 q1)) ∧ Fr n0 L ∧ h = h0
set_option maxRecDepth 65536 in
set_option maxHeartbeats 40000000 in
theorem rm3 (l : Launch) (Z : State) (a0 : Array Value) (hw : ∀ d ∈ tables_1, d.before a0 Z = true) (ws : List Jvm.Cond) (q0 : Int64) (q1 : Int64) (h0 : Heap) (n0 : Nat) (Z0 : n0 ≤ h0.size) :
    MetFree l (⟨"java/lang/Math", "min", "(JJ)J"⟩ : MethodName) (head1 (Jvm.Cond.code (⟨"java/lang/Math", "min", "(JJ)J"⟩ : MethodName) jdk_29_method_70_code 4 (some .long) :: ws) ({ frames := 0, cells := 0, slots := 0, locals := 0 } : Room)) (fun a U => a = #[(.long q0), (.long q1)] ∧ Z.Warmed39 U.vm ∧ U.heap = h0) (fun _ _ _ _ _ => True) (fun _ U o U' => ∃ v L, o = .returned v ∧ Q3 Z q0 q1 h0 n0 v U'.heap L ∧ FrameEnd U o U' L ({ frames := 0, cells := 0, slots := 0, locals := 0 } : Room).cells ({ frames := 0, cells := 0, slots := 0, locals := 0 } : Room).slots) := by
  refine MetFree.of_bodySF (Jvm.Free.JP.mathPlain rfl (by decide +kernel)) hisR ?_
  intro p e s m args below meth c s₁ Bd hml0 hP hK
  obtain ⟨rfl, hZ, hh⟩ := hP
  have hx := Bd.exec
  have hby := Bd.bytes
  have hml : c.maxLocals = 4 := hml0
  have hown : s.vm.findClass "java/lang/Math" = some m.cls := findClass_of_methodNamed Bd.named
  have hnm := (name_of_methodNamed Bd.named Bd.method).1
  have X0 : Stand p l e ({ frames := 0, cells := 0, slots := 0, locals := 0 } : Room) s m #[(.long q0), (.long q1)] below meth c s₁ [] 0 0 := Stand.of_body Bd
  have e0 : s₁.heap = h0 := by rw [← hh, Bd.state]; rfl
  have N0 := Fr.nil n0
  have k0 : own_To p e below s₁ (mkF m 0 #[.val (.long q0), .second, .val (.long q1), .second] []) s₁ (entryFrame m #[(.long q0), (.long q1)] 4) := fun t k => castTop (own_ef3 m q0 q1) k
  have ki : own_To p e below s₁ (mkF m 0 #[.val (.long q0), .second, .val (.long q1), .second] []) s₁ (mkF m 0 #[.val (.long q0), .second, .val (.long q1), .second] []) := fun t q => q
  have k1 : own_To p e below s₁ (mkF m 3 #[.val (.long q0), .second, .val (.long q1), .second] [(.int (lcmpW q0 q1))]) s₁ (mkF m 0 #[.val (.long q0), .second, .val (.long q1), .second] []) := fun t q => ki t (by
    refine XS.lloadN X0.here hx rfl (hb hby own_d3_0) rfl ?_
    show Steps p.tables e below (s₁.setTop (mkF m 1 #[.val (.long q0), .second, .val (.long q1), .second] [(.long q0)])) _
    refine XS.lloadN X0.here hx rfl (hb hby own_d3_1) rfl ?_
    show Steps p.tables e below (s₁.setTop (mkF m 2 #[.val (.long q0), .second, .val (.long q1), .second] [(.long q1), (.long q0)])) _
    refine XS.lcmp X0.here hx rfl (hb hby own_d3_2) rfl ?_
    show Steps p.tables e below (s₁.setTop (mkF m 3 #[.val (.long q0), .second, .val (.long q1), .second] [(.int (lcmpW q0 q1))])) _
    exact q)
  by_cases hc2 : q1 < q0
  ·
    have k3 : own_To p e below s₁ (mkF m 11 #[.val (.long q0), .second, .val (.long q1), .second] [(.long q1)]) s₁ (mkF m 0 #[.val (.long q0), .second, .val (.long q1), .second] []) := fun t q => k1 t (by
      refine XS.ifYes X0.here hx rfl (pc0 := 3) (pc' := 10) rfl (hb hby own_d3_3) rfl ((if0 _ _).trans (tlt ((lw_gt q0 q1).mpr hc2)).2.2.1) (by decide) (by decide) ?_
      show Steps p.tables e below (s₁.setTop (mkF m 10 #[.val (.long q0), .second, .val (.long q1), .second] [])) _
      refine XS.lloadN X0.here hx rfl (hb hby own_d3_10) rfl ?_
      show Steps p.tables e below (s₁.setTop (mkF m 11 #[.val (.long q0), .second, .val (.long q1), .second] [(.long q1)])) _
      exact q)
    obtain ⟨fs, hr, hrun, hended, hW, hsame⟩ := X0.leave (v := some (.long q1)) (fun h => by rw [Bd.returns] at h; cases h)
    refine ⟨_, _, k0 _ (k3 _ ?_), hrun, hended, _, _, rfl, ?_, ⟨_, rfl⟩, hW, hsame.mono (by decide) (by decide)⟩
    · show Steps p.tables e below (s₁.setTop (mkF m 11 #[.val (.long q0), .second, .val (.long q1), .second] [(.long q1)])) _
      exact retOut X0 hx Bd.returns rfl (Or.inr (Or.inl ⟨rfl, rfl, _, rfl⟩)) (hb hby own_d3_11) hr
    · show Q3 Z q0 q1 h0 n0 _ s₁.heap _
      rw [e0]
      exact ⟨by rw [own_min, if_pos hc2], N0, rfl⟩
  ·
    have k4 : own_To p e below s₁ (mkF m 11 #[.val (.long q0), .second, .val (.long q1), .second] [(.long q0)]) s₁ (mkF m 0 #[.val (.long q0), .second, .val (.long q1), .second] []) := fun t q => k1 t (by
      refine XS.ifNo X0.here hx rfl (hb hby own_d3_3) rfl ((if0 _ _).trans (flt (mt (lw_gt q0 q1).mp hc2)).2.2.1) ?_
      show Steps p.tables e below (s₁.setTop (mkF m 6 #[.val (.long q0), .second, .val (.long q1), .second] [])) _
      refine XS.lloadN X0.here hx rfl (hb hby own_d3_6) rfl ?_
      show Steps p.tables e below (s₁.setTop (mkF m 7 #[.val (.long q0), .second, .val (.long q1), .second] [(.long q0)])) _
      refine XS.goto X0.here hx rfl (pc0 := 7) (pc' := 11) rfl (hb hby own_d3_7) (by decide) (by decide) ?_
      show Steps p.tables e below (s₁.setTop (mkF m 11 #[.val (.long q0), .second, .val (.long q1), .second] [(.long q0)])) _
      exact q)
    obtain ⟨fs, hr, hrun, hended, hW, hsame⟩ := X0.leave (v := some (.long q0)) (fun h => by rw [Bd.returns] at h; cases h)
    refine ⟨_, _, k0 _ (k4 _ ?_), hrun, hended, _, _, rfl, ?_, ⟨_, rfl⟩, hW, hsame.mono (by decide) (by decide)⟩
    · show Steps p.tables e below (s₁.setTop (mkF m 11 #[.val (.long q0), .second, .val (.long q1), .second] [(.long q0)])) _
      exact retOut X0 hx Bd.returns rfl (Or.inr (Or.inl ⟨rfl, rfl, _, rfl⟩)) (hb hby own_d3_11) hr
    · show Q3 Z q0 q1 h0 n0 _ s₁.heap _
      rw [e0]
      exact ⟨by rw [own_min, if_neg hc2], N0, rfl⟩
theorem own_d4_0 : decode jdk_29_method_66_code 0 = .ok (.lload_n 0, 1) := by decide +kernel
theorem own_d4_1 : decode jdk_29_method_66_code 1 = .ok (.lload_n 2, 1) := by decide +kernel
theorem own_d4_2 : decode jdk_29_method_66_code 2 = .ok (.lcmp, 1) := by decide +kernel
theorem own_d4_3 : decode jdk_29_method_66_code 3 = .ok (.ifCond .lt 7, 3) := by decide +kernel
theorem own_d4_6 : decode jdk_29_method_66_code 6 = .ok (.lload_n 0, 1) := by decide +kernel
theorem own_d4_7 : decode jdk_29_method_66_code 7 = .ok (.goto 4, 3) := by decide +kernel
theorem own_d4_10 : decode jdk_29_method_66_code 10 = .ok (.lload_n 2, 1) := by decide +kernel
theorem own_d4_11 : decode jdk_29_method_66_code 11 = .ok (.lreturn, 1) := by decide +kernel
theorem own_ef4 (m : MethodId) (x0 : Int64) (x1 : Int64) : entryFrame m #[(.long x0), (.long x1)] 4 = mkF m 0 #[.val (.long x0), .second, .val (.long x1), .second] [] := by first | (simp [entryFrame, mkF, argsToLocals, Value.category]; done) | rfl
def own_max (q0 q1 : Int64) : Int64 := (if q0 < q1 then q1 else q0)
def Q4 (Z : State) (q0 : Int64) (q1 : Int64) (h0 : Heap) (n0 : Nat) (v : Option Value) (h : Heap) (L : List Loc) : Prop := v = some (.long (own_max q0 q1)) ∧ Fr n0 L ∧ h = h0
set_option maxRecDepth 65536 in
set_option maxHeartbeats 40000000 in
theorem rm4 (l : Launch) (Z : State) (a0 : Array Value) (hw : ∀ d ∈ tables_1, d.before a0 Z = true) (ws : List Jvm.Cond) (q0 : Int64) (q1 : Int64) (h0 : Heap) (n0 : Nat) (Z0 : n0 ≤ h0.size) :
    MetFree l (⟨"java/lang/Math", "max", "(JJ)J"⟩ : MethodName) (head1 (Jvm.Cond.code (⟨"java/lang/Math", "max", "(JJ)J"⟩ : MethodName) jdk_29_method_66_code 4 (some .long) :: ws) ({ frames := 0, cells := 0, slots := 0, locals := 0 } : Room)) (fun a U => a = #[(.long q0), (.long q1)] ∧ Z.Warmed39 U.vm ∧ U.heap = h0) (fun _ _ _ _ _ => True) (fun _ U o U' => ∃ v L, o = .returned v ∧ Q4 Z q0 q1 h0 n0 v U'.heap L ∧ FrameEnd U o U' L ({ frames := 0, cells := 0, slots := 0, locals := 0 } : Room).cells ({ frames := 0, cells := 0, slots := 0, locals := 0 } : Room).slots) := by
  refine MetFree.of_bodySF (Jvm.Free.JP.mathPlain rfl (by decide +kernel)) hisR ?_
  intro p e s m args below meth c s₁ Bd hml0 hP hK
  obtain ⟨rfl, hZ, hh⟩ := hP
  have hx := Bd.exec
  have hby := Bd.bytes
  have hml : c.maxLocals = 4 := hml0
  have hown : s.vm.findClass "java/lang/Math" = some m.cls := findClass_of_methodNamed Bd.named
  have hnm := (name_of_methodNamed Bd.named Bd.method).1
  have X0 : Stand p l e ({ frames := 0, cells := 0, slots := 0, locals := 0 } : Room) s m #[(.long q0), (.long q1)] below meth c s₁ [] 0 0 := Stand.of_body Bd
  have e0 : s₁.heap = h0 := by rw [← hh, Bd.state]; rfl
  have N0 := Fr.nil n0
  have k0 : own_To p e below s₁ (mkF m 0 #[.val (.long q0), .second, .val (.long q1), .second] []) s₁ (entryFrame m #[(.long q0), (.long q1)] 4) := fun t k => castTop (own_ef4 m q0 q1) k
  have ki : own_To p e below s₁ (mkF m 0 #[.val (.long q0), .second, .val (.long q1), .second] []) s₁ (mkF m 0 #[.val (.long q0), .second, .val (.long q1), .second] []) := fun t q => q
  have k1 : own_To p e below s₁ (mkF m 3 #[.val (.long q0), .second, .val (.long q1), .second] [(.int (lcmpW q0 q1))]) s₁ (mkF m 0 #[.val (.long q0), .second, .val (.long q1), .second] []) := fun t q => ki t (by
    refine XS.lloadN X0.here hx rfl (hb hby own_d4_0) rfl ?_
    show Steps p.tables e below (s₁.setTop (mkF m 1 #[.val (.long q0), .second, .val (.long q1), .second] [(.long q0)])) _
    refine XS.lloadN X0.here hx rfl (hb hby own_d4_1) rfl ?_
    show Steps p.tables e below (s₁.setTop (mkF m 2 #[.val (.long q0), .second, .val (.long q1), .second] [(.long q1), (.long q0)])) _
    refine XS.lcmp X0.here hx rfl (hb hby own_d4_2) rfl ?_
    show Steps p.tables e below (s₁.setTop (mkF m 3 #[.val (.long q0), .second, .val (.long q1), .second] [(.int (lcmpW q0 q1))])) _
    exact q)
  by_cases hc2 : q0 < q1
  ·
    have k3 : own_To p e below s₁ (mkF m 11 #[.val (.long q0), .second, .val (.long q1), .second] [(.long q1)]) s₁ (mkF m 0 #[.val (.long q0), .second, .val (.long q1), .second] []) := fun t q => k1 t (by
      refine XS.ifYes X0.here hx rfl (pc0 := 3) (pc' := 10) rfl (hb hby own_d4_3) rfl ((if0 _ _).trans (tlt ((lw_lt q0 q1).mpr hc2)).1) (by decide) (by decide) ?_
      show Steps p.tables e below (s₁.setTop (mkF m 10 #[.val (.long q0), .second, .val (.long q1), .second] [])) _
      refine XS.lloadN X0.here hx rfl (hb hby own_d4_10) rfl ?_
      show Steps p.tables e below (s₁.setTop (mkF m 11 #[.val (.long q0), .second, .val (.long q1), .second] [(.long q1)])) _
      exact q)
    obtain ⟨fs, hr, hrun, hended, hW, hsame⟩ := X0.leave (v := some (.long q1)) (fun h => by rw [Bd.returns] at h; cases h)
    refine ⟨_, _, k0 _ (k3 _ ?_), hrun, hended, _, _, rfl, ?_, ⟨_, rfl⟩, hW, hsame.mono (by decide) (by decide)⟩
    · show Steps p.tables e below (s₁.setTop (mkF m 11 #[.val (.long q0), .second, .val (.long q1), .second] [(.long q1)])) _
      exact retOut X0 hx Bd.returns rfl (Or.inr (Or.inl ⟨rfl, rfl, _, rfl⟩)) (hb hby own_d4_11) hr
    · show Q4 Z q0 q1 h0 n0 _ s₁.heap _
      rw [e0]
      exact ⟨by rw [own_max, if_pos hc2], N0, rfl⟩
  ·
    have k4 : own_To p e below s₁ (mkF m 11 #[.val (.long q0), .second, .val (.long q1), .second] [(.long q0)]) s₁ (mkF m 0 #[.val (.long q0), .second, .val (.long q1), .second] []) := fun t q => k1 t (by
      refine XS.ifNo X0.here hx rfl (hb hby own_d4_3) rfl ((if0 _ _).trans (flt (mt (lw_lt q0 q1).mp hc2)).1) ?_
      show Steps p.tables e below (s₁.setTop (mkF m 6 #[.val (.long q0), .second, .val (.long q1), .second] [])) _
      refine XS.lloadN X0.here hx rfl (hb hby own_d4_6) rfl ?_
      show Steps p.tables e below (s₁.setTop (mkF m 7 #[.val (.long q0), .second, .val (.long q1), .second] [(.long q0)])) _
      refine XS.goto X0.here hx rfl (pc0 := 7) (pc' := 11) rfl (hb hby own_d4_7) (by decide) (by decide) ?_
      show Steps p.tables e below (s₁.setTop (mkF m 11 #[.val (.long q0), .second, .val (.long q1), .second] [(.long q0)])) _
      exact q)
    obtain ⟨fs, hr, hrun, hended, hW, hsame⟩ := X0.leave (v := some (.long q0)) (fun h => by rw [Bd.returns] at h; cases h)
    refine ⟨_, _, k0 _ (k4 _ ?_), hrun, hended, _, _, rfl, ?_, ⟨_, rfl⟩, hW, hsame.mono (by decide) (by decide)⟩
    · show Steps p.tables e below (s₁.setTop (mkF m 11 #[.val (.long q0), .second, .val (.long q1), .second] [(.long q0)])) _
      exact retOut X0 hx Bd.returns rfl (Or.inr (Or.inl ⟨rfl, rfl, _, rfl⟩)) (hb hby own_d4_11) hr
    · show Q4 Z q0 q1 h0 n0 _ s₁.heap _
      rw [e0]
      exact ⟨by rw [own_max, if_neg hc2], N0, rfl⟩
theorem own_d1_0 : decode prog_13_method_1_code 0 = .ok (.aload_n 0, 1) := by decide +kernel
theorem own_d1_1 : decode prog_13_method_1_code 1 = .ok (.invokespecial 1, 3) := by decide +kernel
theorem own_d1_4 : decode prog_13_method_1_code 4 = .ok (.aload_n 0, 1) := by decide +kernel
theorem own_d1_5 : decode prog_13_method_1_code 5 = .ok (.aload_n 1, 1) := by decide +kernel
theorem own_d1_6 : decode prog_13_method_1_code 6 = .ok (.putfield 7, 3) := by decide +kernel
theorem own_d1_9 : decode prog_13_method_1_code 9 = .ok (.aload_n 0, 1) := by decide +kernel
theorem own_d1_10 : decode prog_13_method_1_code 10 = .ok (.lload_n 2, 1) := by decide +kernel
theorem own_d1_11 : decode prog_13_method_1_code 11 = .ok (.putfield 13, 3) := by decide +kernel
theorem own_d1_14 : decode prog_13_method_1_code 14 = .ok (.aload_n 0, 1) := by decide +kernel
theorem own_d1_15 : decode prog_13_method_1_code 15 = .ok (.aload 4, 2) := by decide +kernel
theorem own_d1_17 : decode prog_13_method_1_code 17 = .ok (.putfield 17, 3) := by decide +kernel
theorem own_d1_20 : decode prog_13_method_1_code 20 = .ok (.return_, 1) := by decide +kernel
theorem own_pn1 : plainName "com/example/form_ranks/formranks/http/AccessToken" = true := by first | (simp [plainName, overriddenIn]; done) | decide +kernel
theorem own_ef1 (m : MethodId) (x0 : Addr) (x1 : Addr) (x2 : Int64) : entryFrame m #[(.ref x0), (.ref x1), (.long x2), .null] 5 = mkF m 0 #[.val (.ref x0), .val (.ref x1), .val (.long x2), .second, .val .null] [] := by first | (simp [entryFrame, mkF, argsToLocals, Value.category]; done) | rfl
def Q1 (Z : State) (a0_ : Addr) (a1 : Addr) (q2 : Int64) (h0 : Heap) (n0 : Nat) (v : Option Value) (h : Heap) (L : List Loc) : Prop := v = none ∧ Fr n0 L ∧ Keep h0 h [a0_] ∧ Exa Z h a0_ "com/example/form_ranks/formranks/http/AccessToken" ∧ Fld Z h a0_ "com/example/form_ranks/formranks/http/AccessToken" "expiresAtMillis" "J" (.long q2)
set_option maxRecDepth 65536 in
set_option maxHeartbeats 40000000 in
theorem rm1 (l : Launch) (Z : State) (a0 : Array Value) (hw : ∀ d ∈ tables_1, d.before a0 Z = true) (ws : List Jvm.Cond) (a0_ : Addr) (a1 : Addr) (q2 : Int64) (h0 : Heap) (n0 : Nat) (Z0 : n0 ≤ h0.size) (F_caller : Fld Z h0 a0_ "com/example/form_ranks/formranks/http/AccessToken" "caller" "Ljava/lang/String;" .null) (F_expiresAtMillis : Fld Z h0 a0_ "com/example/form_ranks/formranks/http/AccessToken" "expiresAtMillis" "J" (.long (0 : Int64))) (F_grantedApis : Fld Z h0 a0_ "com/example/form_ranks/formranks/http/AccessToken" "grantedApis" "Ljava/util/Set;" .null) (E_ : Exa Z h0 a0_ "com/example/form_ranks/formranks/http/AccessToken") (g_ : n0 ≤ a0_) :
    MetFree l (⟨"com/example/form_ranks/formranks/http/AccessToken", "<init>", "(Ljava/lang/String;JLjava/util/Set;)V"⟩ : MethodName) (head1 (Jvm.Cond.code (⟨"com/example/form_ranks/formranks/http/AccessToken", "<init>", "(Ljava/lang/String;JLjava/util/Set;)V"⟩ : MethodName) prog_13_method_1_code 5 none :: ws) ({ frames := 1, cells := 0, slots := 0, locals := 12 } : Room)) (fun a U => a = #[(.ref a0_), (.ref a1), (.long q2), .null] ∧ Z.Warmed39 U.vm ∧ U.heap = h0) (fun _ _ _ _ _ => True) (fun _ U o U' => ∃ v L, o = .returned v ∧ Q1 Z a0_ a1 q2 h0 n0 v U'.heap L ∧ FrameEnd U o U' L ({ frames := 1, cells := 0, slots := 0, locals := 12 } : Room).cells ({ frames := 1, cells := 0, slots := 0, locals := 12 } : Room).slots) := by
  refine MetFree.of_bodySF (plainFor_of_name own_pn1) hisR ?_
  intro p e s m args below meth c s₁ Bd hml0 hP hK
  obtain ⟨rfl, hZ, hh⟩ := hP
  have hx := Bd.exec
  have hby := Bd.bytes
  have hml : c.maxLocals = 5 := hml0
  have hown : s.vm.findClass "com/example/form_ranks/formranks/http/AccessToken" = some m.cls := findClass_of_methodNamed Bd.named
  have hnm := (name_of_methodNamed Bd.named Bd.method).1
  have X0 : Stand p l e ({ frames := 1, cells := 0, slots := 0, locals := 12 } : Room) s m #[(.ref a0_), (.ref a1), (.long q2), .null] below meth c s₁ [] 0 0 := Stand.of_body Bd
  have e0 : s₁.heap = h0 := by rw [← hh, Bd.state]; rfl
  have N0 := Fr.nil n0
  have k0 : own_To p e below s₁ (mkF m 0 #[.val (.ref a0_), .val (.ref a1), .val (.long q2), .second, .val .null] []) s₁ (entryFrame m #[(.ref a0_), (.ref a1), (.long q2), .null] 5) := fun t k => castTop (own_ef1 m a0_ a1 q2) k
  have ki : own_To p e below s₁ (mkF m 0 #[.val (.ref a0_), .val (.ref a1), .val (.long q2), .second, .val .null] []) s₁ (mkF m 0 #[.val (.ref a0_), .val (.ref a1), .val (.long q2), .second, .val .null] []) := fun t q => q
  obtain ⟨T1, X1, e1, st1⟩ := initO X0 hx hZ hown (hw _ (List.mem_of_getElem? (i := 14) rfl)) (hw _ (List.mem_of_getElem? (i := 15) rfl)) (hw _ (List.mem_of_getElem? (i := 16) rfl)) e0 (g := (mkF m 1 #[.val (.ref a0_), .val (.ref a1), .val (.long q2), .second, .val .null] [(.ref a0_)])) rfl (by rw [hml]; rfl) rfl (hb hby own_d1_1) (by decide) (W := 0) (by show 2 * 0 + _ ≤ _; exact Nat.le_of_eq rfl) (by decide)
  obtain ⟨T2, h2, X2, e2, W2, st2⟩ := putF X1 hx hZ hown (host := "") (Or.inl (hw _ (List.mem_of_getElem? (i := 17) rfl))) Via.refl e1 F_caller E_ (Or.inr ⟨(hw _ (List.mem_of_getElem? (i := 18) rfl)), rfl, hnm⟩) (hw _ (List.mem_of_getElem? (i := 1) rfl)) (ty := (.object "java/lang/String")) (by decide) rfl rfl (g := (mkF m 6 #[.val (.ref a0_), .val (.ref a1), .val (.long q2), .second, .val .null] [(.ref a1), (.ref a0_)])) rfl rfl (hb hby own_d1_6)
  have N2 := Fr.snoc X2 N0 g_
  have Fw2 := F_caller.same W2
  have F3 := (F_expiresAtMillis.other W2 (Or.inr (slot_ne (Or.inr (hw _ (List.mem_of_getElem? (i := 20) rfl))) (Or.inr (hw _ (List.mem_of_getElem? (i := 18) rfl))) (by decide) (t := .long) (t' := (.object "java/lang/String")) (by decide) (by decide))))
  have F4 := (E_.wr W2)
  obtain ⟨T5, h5, X5, e5, W5, st5⟩ := putF X2 hx hZ hown (host := "") (Or.inl (hw _ (List.mem_of_getElem? (i := 19) rfl))) Via.refl e2 F3 F4 (Or.inr ⟨(hw _ (List.mem_of_getElem? (i := 20) rfl)), rfl, hnm⟩) (hw _ (List.mem_of_getElem? (i := 1) rfl)) (ty := .long) (by decide) rfl rfl (g := (mkF m 11 #[.val (.ref a0_), .val (.ref a1), .val (.long q2), .second, .val .null] [(.long q2), (.ref a0_)])) rfl rfl (hb hby own_d1_11)
  have N5 := Fr.snoc X5 N2 g_
  have Fw5 := F3.same W5
  have F6 := ((F_grantedApis.other W2 (Or.inr (slot_ne (Or.inr (hw _ (List.mem_of_getElem? (i := 22) rfl))) (Or.inr (hw _ (List.mem_of_getElem? (i := 18) rfl))) (by decide) (t := (.object "java/util/Set")) (t' := (.object "java/lang/String")) (by decide) (by decide)))).other W5 (Or.inr (slot_ne (Or.inr (hw _ (List.mem_of_getElem? (i := 22) rfl))) (Or.inr (hw _ (List.mem_of_getElem? (i := 20) rfl))) (by decide) (t := (.object "java/util/Set")) (t' := .long) (by decide) (by decide))))
  have F7 := (F4.wr W5)
  obtain ⟨T8, h8, X8, e8, W8, st8⟩ := putF X5 hx hZ hown (host := "") (Or.inl (hw _ (List.mem_of_getElem? (i := 21) rfl))) Via.refl e5 F6 F7 (Or.inr ⟨(hw _ (List.mem_of_getElem? (i := 22) rfl)), rfl, hnm⟩) (hw _ (List.mem_of_getElem? (i := 1) rfl)) (ty := (.object "java/util/Set")) (by decide) rfl rfl (g := (mkF m 17 #[.val (.ref a0_), .val (.ref a1), .val (.long q2), .second, .val .null] [.null, (.ref a0_)])) rfl rfl (hb hby own_d1_17)
  have N8 := Fr.snoc X8 N5 g_
  have Fw8 := F6.same W8
  have F9 := (Fw5.other W8 (Or.inr (slot_ne (Or.inr (hw _ (List.mem_of_getElem? (i := 20) rfl))) (Or.inr (hw _ (List.mem_of_getElem? (i := 22) rfl))) (by decide) (t := .long) (t' := (.object "java/util/Set")) (by decide) (by decide))))
  have F10 := (F7.wr W8)
  have K11 : Keep h0 h8 [a0_] := ((((Keep.refl h0 [a0_]).wr W2 (Or.inl (List.mem_of_getElem? (i := 0) rfl))).wr W5 (Or.inl (List.mem_of_getElem? (i := 0) rfl))).wr W8 (Or.inl (List.mem_of_getElem? (i := 0) rfl)))
  have k12 : own_To p e below T8 (mkF m 20 #[.val (.ref a0_), .val (.ref a1), .val (.long q2), .second, .val .null] []) s₁ (mkF m 0 #[.val (.ref a0_), .val (.ref a1), .val (.long q2), .second, .val .null] []) := fun t q => ki t (by
    refine XS.aloadN X0.here hx rfl (hb hby own_d1_0) rfl rfl ?_
    show Steps p.tables e below (s₁.setTop (mkF m 1 #[.val (.ref a0_), .val (.ref a1), .val (.long q2), .second, .val .null] [(.ref a0_)])) _
    refine st1 _ ?_
    show Steps p.tables e below (T1.setTop (mkF m 4 #[.val (.ref a0_), .val (.ref a1), .val (.long q2), .second, .val .null] [])) _
    refine XS.aloadN X1.here hx rfl (hb hby own_d1_4) rfl rfl ?_
    show Steps p.tables e below (T1.setTop (mkF m 5 #[.val (.ref a0_), .val (.ref a1), .val (.long q2), .second, .val .null] [(.ref a0_)])) _
    refine XS.aloadN X1.here hx rfl (hb hby own_d1_5) rfl rfl ?_
    show Steps p.tables e below (T1.setTop (mkF m 6 #[.val (.ref a0_), .val (.ref a1), .val (.long q2), .second, .val .null] [(.ref a1), (.ref a0_)])) _
    refine st2 _ ?_
    show Steps p.tables e below (T2.setTop (mkF m 9 #[.val (.ref a0_), .val (.ref a1), .val (.long q2), .second, .val .null] [])) _
    refine XS.aloadN X2.here hx rfl (hb hby own_d1_9) rfl rfl ?_
    show Steps p.tables e below (T2.setTop (mkF m 10 #[.val (.ref a0_), .val (.ref a1), .val (.long q2), .second, .val .null] [(.ref a0_)])) _
    refine XS.lloadN X2.here hx rfl (hb hby own_d1_10) rfl ?_
    show Steps p.tables e below (T2.setTop (mkF m 11 #[.val (.ref a0_), .val (.ref a1), .val (.long q2), .second, .val .null] [(.long q2), (.ref a0_)])) _
    refine st5 _ ?_
    show Steps p.tables e below (T5.setTop (mkF m 14 #[.val (.ref a0_), .val (.ref a1), .val (.long q2), .second, .val .null] [])) _
    refine XS.aloadN X5.here hx rfl (hb hby own_d1_14) rfl rfl ?_
    show Steps p.tables e below (T5.setTop (mkF m 15 #[.val (.ref a0_), .val (.ref a1), .val (.long q2), .second, .val .null] [(.ref a0_)])) _
    refine XS.aload X5.here hx rfl (hb hby own_d1_15) rfl rfl ?_
    show Steps p.tables e below (T5.setTop (mkF m 17 #[.val (.ref a0_), .val (.ref a1), .val (.long q2), .second, .val .null] [.null, (.ref a0_)])) _
    refine st8 _ ?_
    show Steps p.tables e below (T8.setTop (mkF m 20 #[.val (.ref a0_), .val (.ref a1), .val (.long q2), .second, .val .null] [])) _
    exact q)
  obtain ⟨fs, hr, hrun, hended, hW, hsame⟩ := X8.leave (v := none) (fun _ => rfl)
  refine ⟨_, _, k0 _ (k12 _ ?_), hrun, hended, _, _, rfl, ?_, ⟨_, rfl⟩, hW, hsame.mono (by decide) (by decide)⟩
  · show Steps p.tables e below (T8.setTop (mkF m 20 #[.val (.ref a0_), .val (.ref a1), .val (.long q2), .second, .val .null] [])) _
    exact X8.returnOut hx Bd.returns (hb hby own_d1_20) hr
  · show Q1 Z a0_ a1 q2 h0 n0 _ T8.heap _
    rw [e8]
    exact ⟨rfl, N8, K11, F10, F9⟩
theorem own_d5_0 : decode prog_13_method_4_code 0 = .ok (.lload_n 1, 1) := by decide +kernel
theorem own_d5_1 : decode prog_13_method_4_code 1 = .ok (.aload_n 0, 1) := by decide +kernel
theorem own_d5_2 : decode prog_13_method_4_code 2 = .ok (.getfield 13, 3) := by decide +kernel
theorem own_d5_5 : decode prog_13_method_4_code 5 = .ok (.lcmp, 1) := by decide +kernel
theorem own_d5_6 : decode prog_13_method_4_code 6 = .ok (.ifCond .lt 7, 3) := by decide +kernel
theorem own_d5_9 : decode prog_13_method_4_code 9 = .ok (.iconst 1, 1) := by decide +kernel
theorem own_d5_10 : decode prog_13_method_4_code 10 = .ok (.goto 4, 3) := by decide +kernel
theorem own_d5_13 : decode prog_13_method_4_code 13 = .ok (.iconst 0, 1) := by decide +kernel
theorem own_d5_14 : decode prog_13_method_4_code 14 = .ok (.ireturn, 1) := by decide +kernel
theorem own_pn5 : plainName "com/example/form_ranks/formranks/http/AccessToken" = true := by first | (simp [plainName, overriddenIn]; done) | decide +kernel
theorem own_ef5 (m : MethodId) (x0 : Addr) (x1 : Int64) : entryFrame m #[(.ref x0), (.long x1)] 3 = mkF m 0 #[.val (.ref x0), .val (.long x1), .second] [] := by first | (simp [entryFrame, mkF, argsToLocals, Value.category]; done) | rfl
def own_ex (t0 q1 : Int64) : Int32 := (if q1 < t0 then (0 : Int32) else (1 : Int32))
def Q5 (Z : State) (a0_ : Addr) (q1 : Int64) (t0 : Int64) (h0 : Heap) (n0 : Nat) (v : Option Value) (h : Heap) (L : List Loc) : Prop := v = some (.int (own_ex t0 q1)) ∧ Fr n0 L ∧ h = h0
set_option maxRecDepth 65536 in
set_option maxHeartbeats 40000000 in
theorem rm5 (l : Launch) (Z : State) (a0 : Array Value) (hw : ∀ d ∈ tables_1, d.before a0 Z = true) (ws : List Jvm.Cond) (a0_ : Addr) (q1 : Int64) (t0 : Int64) (h0 : Heap) (n0 : Nat) (Z0 : n0 ≤ h0.size) (Ft : Fld Z h0 a0_ "com/example/form_ranks/formranks/http/AccessToken" "expiresAtMillis" "J" (.long t0)) :
    MetFree l (⟨"com/example/form_ranks/formranks/http/AccessToken", "expiredAt", "(J)Z"⟩ : MethodName) (head1 (Jvm.Cond.code (⟨"com/example/form_ranks/formranks/http/AccessToken", "expiredAt", "(J)Z"⟩ : MethodName) prog_13_method_4_code 3 (some .boolean) :: ws) ({ frames := 0, cells := 0, slots := 0, locals := 0 } : Room)) (fun a U => a = #[(.ref a0_), (.long q1)] ∧ Z.Warmed39 U.vm ∧ U.heap = h0) (fun _ _ _ _ _ => True) (fun _ U o U' => ∃ v L, o = .returned v ∧ Q5 Z a0_ q1 t0 h0 n0 v U'.heap L ∧ FrameEnd U o U' L ({ frames := 0, cells := 0, slots := 0, locals := 0 } : Room).cells ({ frames := 0, cells := 0, slots := 0, locals := 0 } : Room).slots) := by
  refine MetFree.of_bodySF (plainFor_of_name own_pn5) hisR ?_
  intro p e s m args below meth c s₁ Bd hml0 hP hK
  obtain ⟨rfl, hZ, hh⟩ := hP
  have hx := Bd.exec
  have hby := Bd.bytes
  have hml : c.maxLocals = 3 := hml0
  have hown : s.vm.findClass "com/example/form_ranks/formranks/http/AccessToken" = some m.cls := findClass_of_methodNamed Bd.named
  have hnm := (name_of_methodNamed Bd.named Bd.method).1
  have X0 : Stand p l e ({ frames := 0, cells := 0, slots := 0, locals := 0 } : Room) s m #[(.ref a0_), (.long q1)] below meth c s₁ [] 0 0 := Stand.of_body Bd
  have e0 : s₁.heap = h0 := by rw [← hh, Bd.state]; rfl
  have N0 := Fr.nil n0
  have k0 : own_To p e below s₁ (mkF m 0 #[.val (.ref a0_), .val (.long q1), .second] []) s₁ (entryFrame m #[(.ref a0_), (.long q1)] 3) := fun t k => castTop (own_ef5 m a0_ q1) k
  have ki : own_To p e below s₁ (mkF m 0 #[.val (.ref a0_), .val (.long q1), .second] []) s₁ (mkF m 0 #[.val (.ref a0_), .val (.long q1), .second] []) := fun t q => q
  obtain ⟨T1, X1, e1, st1⟩ := getF X0 hx hZ hown (host := "") (Or.inl (hw _ (List.mem_of_getElem? (i := 19) rfl))) Via.refl e0 Ft (g := (mkF m 2 #[.val (.ref a0_), .val (.long q1), .second] [(.ref a0_), (.long q1)])) rfl rfl (hb hby own_d5_2)
  have k2 : own_To p e below T1 (mkF m 6 #[.val (.ref a0_), .val (.long q1), .second] [(.int (lcmpW q1 t0))]) s₁ (mkF m 0 #[.val (.ref a0_), .val (.long q1), .second] []) := fun t q => ki t (by
    refine XS.lloadN X0.here hx rfl (hb hby own_d5_0) rfl ?_
    show Steps p.tables e below (s₁.setTop (mkF m 1 #[.val (.ref a0_), .val (.long q1), .second] [(.long q1)])) _
    refine XS.aloadN X0.here hx rfl (hb hby own_d5_1) rfl rfl ?_
    show Steps p.tables e below (s₁.setTop (mkF m 2 #[.val (.ref a0_), .val (.long q1), .second] [(.ref a0_), (.long q1)])) _
    refine st1 _ ?_
    show Steps p.tables e below (T1.setTop (mkF m 5 #[.val (.ref a0_), .val (.long q1), .second] [(.long t0), (.long q1)])) _
    refine XS.lcmp X1.here hx rfl (hb hby own_d5_5) rfl ?_
    show Steps p.tables e below (T1.setTop (mkF m 6 #[.val (.ref a0_), .val (.long q1), .second] [(.int (lcmpW q1 t0))])) _
    exact q)
  by_cases hc3 : q1 < t0
  ·
    have k4 : own_To p e below T1 (mkF m 14 #[.val (.ref a0_), .val (.long q1), .second] [(.int (0 : Int32))]) s₁ (mkF m 0 #[.val (.ref a0_), .val (.long q1), .second] []) := fun t q => k2 t (by
      refine XS.ifYes X1.here hx rfl (pc0 := 6) (pc' := 13) rfl (hb hby own_d5_6) rfl ((if0 _ _).trans (tlt ((lw_lt q1 t0).mpr hc3)).1) (by decide) (by decide) ?_
      show Steps p.tables e below (T1.setTop (mkF m 13 #[.val (.ref a0_), .val (.long q1), .second] [])) _
      refine XS.iconst X1.here hx rfl (hb hby own_d5_13) ?_
      show Steps p.tables e below (T1.setTop (mkF m 14 #[.val (.ref a0_), .val (.long q1), .second] [(.int (0 : Int32))])) _
      exact q)
    obtain ⟨fs, hr, hrun, hended, hW, hsame⟩ := X1.leave (v := some (.int (0 : Int32))) (fun h => by rw [Bd.returns] at h; cases h)
    refine ⟨_, _, k0 _ (k4 _ ?_), hrun, hended, _, _, rfl, ?_, ⟨_, rfl⟩, hW, hsame.mono (by decide) (by decide)⟩
    · show Steps p.tables e below (T1.setTop (mkF m 14 #[.val (.ref a0_), .val (.long q1), .second] [(.int (0 : Int32))])) _
      exact retN X1 hx (t := .boolean) Bd.returns (by simp) (hb hby own_d5_14) hr
    · show Q5 Z a0_ q1 t0 h0 n0 _ T1.heap _
      rw [e1]
      exact ⟨by rw [own_ex, if_pos hc3], N0, rfl⟩
  ·
    have k5 : own_To p e below T1 (mkF m 14 #[.val (.ref a0_), .val (.long q1), .second] [(.int (1 : Int32))]) s₁ (mkF m 0 #[.val (.ref a0_), .val (.long q1), .second] []) := fun t q => k2 t (by
      refine XS.ifNo X1.here hx rfl (hb hby own_d5_6) rfl ((if0 _ _).trans (flt (mt (lw_lt q1 t0).mp hc3)).1) ?_
      show Steps p.tables e below (T1.setTop (mkF m 9 #[.val (.ref a0_), .val (.long q1), .second] [])) _
      refine XS.iconst X1.here hx rfl (hb hby own_d5_9) ?_
      show Steps p.tables e below (T1.setTop (mkF m 10 #[.val (.ref a0_), .val (.long q1), .second] [(.int (1 : Int32))])) _
      refine XS.goto X1.here hx rfl (pc0 := 10) (pc' := 14) rfl (hb hby own_d5_10) (by decide) (by decide) ?_
      show Steps p.tables e below (T1.setTop (mkF m 14 #[.val (.ref a0_), .val (.long q1), .second] [(.int (1 : Int32))])) _
      exact q)
    obtain ⟨fs, hr, hrun, hended, hW, hsame⟩ := X1.leave (v := some (.int (1 : Int32))) (fun h => by rw [Bd.returns] at h; cases h)
    refine ⟨_, _, k0 _ (k5 _ ?_), hrun, hended, _, _, rfl, ?_, ⟨_, rfl⟩, hW, hsame.mono (by decide) (by decide)⟩
    · show Steps p.tables e below (T1.setTop (mkF m 14 #[.val (.ref a0_), .val (.long q1), .second] [(.int (1 : Int32))])) _
      exact retN X1 hx (t := .boolean) Bd.returns (by simp) (hb hby own_d5_14) hr
    · show Q5 Z a0_ q1 t0 h0 n0 _ T1.heap _
      rw [e1]
      exact ⟨by rw [own_ex, if_neg hc3], N0, rfl⟩
theorem own_at (e : Int64) : own_ex e e = 1 := by
  unfold own_ex; rw [if_neg (by rw [Int64.lt_iff_toInt_lt]; omega)]
theorem own_before (e : Int64) (h : ¬ e = (-9223372036854775808 : Int64)) : own_ex e (e - (1 : Int64)) = 0 := by
  unfold own_ex
  rw [if_pos]
  rw [Int64.lt_iff_toInt_lt]
  have a := c_lsub e 1
  have r := rng64 e
  have r2 := rng64 (e - 1)
  rw [show (1 : Int64).toInt = 1 from rfl] at a
  rw [← Int64.toInt_inj, show (-9223372036854775808 : Int64).toInt = -9223372036854775808 from rfl] at h
  omega
theorem own_mono (e a b : Int64) (h : ¬ own_ex e (own_min a b) = 0) : ¬ own_ex e (own_max a b) = 0 := by
  unfold own_ex at *
  by_cases x : own_max a b < e
  · exfalso
    apply h
    rw [if_pos]
    unfold own_min own_max at *
    simp only [Int64.lt_iff_toInt_lt] at *
    split at x <;> split <;> omega
  · rw [if_neg x]; decide
theorem own_pd3 : parseMethodDescriptor "(Ljava/lang/String;JLjava/util/Set;)V" = some ⟨[(.object "java/lang/String"), .long, (.object "java/util/Set")], none⟩ := by decide +kernel
theorem own_pd2 : parseMethodDescriptor "(JJ)J" = some ⟨[.long, .long], some .long⟩ := by decide +kernel
theorem own_pd1 : parseMethodDescriptor "(J)Z" = some ⟨[.long], some .boolean⟩ := by decide +kernel
theorem own_pn0 : plainName "com/example/form_ranks/formranks/http/AccessTokenExpiredAtPinLaw" = true := by first | (simp [plainName, overriddenIn]; done) | decide +kernel
theorem own_ef0 (m : MethodId) (x0 : Int64) (x1 : Int64) (x2 : Int64) : entryFrame m #[(.long x0), (.long x1), (.long x2)] maxLocals = mkF m 0 #[.val (.long x0), .second, .val (.long x1), .second, .val (.long x2), .second, .unset, .unset, .unset, .unset, .unset, .unset, .unset, .unset, .unset, .unset] [] := by first | (simp [entryFrame, mkF, argsToLocals, Value.category, maxLocals]; done) | rfl
def Q0 (Z : State) (q0 : Int64) (q1 : Int64) (q2 : Int64) (h0 : Heap) (n0 : Nat) (v : Option Value) (h : Heap) (L : List Loc) : Prop := v = some (.int 1) ∧ Fr n0 L
set_option maxRecDepth 65536 in
set_option maxHeartbeats 40000000 in
theorem rm0 (l : Launch) (Z : State) (a0 : Array Value) (hw : ∀ d ∈ tables_1, d.before a0 Z = true) (ws : List Jvm.Cond) (q0 : Int64) (q1 : Int64) (q2 : Int64) (h0 : Heap) (n0 : Nat) (Z0 : n0 ≤ h0.size) :
    MetFree l x (head1 (Jvm.Cond.code x code maxLocals ret :: ws) room_1) (fun a U => a = #[(.long q0), (.long q1), (.long q2)] ∧ Z.Warmed39 U.vm ∧ U.heap = h0) (fun _ _ _ _ _ => True) (fun _ U o U' => ∃ v L, o = .returned v ∧ Q0 Z q0 q1 q2 h0 n0 v U'.heap L ∧ ReturnedEndW U o U' L 16 1152) := by
  refine MetFree.of_bodySF (plainFor_of_name own_pn0) hisR ?_
  intro p e s m args below meth c s₁ Bd hml0 hP hK
  obtain ⟨rfl, hZ, hh⟩ := hP
  have hx := Bd.exec
  have hby := Bd.bytes
  have hml : c.maxLocals = 16 := hml0
  have hown : s.vm.findClass "com/example/form_ranks/formranks/http/AccessTokenExpiredAtPinLaw" = some m.cls := findClass_of_methodNamed Bd.named
  have hnm := (name_of_methodNamed Bd.named Bd.method).1
  have X0 : Stand p l e room_1 s m #[(.long q0), (.long q1), (.long q2)] below meth c s₁ [] 0 0 := Stand.of_body Bd
  have e0 : s₁.heap = h0 := by rw [← hh, Bd.state]; rfl
  have N0 := Fr.nil n0
  have k0 : own_To p e below s₁ (mkF m 0 #[.val (.long q0), .second, .val (.long q1), .second, .val (.long q2), .second, .unset, .unset, .unset, .unset, .unset, .unset, .unset, .unset, .unset, .unset] []) s₁ (entryFrame m #[(.long q0), (.long q1), (.long q2)] maxLocals) := fun t k => castTop (own_ef0 m q0 q1 q2) k
  have ki : own_To p e below s₁ (mkF m 0 #[.val (.long q0), .second, .val (.long q1), .second, .val (.long q2), .second, .unset, .unset, .unset, .unset, .unset, .unset, .unset, .unset, .unset, .unset] []) s₁ (mkF m 0 #[.val (.long q0), .second, .val (.long q1), .second, .val (.long q2), .second, .unset, .unset, .unset, .unset, .unset, .unset, .unset, .unset, .unset, .unset] []) := fun t q => q
  have hstr : ∀ a ∈ Bundle.stringAtoms, a.before a0 Z = true := fun d hd => hw d ((by decide +kernel : ∀ d ∈ Bundle.stringAtoms, d ∈ tables_1) d hd)
  obtain ⟨T1, h1, X1, e1, E1, A1, D1, -, st1⟩ := newO X0 hx hZ hown (hw _ (List.mem_of_getElem? (i := 0) rfl)) (hw _ (List.mem_of_getElem? (i := 1) rfl)) (hw _ (List.mem_of_getElem? (i := 2) rfl)) e0 (g := (mkF m 0 #[.val (.long q0), .second, .val (.long q1), .second, .val (.long q2), .second, .unset, .unset, .unset, .unset, .unset, .unset, .unset, .unset, .unset, .unset] [])) rfl (hb hby at_0) (by decide) (by decide)
  obtain ⟨b1, g1⟩ : ∃ z, z = h0.size := ⟨_, rfl⟩
  rw [← g1] at A1 D1 st1
  have ge_b1 : n0 ≤ b1 := Nat.le_trans Z0 (Nat.le_of_eq g1.symm)
  have K2 : Keep h0 h0 [] := (Keep.refl h0 [])
  have sz_b1 : h0.size ≤ b1 := Nat.le_trans K2.1 (Nat.le_of_eq g1.symm)
  have F1_18 : Fld Z h1 b1 "com/example/form_ranks/formranks/http/AccessToken" "caller" "Ljava/lang/String;" .null := D1 (Or.inr (hw _ (List.mem_of_getElem? (i := 18) rfl))) (ty := (.object "java/lang/String")) (by decide)
  have F1_20 : Fld Z h1 b1 "com/example/form_ranks/formranks/http/AccessToken" "expiresAtMillis" "J" (.long (0 : Int64)) := D1 (Or.inr (hw _ (List.mem_of_getElem? (i := 20) rfl))) (ty := .long) (by decide)
  have F1_22 : Fld Z h1 b1 "com/example/form_ranks/formranks/http/AccessToken" "grantedApis" "Ljava/util/Set;" .null := D1 (Or.inr (hw _ (List.mem_of_getElem? (i := 22) rfl))) (ty := (.object "java/util/Set")) (by decide)
  obtain ⟨b3, T3, h3, kk3, X3, e3, E3, hS3, hk3, hZ3, hown3, st3⟩ := ldcS (vm0 := s.vm) X1 hx hZ hown (hw _ (List.mem_of_getElem? (i := 3) rfl)) hstr e1 (State.WarmedH.since (State.WarmedH.refl s) 0) (Nat.zero_le _) (g := (mkF m 4 #[.val (.long q0), .second, .val (.long q1), .second, .val (.long q2), .second, .unset, .unset, .unset, .unset, .unset, .unset, .unset, .unset, .unset, .unset] [(.ref b1), (.ref b1)])) rfl (hb hby at_4) (n := 4) (by decide) (by decide) (by decide) (by decide)
  have hZ := hZ3
  have hown := hown3
  have F5 := (F1_18.ext E3)
  have F6 := (F1_20.ext E3)
  have F7 := (F1_22.ext E3)
  have K8 : Keep h0 h3 [] := ((K2.ext E1).ext E3)
  have F9 := (A1.ext E3)
  obtain ⟨_, _, ⟨T4, L4, kk4, n4⟩, -, X4, ⟨Lc4, hQ4, l4, y4, z4⟩, st4⟩ := X3.specialBack hx (y := (⟨"com/example/form_ranks/formranks/http/AccessToken", "<init>", "(Ljava/lang/String;JLjava/util/Set;)V"⟩ : MethodName)) rfl hown (mvT hZ (hw _ (List.mem_of_getElem? (i := 11) rfl))) (mvT hZ (hw _ (List.mem_of_getElem? (i := 12) rfl))) (mvT hZ (hw _ (List.mem_of_getElem? (i := 13) rfl))) (by decide) (backOf (W := 1) (rm1 l Z a0 hw [] b1 b3 q0 h3 n0 (Nat.le_trans Z0 K8.1) F5 F6 F7 F9 ge_b1) hZ (hw _ (List.mem_of_getElem? (i := 13) rfl)) (hw _ (List.mem_of_getElem? (i := 2) rfl)) (by decide) (by decide)) (g := (mkF m 8 #[.val (.long q0), .second, .val (.long q1), .second, .val (.long q2), .second, .unset, .unset, .unset, .unset, .unset, .unset, .unset, .unset, .unset, .unset] [.null, (.long q0), (.ref b3), (.ref b1), (.ref b1)])) rfl (by rw [hml]; rfl) (Steps.refl _) (a := b1) (argsL := [(.ref b3), (.long q0), .null]) (rest := [(.ref b1)]) (lenOf own_pd3 rfl) rfl (by show 2 * 0 + _ ≤ _; exact Nat.le_of_eq rfl) (hb hby at_8) (fun _ _ => ⟨rfl, e3, (by decide : 3 + 0 ≤ _), (by decide : 11 + 0 ≤ _)⟩)
  dsimp only [Pt.U, Pt.locs, Pt.cells, Pt.slots] at X4 l4 y4 z4 st4 hQ4
  subst l4 y4 z4
  obtain ⟨rfl, N4q, K4, E4, F4_0⟩ := hQ4
  have N4 := Fr.app N0 N4q
  have K11 : Keep h0 T4.heap [] := (K8.trans K4 (allS (P := fun x => x ∈ ([] : List Addr) ∨ h0.size ≤ x) (Or.inr sz_b1) all0))
  obtain ⟨_, _, ⟨T10, L10, kk10, n10⟩, -, X10, ⟨Lc10, hQ10, l10, y10, z10⟩, st10⟩ := Jvm.LawKit.callS X4 hx (y := (⟨"java/lang/Math", "min", "(JJ)J"⟩ : MethodName)) hown (mvT hZ (hw _ (List.mem_of_getElem? (i := 23) rfl))) (mvT hZ (hw _ (List.mem_of_getElem? (i := 24) rfl))) (mvT hZ (hw _ (List.mem_of_getElem? (i := 25) rfl))) (mvT hZ (hw _ (List.mem_of_getElem? (i := 26) rfl))) (by decide) (backOf (W := 0) (rm3 l Z a0 hw [] q1 q2 T4.heap n0 (Nat.le_trans Z0 K11.1)) hZ (hw _ (List.mem_of_getElem? (i := 26) rfl)) (hw _ (List.mem_of_getElem? (i := 25) rfl)) (by decide) (by decide)) (g := (mkF m 16 #[.val (.long q0), .second, .val (.long q1), .second, .val (.long q2), .second, .val (.ref b1), .unset, .unset, .unset, .unset, .unset, .unset, .unset, .unset, .unset] [(.long q2), (.long q1)])) rfl (by rw [hml]; rfl) (argsL := [(.long q1), (.long q2)]) (rest := []) (lenOf own_pd2 rfl) rfl (by show 2 * 0 + _ ≤ _; exact Nat.le_of_eq rfl) (hb hby at_16) (fun _ _ => ⟨rfl, rfl, (by decide : 3 + 0 ≤ _), (by decide : 11 + 0 ≤ _)⟩)
  dsimp only [Pt.U, Pt.locs, Pt.cells, Pt.slots] at X10 l10 y10 z10 st10 hQ10
  subst l10 y10 z10
  obtain ⟨rfl, N10q, e10⟩ := hQ10
  have N10 := Fr.app N4 N10q
  obtain ⟨_, _, ⟨T12, L12, kk12, n12⟩, -, X12, ⟨Lc12, hQ12, l12, y12, z12⟩, st12⟩ := Jvm.LawKit.callS X10 hx (y := (⟨"java/lang/Math", "max", "(JJ)J"⟩ : MethodName)) hown (mvT hZ (hw _ (List.mem_of_getElem? (i := 27) rfl))) (mvT hZ (hw _ (List.mem_of_getElem? (i := 28) rfl))) (mvT hZ (hw _ (List.mem_of_getElem? (i := 25) rfl))) (mvT hZ (hw _ (List.mem_of_getElem? (i := 29) rfl))) (by decide) (backOf (W := 0) (rm4 l Z a0 hw [] q1 q2 T4.heap n0 (Nat.le_trans Z0 K11.1)) hZ (hw _ (List.mem_of_getElem? (i := 29) rfl)) (hw _ (List.mem_of_getElem? (i := 25) rfl)) (by decide) (by decide)) (g := (mkF m 24 #[.val (.long q0), .second, .val (.long q1), .second, .val (.long q2), .second, .val (.ref b1), .val (.long (own_min q1 q2)), .second, .unset, .unset, .unset, .unset, .unset, .unset, .unset] [(.long q2), (.long q1)])) rfl (by rw [hml]; rfl) (argsL := [(.long q1), (.long q2)]) (rest := []) (lenOf own_pd2 rfl) rfl (by show 2 * 0 + _ ≤ _; exact Nat.le_of_eq rfl) (hb hby at_24) (fun _ _ => ⟨rfl, e10, (by decide : 3 + 0 ≤ _), (by decide : 11 + 0 ≤ _)⟩)
  dsimp only [Pt.U, Pt.locs, Pt.cells, Pt.slots] at X12 l12 y12 z12 st12 hQ12
  subst l12 y12 z12
  obtain ⟨rfl, N12q, e12⟩ := hQ12
  have N12 := Fr.app N10 N12q
  obtain ⟨cq13, kq13, q13a, q13b, q13c⟩ := isOf hZ e12 E4
  obtain ⟨_, _, ⟨T13, L13, kk13, n13⟩, -, X13, ⟨Lc13, hQ13, l13, y13, z13⟩, st13⟩ := X12.virtualBack hx (y := (⟨"com/example/form_ranks/formranks/http/AccessToken", "expiredAt", "(J)Z"⟩ : MethodName)) (z := (⟨"com/example/form_ranks/formranks/http/AccessToken", "expiredAt", "(J)Z"⟩ : MethodName)) hown (mvT hZ (hw _ (List.mem_of_getElem? (i := 30) rfl))) (mvT hZ (hw _ (List.mem_of_getElem? (i := 31) rfl))) (notFace_of_selects (args := #[]) (mvT hZ (hw _ (List.mem_of_getElem? (i := 33) rfl)))) (mvT hZ (hw _ (List.mem_of_getElem? (i := 33) rfl))) (mvT hZ (hw _ (List.mem_of_getElem? (i := 32) rfl))) (by decide) (backOf (W := 0) (rm5 l Z a0 hw [] b1 q0 q0 T4.heap n0 (Nat.le_trans Z0 K11.1) F4_0) hZ (hw _ (List.mem_of_getElem? (i := 34) rfl)) (hw _ (List.mem_of_getElem? (i := 2) rfl)) (by decide) (by decide)) q13a q13c (g := (mkF m 32 #[.val (.long q0), .second, .val (.long q1), .second, .val (.long q2), .second, .val (.ref b1), .val (.long (own_min q1 q2)), .second, .val (.long (own_max q1 q2)), .second, .unset, .unset, .unset, .unset, .unset] [(.long q0), (.ref b1)])) rfl (by rw [hml]; rfl) (Steps.refl _) (argsL := [(.long q0)]) (rest := []) (lenOf own_pd1 rfl) rfl (by show 2 * 0 + _ ≤ _; exact Nat.le_of_eq rfl) (hb hby at_32) (fun _ _ => ⟨rfl, e12, (by decide : 3 + 0 ≤ _), (by decide : 11 + 0 ≤ _)⟩)
  dsimp only [Pt.U, Pt.locs, Pt.cells, Pt.slots] at X13 l13 y13 z13 st13 hQ13
  subst l13 y13 z13
  obtain ⟨rfl, N13q, e13⟩ := hQ13
  have N13 := Fr.app N12 N13q
  have k14 : own_To p e below T13 (mkF m 42 #[.val (.long q0), .second, .val (.long q1), .second, .val (.long q2), .second, .val (.ref b1), .val (.long (own_min q1 q2)), .second, .val (.long (own_max q1 q2)), .second, .val (.int (own_ex q0 q0)), .unset, .unset, .unset, .unset] [(.int (lcmpW q0 (-9223372036854775808 : Int64)))]) s₁ (mkF m 0 #[.val (.long q0), .second, .val (.long q1), .second, .val (.long q2), .second, .unset, .unset, .unset, .unset, .unset, .unset, .unset, .unset, .unset, .unset] []) := fun t q => ki t (by
    refine st1 _ ?_
    show Steps p.tables e below (T1.setTop (mkF m 3 #[.val (.long q0), .second, .val (.long q1), .second, .val (.long q2), .second, .unset, .unset, .unset, .unset, .unset, .unset, .unset, .unset, .unset, .unset] [(.ref b1)])) _
    refine XS.dup X1.here hx rfl (hb hby at_3) rfl rfl ?_
    show Steps p.tables e below (T1.setTop (mkF m 4 #[.val (.long q0), .second, .val (.long q1), .second, .val (.long q2), .second, .unset, .unset, .unset, .unset, .unset, .unset, .unset, .unset, .unset, .unset] [(.ref b1), (.ref b1)])) _
    refine st3 _ ?_
    show Steps p.tables e below (T3.setTop (mkF m 6 #[.val (.long q0), .second, .val (.long q1), .second, .val (.long q2), .second, .unset, .unset, .unset, .unset, .unset, .unset, .unset, .unset, .unset, .unset] [(.ref b3), (.ref b1), (.ref b1)])) _
    refine XS.lloadN X3.here hx rfl (hb hby at_6) rfl ?_
    show Steps p.tables e below (T3.setTop (mkF m 7 #[.val (.long q0), .second, .val (.long q1), .second, .val (.long q2), .second, .unset, .unset, .unset, .unset, .unset, .unset, .unset, .unset, .unset, .unset] [(.long q0), (.ref b3), (.ref b1), (.ref b1)])) _
    refine XS.aconstNull X3.here hx rfl (hb hby at_7) ?_
    show Steps p.tables e below (T3.setTop (mkF m 8 #[.val (.long q0), .second, .val (.long q1), .second, .val (.long q2), .second, .unset, .unset, .unset, .unset, .unset, .unset, .unset, .unset, .unset, .unset] [.null, (.long q0), (.ref b3), (.ref b1), (.ref b1)])) _
    refine st4.trans ?_
    show Steps p.tables e below (T4.setTop (mkF m 11 #[.val (.long q0), .second, .val (.long q1), .second, .val (.long q2), .second, .unset, .unset, .unset, .unset, .unset, .unset, .unset, .unset, .unset, .unset] [(.ref b1)])) _
    refine XS.astore X4.here hx rfl (hb hby at_11) rfl rfl (l' := #[.val (.long q0), .second, .val (.long q1), .second, .val (.long q2), .second, .val (.ref b1), .unset, .unset, .unset, .unset, .unset, .unset, .unset, .unset, .unset]) rfl ?_
    show Steps p.tables e below (T4.setTop (mkF m 13 #[.val (.long q0), .second, .val (.long q1), .second, .val (.long q2), .second, .val (.ref b1), .unset, .unset, .unset, .unset, .unset, .unset, .unset, .unset, .unset] [])) _
    refine XS.lloadN X4.here hx rfl (hb hby at_13) rfl ?_
    show Steps p.tables e below (T4.setTop (mkF m 14 #[.val (.long q0), .second, .val (.long q1), .second, .val (.long q2), .second, .val (.ref b1), .unset, .unset, .unset, .unset, .unset, .unset, .unset, .unset, .unset] [(.long q1)])) _
    refine XS.lload X4.here hx rfl (hb hby at_14) rfl ?_
    show Steps p.tables e below (T4.setTop (mkF m 16 #[.val (.long q0), .second, .val (.long q1), .second, .val (.long q2), .second, .val (.ref b1), .unset, .unset, .unset, .unset, .unset, .unset, .unset, .unset, .unset] [(.long q2), (.long q1)])) _
    refine st10 _ ?_
    show Steps p.tables e below (T10.setTop (mkF m 19 #[.val (.long q0), .second, .val (.long q1), .second, .val (.long q2), .second, .val (.ref b1), .unset, .unset, .unset, .unset, .unset, .unset, .unset, .unset, .unset] [(.long (own_min q1 q2))])) _
    refine XS.lstore X10.here hx rfl (hb hby at_19) rfl (l' := #[.val (.long q0), .second, .val (.long q1), .second, .val (.long q2), .second, .val (.ref b1), .val (.long (own_min q1 q2)), .second, .unset, .unset, .unset, .unset, .unset, .unset, .unset]) rfl ?_
    show Steps p.tables e below (T10.setTop (mkF m 21 #[.val (.long q0), .second, .val (.long q1), .second, .val (.long q2), .second, .val (.ref b1), .val (.long (own_min q1 q2)), .second, .unset, .unset, .unset, .unset, .unset, .unset, .unset] [])) _
    refine XS.lloadN X10.here hx rfl (hb hby at_21) rfl ?_
    show Steps p.tables e below (T10.setTop (mkF m 22 #[.val (.long q0), .second, .val (.long q1), .second, .val (.long q2), .second, .val (.ref b1), .val (.long (own_min q1 q2)), .second, .unset, .unset, .unset, .unset, .unset, .unset, .unset] [(.long q1)])) _
    refine XS.lload X10.here hx rfl (hb hby at_22) rfl ?_
    show Steps p.tables e below (T10.setTop (mkF m 24 #[.val (.long q0), .second, .val (.long q1), .second, .val (.long q2), .second, .val (.ref b1), .val (.long (own_min q1 q2)), .second, .unset, .unset, .unset, .unset, .unset, .unset, .unset] [(.long q2), (.long q1)])) _
    refine st12 _ ?_
    show Steps p.tables e below (T12.setTop (mkF m 27 #[.val (.long q0), .second, .val (.long q1), .second, .val (.long q2), .second, .val (.ref b1), .val (.long (own_min q1 q2)), .second, .unset, .unset, .unset, .unset, .unset, .unset, .unset] [(.long (own_max q1 q2))])) _
    refine XS.lstore X12.here hx rfl (hb hby at_27) rfl (l' := #[.val (.long q0), .second, .val (.long q1), .second, .val (.long q2), .second, .val (.ref b1), .val (.long (own_min q1 q2)), .second, .val (.long (own_max q1 q2)), .second, .unset, .unset, .unset, .unset, .unset]) rfl ?_
    show Steps p.tables e below (T12.setTop (mkF m 29 #[.val (.long q0), .second, .val (.long q1), .second, .val (.long q2), .second, .val (.ref b1), .val (.long (own_min q1 q2)), .second, .val (.long (own_max q1 q2)), .second, .unset, .unset, .unset, .unset, .unset] [])) _
    refine XS.aload X12.here hx rfl (hb hby at_29) rfl rfl ?_
    show Steps p.tables e below (T12.setTop (mkF m 31 #[.val (.long q0), .second, .val (.long q1), .second, .val (.long q2), .second, .val (.ref b1), .val (.long (own_min q1 q2)), .second, .val (.long (own_max q1 q2)), .second, .unset, .unset, .unset, .unset, .unset] [(.ref b1)])) _
    refine XS.lloadN X12.here hx rfl (hb hby at_31) rfl ?_
    show Steps p.tables e below (T12.setTop (mkF m 32 #[.val (.long q0), .second, .val (.long q1), .second, .val (.long q2), .second, .val (.ref b1), .val (.long (own_min q1 q2)), .second, .val (.long (own_max q1 q2)), .second, .unset, .unset, .unset, .unset, .unset] [(.long q0), (.ref b1)])) _
    refine st13.trans ?_
    show Steps p.tables e below (T13.setTop (mkF m 35 #[.val (.long q0), .second, .val (.long q1), .second, .val (.long q2), .second, .val (.ref b1), .val (.long (own_min q1 q2)), .second, .val (.long (own_max q1 q2)), .second, .unset, .unset, .unset, .unset, .unset] [(.int (own_ex q0 q0))])) _
    refine XS.istore X13.here hx rfl (hb hby at_35) rfl (l' := #[.val (.long q0), .second, .val (.long q1), .second, .val (.long q2), .second, .val (.ref b1), .val (.long (own_min q1 q2)), .second, .val (.long (own_max q1 q2)), .second, .val (.int (own_ex q0 q0)), .unset, .unset, .unset, .unset]) rfl ?_
    show Steps p.tables e below (T13.setTop (mkF m 37 #[.val (.long q0), .second, .val (.long q1), .second, .val (.long q2), .second, .val (.ref b1), .val (.long (own_min q1 q2)), .second, .val (.long (own_max q1 q2)), .second, .val (.int (own_ex q0 q0)), .unset, .unset, .unset, .unset] [])) _
    refine XS.lloadN X13.here hx rfl (hb hby at_37) rfl ?_
    show Steps p.tables e below (T13.setTop (mkF m 38 #[.val (.long q0), .second, .val (.long q1), .second, .val (.long q2), .second, .val (.ref b1), .val (.long (own_min q1 q2)), .second, .val (.long (own_max q1 q2)), .second, .val (.int (own_ex q0 q0)), .unset, .unset, .unset, .unset] [(.long q0)])) _
    refine X13.ldc2Long hx hown (mvT hZ (hw _ (List.mem_of_getElem? (i := 35) rfl))) (g := (mkF m 38 #[.val (.long q0), .second, .val (.long q1), .second, .val (.long q2), .second, .val (.ref b1), .val (.long (own_min q1 q2)), .second, .val (.long (own_max q1 q2)), .second, .val (.int (own_ex q0 q0)), .unset, .unset, .unset, .unset] [(.long q0)])) rfl (hb hby at_38) _ ?_
    show Steps p.tables e below (T13.setTop (mkF m 41 #[.val (.long q0), .second, .val (.long q1), .second, .val (.long q2), .second, .val (.ref b1), .val (.long (own_min q1 q2)), .second, .val (.long (own_max q1 q2)), .second, .val (.int (own_ex q0 q0)), .unset, .unset, .unset, .unset] [(.long (-9223372036854775808 : Int64)), (.long q0)])) _
    refine XS.lcmp X13.here hx rfl (hb hby at_41) rfl ?_
    show Steps p.tables e below (T13.setTop (mkF m 42 #[.val (.long q0), .second, .val (.long q1), .second, .val (.long q2), .second, .val (.ref b1), .val (.long (own_min q1 q2)), .second, .val (.long (own_max q1 q2)), .second, .val (.int (own_ex q0 q0)), .unset, .unset, .unset, .unset] [(.int (lcmpW q0 (-9223372036854775808 : Int64)))])) _
    exact q)
  by_cases hc15 : q0 = (-9223372036854775808 : Int64)
  ·
    obtain ⟨cq16, kq16, q16a, q16b, q16c⟩ := isOf hZ e13 E4
    obtain ⟨_, _, ⟨T16, L16, kk16, n16⟩, -, X16, ⟨Lc16, hQ16, l16, y16, z16⟩, st16⟩ := X13.virtualBack hx (y := (⟨"com/example/form_ranks/formranks/http/AccessToken", "expiredAt", "(J)Z"⟩ : MethodName)) (z := (⟨"com/example/form_ranks/formranks/http/AccessToken", "expiredAt", "(J)Z"⟩ : MethodName)) hown (mvT hZ (hw _ (List.mem_of_getElem? (i := 30) rfl))) (mvT hZ (hw _ (List.mem_of_getElem? (i := 31) rfl))) (notFace_of_selects (args := #[]) (mvT hZ (hw _ (List.mem_of_getElem? (i := 33) rfl)))) (mvT hZ (hw _ (List.mem_of_getElem? (i := 33) rfl))) (mvT hZ (hw _ (List.mem_of_getElem? (i := 32) rfl))) (by decide) (backOf (W := 0) (rm5 l Z a0 hw [] b1 (own_min q1 q2) q0 T4.heap n0 (Nat.le_trans Z0 K11.1) F4_0) hZ (hw _ (List.mem_of_getElem? (i := 34) rfl)) (hw _ (List.mem_of_getElem? (i := 2) rfl)) (by decide) (by decide)) q16a q16c (g := (mkF m 67 #[.val (.long q0), .second, .val (.long q1), .second, .val (.long q2), .second, .val (.ref b1), .val (.long (own_min q1 q2)), .second, .val (.long (own_max q1 q2)), .second, .val (.int (own_ex q0 q0)), .val (.int (0 : Int32)), .unset, .unset, .unset] [(.long (own_min q1 q2)), (.ref b1)])) rfl (by rw [hml]; rfl) (Steps.refl _) (argsL := [(.long (own_min q1 q2))]) (rest := []) (lenOf own_pd1 rfl) rfl (by show 2 * 0 + _ ≤ _; exact Nat.le_of_eq rfl) (hb hby at_67) (fun _ _ => ⟨rfl, e13, (by decide : 3 + 0 ≤ _), (by decide : 11 + 0 ≤ _)⟩)
    dsimp only [Pt.U, Pt.locs, Pt.cells, Pt.slots] at X16 l16 y16 z16 st16 hQ16
    subst l16 y16 z16
    obtain ⟨rfl, N16q, e16⟩ := hQ16
    have N16 := Fr.app N13 N16q
    obtain ⟨cq17, kq17, q17a, q17b, q17c⟩ := isOf hZ e16 E4
    obtain ⟨_, _, ⟨T17, L17, kk17, n17⟩, -, X17, ⟨Lc17, hQ17, l17, y17, z17⟩, st17⟩ := X16.virtualBack hx (y := (⟨"com/example/form_ranks/formranks/http/AccessToken", "expiredAt", "(J)Z"⟩ : MethodName)) (z := (⟨"com/example/form_ranks/formranks/http/AccessToken", "expiredAt", "(J)Z"⟩ : MethodName)) hown (mvT hZ (hw _ (List.mem_of_getElem? (i := 30) rfl))) (mvT hZ (hw _ (List.mem_of_getElem? (i := 31) rfl))) (notFace_of_selects (args := #[]) (mvT hZ (hw _ (List.mem_of_getElem? (i := 33) rfl)))) (mvT hZ (hw _ (List.mem_of_getElem? (i := 33) rfl))) (mvT hZ (hw _ (List.mem_of_getElem? (i := 32) rfl))) (by decide) (backOf (W := 0) (rm5 l Z a0 hw [] b1 (own_max q1 q2) q0 T4.heap n0 (Nat.le_trans Z0 K11.1) F4_0) hZ (hw _ (List.mem_of_getElem? (i := 34) rfl)) (hw _ (List.mem_of_getElem? (i := 2) rfl)) (by decide) (by decide)) q17a q17c (g := (mkF m 76 #[.val (.long q0), .second, .val (.long q1), .second, .val (.long q2), .second, .val (.ref b1), .val (.long (own_min q1 q2)), .second, .val (.long (own_max q1 q2)), .second, .val (.int (own_ex q0 q0)), .val (.int (0 : Int32)), .val (.int (own_ex q0 (own_min q1 q2))), .unset, .unset] [(.long (own_max q1 q2)), (.ref b1)])) rfl (by rw [hml]; rfl) (Steps.refl _) (argsL := [(.long (own_max q1 q2))]) (rest := []) (lenOf own_pd1 rfl) rfl (by show 2 * 0 + _ ≤ _; exact Nat.le_of_eq rfl) (hb hby at_76) (fun _ _ => ⟨rfl, e16, (by decide : 3 + 0 ≤ _), (by decide : 11 + 0 ≤ _)⟩)
    dsimp only [Pt.U, Pt.locs, Pt.cells, Pt.slots] at X17 l17 y17 z17 st17 hQ17
    subst l17 y17 z17
    obtain ⟨rfl, N17q, e17⟩ := hQ17
    have N17 := Fr.app N16 N17q
    have k18 : own_To p e below T17 (mkF m 83 #[.val (.long q0), .second, .val (.long q1), .second, .val (.long q2), .second, .val (.ref b1), .val (.long (own_min q1 q2)), .second, .val (.long (own_max q1 q2)), .second, .val (.int (own_ex q0 q0)), .val (.int (0 : Int32)), .val (.int (own_ex q0 (own_min q1 q2))), .val (.int (own_ex q0 (own_max q1 q2))), .unset] [(.int (own_ex q0 (own_min q1 q2)))]) s₁ (mkF m 0 #[.val (.long q0), .second, .val (.long q1), .second, .val (.long q2), .second, .unset, .unset, .unset, .unset, .unset, .unset, .unset, .unset, .unset, .unset] []) := fun t q => k14 t (by
      refine XS.ifYes X13.here hx rfl (pc0 := 42) (pc' := 60) rfl (hb hby at_42) rfl ((if0 _ _).trans (teq ((lw_eq q0 (-9223372036854775808 : Int64)).mpr hc15)).1) (by decide) (by decide) ?_
      show Steps p.tables e below (T13.setTop (mkF m 60 #[.val (.long q0), .second, .val (.long q1), .second, .val (.long q2), .second, .val (.ref b1), .val (.long (own_min q1 q2)), .second, .val (.long (own_max q1 q2)), .second, .val (.int (own_ex q0 q0)), .unset, .unset, .unset, .unset] [])) _
      refine XS.iconst X13.here hx rfl (hb hby at_60) ?_
      show Steps p.tables e below (T13.setTop (mkF m 61 #[.val (.long q0), .second, .val (.long q1), .second, .val (.long q2), .second, .val (.ref b1), .val (.long (own_min q1 q2)), .second, .val (.long (own_max q1 q2)), .second, .val (.int (own_ex q0 q0)), .unset, .unset, .unset, .unset] [(.int (0 : Int32))])) _
      refine XS.istore X13.here hx rfl (hb hby at_61) rfl (l' := #[.val (.long q0), .second, .val (.long q1), .second, .val (.long q2), .second, .val (.ref b1), .val (.long (own_min q1 q2)), .second, .val (.long (own_max q1 q2)), .second, .val (.int (own_ex q0 q0)), .val (.int (0 : Int32)), .unset, .unset, .unset]) rfl ?_
      show Steps p.tables e below (T13.setTop (mkF m 63 #[.val (.long q0), .second, .val (.long q1), .second, .val (.long q2), .second, .val (.ref b1), .val (.long (own_min q1 q2)), .second, .val (.long (own_max q1 q2)), .second, .val (.int (own_ex q0 q0)), .val (.int (0 : Int32)), .unset, .unset, .unset] [])) _
      refine XS.aload X13.here hx rfl (hb hby at_63) rfl rfl ?_
      show Steps p.tables e below (T13.setTop (mkF m 65 #[.val (.long q0), .second, .val (.long q1), .second, .val (.long q2), .second, .val (.ref b1), .val (.long (own_min q1 q2)), .second, .val (.long (own_max q1 q2)), .second, .val (.int (own_ex q0 q0)), .val (.int (0 : Int32)), .unset, .unset, .unset] [(.ref b1)])) _
      refine XS.lload X13.here hx rfl (hb hby at_65) rfl ?_
      show Steps p.tables e below (T13.setTop (mkF m 67 #[.val (.long q0), .second, .val (.long q1), .second, .val (.long q2), .second, .val (.ref b1), .val (.long (own_min q1 q2)), .second, .val (.long (own_max q1 q2)), .second, .val (.int (own_ex q0 q0)), .val (.int (0 : Int32)), .unset, .unset, .unset] [(.long (own_min q1 q2)), (.ref b1)])) _
      refine st16.trans ?_
      show Steps p.tables e below (T16.setTop (mkF m 70 #[.val (.long q0), .second, .val (.long q1), .second, .val (.long q2), .second, .val (.ref b1), .val (.long (own_min q1 q2)), .second, .val (.long (own_max q1 q2)), .second, .val (.int (own_ex q0 q0)), .val (.int (0 : Int32)), .unset, .unset, .unset] [(.int (own_ex q0 (own_min q1 q2)))])) _
      refine XS.istore X16.here hx rfl (hb hby at_70) rfl (l' := #[.val (.long q0), .second, .val (.long q1), .second, .val (.long q2), .second, .val (.ref b1), .val (.long (own_min q1 q2)), .second, .val (.long (own_max q1 q2)), .second, .val (.int (own_ex q0 q0)), .val (.int (0 : Int32)), .val (.int (own_ex q0 (own_min q1 q2))), .unset, .unset]) rfl ?_
      show Steps p.tables e below (T16.setTop (mkF m 72 #[.val (.long q0), .second, .val (.long q1), .second, .val (.long q2), .second, .val (.ref b1), .val (.long (own_min q1 q2)), .second, .val (.long (own_max q1 q2)), .second, .val (.int (own_ex q0 q0)), .val (.int (0 : Int32)), .val (.int (own_ex q0 (own_min q1 q2))), .unset, .unset] [])) _
      refine XS.aload X16.here hx rfl (hb hby at_72) rfl rfl ?_
      show Steps p.tables e below (T16.setTop (mkF m 74 #[.val (.long q0), .second, .val (.long q1), .second, .val (.long q2), .second, .val (.ref b1), .val (.long (own_min q1 q2)), .second, .val (.long (own_max q1 q2)), .second, .val (.int (own_ex q0 q0)), .val (.int (0 : Int32)), .val (.int (own_ex q0 (own_min q1 q2))), .unset, .unset] [(.ref b1)])) _
      refine XS.lload X16.here hx rfl (hb hby at_74) rfl ?_
      show Steps p.tables e below (T16.setTop (mkF m 76 #[.val (.long q0), .second, .val (.long q1), .second, .val (.long q2), .second, .val (.ref b1), .val (.long (own_min q1 q2)), .second, .val (.long (own_max q1 q2)), .second, .val (.int (own_ex q0 q0)), .val (.int (0 : Int32)), .val (.int (own_ex q0 (own_min q1 q2))), .unset, .unset] [(.long (own_max q1 q2)), (.ref b1)])) _
      refine st17.trans ?_
      show Steps p.tables e below (T17.setTop (mkF m 79 #[.val (.long q0), .second, .val (.long q1), .second, .val (.long q2), .second, .val (.ref b1), .val (.long (own_min q1 q2)), .second, .val (.long (own_max q1 q2)), .second, .val (.int (own_ex q0 q0)), .val (.int (0 : Int32)), .val (.int (own_ex q0 (own_min q1 q2))), .unset, .unset] [(.int (own_ex q0 (own_max q1 q2)))])) _
      refine XS.istore X17.here hx rfl (hb hby at_79) rfl (l' := #[.val (.long q0), .second, .val (.long q1), .second, .val (.long q2), .second, .val (.ref b1), .val (.long (own_min q1 q2)), .second, .val (.long (own_max q1 q2)), .second, .val (.int (own_ex q0 q0)), .val (.int (0 : Int32)), .val (.int (own_ex q0 (own_min q1 q2))), .val (.int (own_ex q0 (own_max q1 q2))), .unset]) rfl ?_
      show Steps p.tables e below (T17.setTop (mkF m 81 #[.val (.long q0), .second, .val (.long q1), .second, .val (.long q2), .second, .val (.ref b1), .val (.long (own_min q1 q2)), .second, .val (.long (own_max q1 q2)), .second, .val (.int (own_ex q0 q0)), .val (.int (0 : Int32)), .val (.int (own_ex q0 (own_min q1 q2))), .val (.int (own_ex q0 (own_max q1 q2))), .unset] [])) _
      refine XS.iload X17.here hx rfl (hb hby at_81) rfl ?_
      show Steps p.tables e below (T17.setTop (mkF m 83 #[.val (.long q0), .second, .val (.long q1), .second, .val (.long q2), .second, .val (.ref b1), .val (.long (own_min q1 q2)), .second, .val (.long (own_max q1 q2)), .second, .val (.int (own_ex q0 q0)), .val (.int (0 : Int32)), .val (.int (own_ex q0 (own_min q1 q2))), .val (.int (own_ex q0 (own_max q1 q2))), .unset] [(.int (own_ex q0 (own_min q1 q2)))])) _
      exact q)
    by_cases hc19 : (own_ex q0 (own_min q1 q2)) = (0 : Int32)
    ·
      have k20 : own_To p e below T17 (mkF m 118 #[.val (.long q0), .second, .val (.long q1), .second, .val (.long q2), .second, .val (.ref b1), .val (.long (own_min q1 q2)), .second, .val (.long (own_max q1 q2)), .second, .val (.int (own_ex q0 q0)), .val (.int (0 : Int32)), .val (.int (own_ex q0 (own_min q1 q2))), .val (.int (own_ex q0 (own_max q1 q2))), .val (.int (1 : Int32))] [(.int (1 : Int32))]) s₁ (mkF m 0 #[.val (.long q0), .second, .val (.long q1), .second, .val (.long q2), .second, .unset, .unset, .unset, .unset, .unset, .unset, .unset, .unset, .unset, .unset] []) := fun t q => k18 t (by
        refine XS.ifYes X17.here hx rfl (pc0 := 83) (pc' := 91) rfl (hb hby at_83) rfl ((if0 _ _).trans (teq hc19).1) (by decide) (by decide) ?_
        show Steps p.tables e below (T17.setTop (mkF m 91 #[.val (.long q0), .second, .val (.long q1), .second, .val (.long q2), .second, .val (.ref b1), .val (.long (own_min q1 q2)), .second, .val (.long (own_max q1 q2)), .second, .val (.int (own_ex q0 q0)), .val (.int (0 : Int32)), .val (.int (own_ex q0 (own_min q1 q2))), .val (.int (own_ex q0 (own_max q1 q2))), .unset] [])) _
        refine XS.iconst X17.here hx rfl (hb hby at_91) ?_
        show Steps p.tables e below (T17.setTop (mkF m 92 #[.val (.long q0), .second, .val (.long q1), .second, .val (.long q2), .second, .val (.ref b1), .val (.long (own_min q1 q2)), .second, .val (.long (own_max q1 q2)), .second, .val (.int (own_ex q0 q0)), .val (.int (0 : Int32)), .val (.int (own_ex q0 (own_min q1 q2))), .val (.int (own_ex q0 (own_max q1 q2))), .unset] [(.int (1 : Int32))])) _
        refine XS.goto X17.here hx rfl (pc0 := 92) (pc' := 96) rfl (hb hby at_92) (by decide) (by decide) ?_
        show Steps p.tables e below (T17.setTop (mkF m 96 #[.val (.long q0), .second, .val (.long q1), .second, .val (.long q2), .second, .val (.ref b1), .val (.long (own_min q1 q2)), .second, .val (.long (own_max q1 q2)), .second, .val (.int (own_ex q0 q0)), .val (.int (0 : Int32)), .val (.int (own_ex q0 (own_min q1 q2))), .val (.int (own_ex q0 (own_max q1 q2))), .unset] [(.int (1 : Int32))])) _
        refine XS.istore X17.here hx rfl (hb hby at_96) rfl (l' := #[.val (.long q0), .second, .val (.long q1), .second, .val (.long q2), .second, .val (.ref b1), .val (.long (own_min q1 q2)), .second, .val (.long (own_max q1 q2)), .second, .val (.int (own_ex q0 q0)), .val (.int (0 : Int32)), .val (.int (own_ex q0 (own_min q1 q2))), .val (.int (own_ex q0 (own_max q1 q2))), .val (.int (1 : Int32))]) rfl ?_
        show Steps p.tables e below (T17.setTop (mkF m 98 #[.val (.long q0), .second, .val (.long q1), .second, .val (.long q2), .second, .val (.ref b1), .val (.long (own_min q1 q2)), .second, .val (.long (own_max q1 q2)), .second, .val (.int (own_ex q0 q0)), .val (.int (0 : Int32)), .val (.int (own_ex q0 (own_min q1 q2))), .val (.int (own_ex q0 (own_max q1 q2))), .val (.int (1 : Int32))] [])) _
        refine XS.iload X17.here hx rfl (hb hby at_98) rfl ?_
        show Steps p.tables e below (T17.setTop (mkF m 100 #[.val (.long q0), .second, .val (.long q1), .second, .val (.long q2), .second, .val (.ref b1), .val (.long (own_min q1 q2)), .second, .val (.long (own_max q1 q2)), .second, .val (.int (own_ex q0 q0)), .val (.int (0 : Int32)), .val (.int (own_ex q0 (own_min q1 q2))), .val (.int (own_ex q0 (own_max q1 q2))), .val (.int (1 : Int32))] [(.int (own_ex q0 q0))])) _
        refine XS.ifNo X17.here hx rfl (hb hby at_100) rfl ((if0 _ _).trans (feq (by rw [own_at]; decide)).1) ?_
        show Steps p.tables e below (T17.setTop (mkF m 103 #[.val (.long q0), .second, .val (.long q1), .second, .val (.long q2), .second, .val (.ref b1), .val (.long (own_min q1 q2)), .second, .val (.long (own_max q1 q2)), .second, .val (.int (own_ex q0 q0)), .val (.int (0 : Int32)), .val (.int (own_ex q0 (own_min q1 q2))), .val (.int (own_ex q0 (own_max q1 q2))), .val (.int (1 : Int32))] [])) _
        refine XS.iload X17.here hx rfl (hb hby at_103) rfl ?_
        show Steps p.tables e below (T17.setTop (mkF m 105 #[.val (.long q0), .second, .val (.long q1), .second, .val (.long q2), .second, .val (.ref b1), .val (.long (own_min q1 q2)), .second, .val (.long (own_max q1 q2)), .second, .val (.int (own_ex q0 q0)), .val (.int (0 : Int32)), .val (.int (own_ex q0 (own_min q1 q2))), .val (.int (own_ex q0 (own_max q1 q2))), .val (.int (1 : Int32))] [(.int (0 : Int32))])) _
        refine XS.ifNo X17.here hx rfl (hb hby at_105) rfl ((if0 _ _).trans (teq rfl).2) ?_
        show Steps p.tables e below (T17.setTop (mkF m 108 #[.val (.long q0), .second, .val (.long q1), .second, .val (.long q2), .second, .val (.ref b1), .val (.long (own_min q1 q2)), .second, .val (.long (own_max q1 q2)), .second, .val (.int (own_ex q0 q0)), .val (.int (0 : Int32)), .val (.int (own_ex q0 (own_min q1 q2))), .val (.int (own_ex q0 (own_max q1 q2))), .val (.int (1 : Int32))] [])) _
        refine XS.iload X17.here hx rfl (hb hby at_108) rfl ?_
        show Steps p.tables e below (T17.setTop (mkF m 110 #[.val (.long q0), .second, .val (.long q1), .second, .val (.long q2), .second, .val (.ref b1), .val (.long (own_min q1 q2)), .second, .val (.long (own_max q1 q2)), .second, .val (.int (own_ex q0 q0)), .val (.int (0 : Int32)), .val (.int (own_ex q0 (own_min q1 q2))), .val (.int (own_ex q0 (own_max q1 q2))), .val (.int (1 : Int32))] [(.int (1 : Int32))])) _
        refine XS.ifNo X17.here hx rfl (hb hby at_110) rfl ((if0 _ _).trans (feq (by decide)).1) ?_
        show Steps p.tables e below (T17.setTop (mkF m 113 #[.val (.long q0), .second, .val (.long q1), .second, .val (.long q2), .second, .val (.ref b1), .val (.long (own_min q1 q2)), .second, .val (.long (own_max q1 q2)), .second, .val (.int (own_ex q0 q0)), .val (.int (0 : Int32)), .val (.int (own_ex q0 (own_min q1 q2))), .val (.int (own_ex q0 (own_max q1 q2))), .val (.int (1 : Int32))] [])) _
        refine XS.iconst X17.here hx rfl (hb hby at_113) ?_
        show Steps p.tables e below (T17.setTop (mkF m 114 #[.val (.long q0), .second, .val (.long q1), .second, .val (.long q2), .second, .val (.ref b1), .val (.long (own_min q1 q2)), .second, .val (.long (own_max q1 q2)), .second, .val (.int (own_ex q0 q0)), .val (.int (0 : Int32)), .val (.int (own_ex q0 (own_min q1 q2))), .val (.int (own_ex q0 (own_max q1 q2))), .val (.int (1 : Int32))] [(.int (1 : Int32))])) _
        refine XS.goto X17.here hx rfl (pc0 := 114) (pc' := 118) rfl (hb hby at_114) (by decide) (by decide) ?_
        show Steps p.tables e below (T17.setTop (mkF m 118 #[.val (.long q0), .second, .val (.long q1), .second, .val (.long q2), .second, .val (.ref b1), .val (.long (own_min q1 q2)), .second, .val (.long (own_max q1 q2)), .second, .val (.int (own_ex q0 q0)), .val (.int (0 : Int32)), .val (.int (own_ex q0 (own_min q1 q2))), .val (.int (own_ex q0 (own_max q1 q2))), .val (.int (1 : Int32))] [(.int (1 : Int32))])) _
        exact q)
      obtain ⟨fs, hr, hrun, hended, hEnd⟩ := Stand.leaveW (s := s) (vm₁ := T3.vm) X17 hS3 (by rw [e17]; exact (Nat.le_trans hk3 K4.1)) (v := some (.int (1 : Int32))) (fun h => by rw [Bd.returns] at h; cases h)
      refine ⟨_, _, k0 _ (k20 _ ?_), hrun, hended, _, _, rfl, ?_, hEnd.1, hEnd.2.1, hEnd.2.2.1, hEnd.2.2.2.mono (by decide) (by decide)⟩
      · show Steps p.tables e below (T17.setTop (mkF m 118 #[.val (.long q0), .second, .val (.long q1), .second, .val (.long q2), .second, .val (.ref b1), .val (.long (own_min q1 q2)), .second, .val (.long (own_max q1 q2)), .second, .val (.int (own_ex q0 q0)), .val (.int (0 : Int32)), .val (.int (own_ex q0 (own_min q1 q2))), .val (.int (own_ex q0 (own_max q1 q2))), .val (.int (1 : Int32))] [(.int (1 : Int32))])) _
        exact retN X17 hx (t := .boolean) Bd.returns (by simp) (hb hby at_118) hr
      · show Q0 Z q0 q1 q2 h0 n0 _ T17.heap _
        rw [e17]
        exact ⟨rfl, N17⟩
    ·
      have hm := own_mono _ _ _ hc19
      have k21 : own_To p e below T17 (mkF m 118 #[.val (.long q0), .second, .val (.long q1), .second, .val (.long q2), .second, .val (.ref b1), .val (.long (own_min q1 q2)), .second, .val (.long (own_max q1 q2)), .second, .val (.int (own_ex q0 q0)), .val (.int (0 : Int32)), .val (.int (own_ex q0 (own_min q1 q2))), .val (.int (own_ex q0 (own_max q1 q2))), .val (.int (1 : Int32))] [(.int (1 : Int32))]) s₁ (mkF m 0 #[.val (.long q0), .second, .val (.long q1), .second, .val (.long q2), .second, .unset, .unset, .unset, .unset, .unset, .unset, .unset, .unset, .unset, .unset] []) := fun t q => k18 t (by
        refine XS.ifNo X17.here hx rfl (hb hby at_83) rfl ((if0 _ _).trans (feq hc19).1) ?_
        show Steps p.tables e below (T17.setTop (mkF m 86 #[.val (.long q0), .second, .val (.long q1), .second, .val (.long q2), .second, .val (.ref b1), .val (.long (own_min q1 q2)), .second, .val (.long (own_max q1 q2)), .second, .val (.int (own_ex q0 q0)), .val (.int (0 : Int32)), .val (.int (own_ex q0 (own_min q1 q2))), .val (.int (own_ex q0 (own_max q1 q2))), .unset] [])) _
        refine XS.iload X17.here hx rfl (hb hby at_86) rfl ?_
        show Steps p.tables e below (T17.setTop (mkF m 88 #[.val (.long q0), .second, .val (.long q1), .second, .val (.long q2), .second, .val (.ref b1), .val (.long (own_min q1 q2)), .second, .val (.long (own_max q1 q2)), .second, .val (.int (own_ex q0 q0)), .val (.int (0 : Int32)), .val (.int (own_ex q0 (own_min q1 q2))), .val (.int (own_ex q0 (own_max q1 q2))), .unset] [(.int (own_ex q0 (own_max q1 q2)))])) _
        refine XS.ifNo X17.here hx rfl (hb hby at_88) rfl ((if0 _ _).trans (feq hm).1) ?_
        show Steps p.tables e below (T17.setTop (mkF m 91 #[.val (.long q0), .second, .val (.long q1), .second, .val (.long q2), .second, .val (.ref b1), .val (.long (own_min q1 q2)), .second, .val (.long (own_max q1 q2)), .second, .val (.int (own_ex q0 q0)), .val (.int (0 : Int32)), .val (.int (own_ex q0 (own_min q1 q2))), .val (.int (own_ex q0 (own_max q1 q2))), .unset] [])) _
        refine XS.iconst X17.here hx rfl (hb hby at_91) ?_
        show Steps p.tables e below (T17.setTop (mkF m 92 #[.val (.long q0), .second, .val (.long q1), .second, .val (.long q2), .second, .val (.ref b1), .val (.long (own_min q1 q2)), .second, .val (.long (own_max q1 q2)), .second, .val (.int (own_ex q0 q0)), .val (.int (0 : Int32)), .val (.int (own_ex q0 (own_min q1 q2))), .val (.int (own_ex q0 (own_max q1 q2))), .unset] [(.int (1 : Int32))])) _
        refine XS.goto X17.here hx rfl (pc0 := 92) (pc' := 96) rfl (hb hby at_92) (by decide) (by decide) ?_
        show Steps p.tables e below (T17.setTop (mkF m 96 #[.val (.long q0), .second, .val (.long q1), .second, .val (.long q2), .second, .val (.ref b1), .val (.long (own_min q1 q2)), .second, .val (.long (own_max q1 q2)), .second, .val (.int (own_ex q0 q0)), .val (.int (0 : Int32)), .val (.int (own_ex q0 (own_min q1 q2))), .val (.int (own_ex q0 (own_max q1 q2))), .unset] [(.int (1 : Int32))])) _
        refine XS.istore X17.here hx rfl (hb hby at_96) rfl (l' := #[.val (.long q0), .second, .val (.long q1), .second, .val (.long q2), .second, .val (.ref b1), .val (.long (own_min q1 q2)), .second, .val (.long (own_max q1 q2)), .second, .val (.int (own_ex q0 q0)), .val (.int (0 : Int32)), .val (.int (own_ex q0 (own_min q1 q2))), .val (.int (own_ex q0 (own_max q1 q2))), .val (.int (1 : Int32))]) rfl ?_
        show Steps p.tables e below (T17.setTop (mkF m 98 #[.val (.long q0), .second, .val (.long q1), .second, .val (.long q2), .second, .val (.ref b1), .val (.long (own_min q1 q2)), .second, .val (.long (own_max q1 q2)), .second, .val (.int (own_ex q0 q0)), .val (.int (0 : Int32)), .val (.int (own_ex q0 (own_min q1 q2))), .val (.int (own_ex q0 (own_max q1 q2))), .val (.int (1 : Int32))] [])) _
        refine XS.iload X17.here hx rfl (hb hby at_98) rfl ?_
        show Steps p.tables e below (T17.setTop (mkF m 100 #[.val (.long q0), .second, .val (.long q1), .second, .val (.long q2), .second, .val (.ref b1), .val (.long (own_min q1 q2)), .second, .val (.long (own_max q1 q2)), .second, .val (.int (own_ex q0 q0)), .val (.int (0 : Int32)), .val (.int (own_ex q0 (own_min q1 q2))), .val (.int (own_ex q0 (own_max q1 q2))), .val (.int (1 : Int32))] [(.int (own_ex q0 q0))])) _
        refine XS.ifNo X17.here hx rfl (hb hby at_100) rfl ((if0 _ _).trans (feq (by rw [own_at]; decide)).1) ?_
        show Steps p.tables e below (T17.setTop (mkF m 103 #[.val (.long q0), .second, .val (.long q1), .second, .val (.long q2), .second, .val (.ref b1), .val (.long (own_min q1 q2)), .second, .val (.long (own_max q1 q2)), .second, .val (.int (own_ex q0 q0)), .val (.int (0 : Int32)), .val (.int (own_ex q0 (own_min q1 q2))), .val (.int (own_ex q0 (own_max q1 q2))), .val (.int (1 : Int32))] [])) _
        refine XS.iload X17.here hx rfl (hb hby at_103) rfl ?_
        show Steps p.tables e below (T17.setTop (mkF m 105 #[.val (.long q0), .second, .val (.long q1), .second, .val (.long q2), .second, .val (.ref b1), .val (.long (own_min q1 q2)), .second, .val (.long (own_max q1 q2)), .second, .val (.int (own_ex q0 q0)), .val (.int (0 : Int32)), .val (.int (own_ex q0 (own_min q1 q2))), .val (.int (own_ex q0 (own_max q1 q2))), .val (.int (1 : Int32))] [(.int (0 : Int32))])) _
        refine XS.ifNo X17.here hx rfl (hb hby at_105) rfl ((if0 _ _).trans (teq rfl).2) ?_
        show Steps p.tables e below (T17.setTop (mkF m 108 #[.val (.long q0), .second, .val (.long q1), .second, .val (.long q2), .second, .val (.ref b1), .val (.long (own_min q1 q2)), .second, .val (.long (own_max q1 q2)), .second, .val (.int (own_ex q0 q0)), .val (.int (0 : Int32)), .val (.int (own_ex q0 (own_min q1 q2))), .val (.int (own_ex q0 (own_max q1 q2))), .val (.int (1 : Int32))] [])) _
        refine XS.iload X17.here hx rfl (hb hby at_108) rfl ?_
        show Steps p.tables e below (T17.setTop (mkF m 110 #[.val (.long q0), .second, .val (.long q1), .second, .val (.long q2), .second, .val (.ref b1), .val (.long (own_min q1 q2)), .second, .val (.long (own_max q1 q2)), .second, .val (.int (own_ex q0 q0)), .val (.int (0 : Int32)), .val (.int (own_ex q0 (own_min q1 q2))), .val (.int (own_ex q0 (own_max q1 q2))), .val (.int (1 : Int32))] [(.int (1 : Int32))])) _
        refine XS.ifNo X17.here hx rfl (hb hby at_110) rfl ((if0 _ _).trans (feq (by decide)).1) ?_
        show Steps p.tables e below (T17.setTop (mkF m 113 #[.val (.long q0), .second, .val (.long q1), .second, .val (.long q2), .second, .val (.ref b1), .val (.long (own_min q1 q2)), .second, .val (.long (own_max q1 q2)), .second, .val (.int (own_ex q0 q0)), .val (.int (0 : Int32)), .val (.int (own_ex q0 (own_min q1 q2))), .val (.int (own_ex q0 (own_max q1 q2))), .val (.int (1 : Int32))] [])) _
        refine XS.iconst X17.here hx rfl (hb hby at_113) ?_
        show Steps p.tables e below (T17.setTop (mkF m 114 #[.val (.long q0), .second, .val (.long q1), .second, .val (.long q2), .second, .val (.ref b1), .val (.long (own_min q1 q2)), .second, .val (.long (own_max q1 q2)), .second, .val (.int (own_ex q0 q0)), .val (.int (0 : Int32)), .val (.int (own_ex q0 (own_min q1 q2))), .val (.int (own_ex q0 (own_max q1 q2))), .val (.int (1 : Int32))] [(.int (1 : Int32))])) _
        refine XS.goto X17.here hx rfl (pc0 := 114) (pc' := 118) rfl (hb hby at_114) (by decide) (by decide) ?_
        show Steps p.tables e below (T17.setTop (mkF m 118 #[.val (.long q0), .second, .val (.long q1), .second, .val (.long q2), .second, .val (.ref b1), .val (.long (own_min q1 q2)), .second, .val (.long (own_max q1 q2)), .second, .val (.int (own_ex q0 q0)), .val (.int (0 : Int32)), .val (.int (own_ex q0 (own_min q1 q2))), .val (.int (own_ex q0 (own_max q1 q2))), .val (.int (1 : Int32))] [(.int (1 : Int32))])) _
        exact q)
      obtain ⟨fs, hr, hrun, hended, hEnd⟩ := Stand.leaveW (s := s) (vm₁ := T3.vm) X17 hS3 (by rw [e17]; exact (Nat.le_trans hk3 K4.1)) (v := some (.int (1 : Int32))) (fun h => by rw [Bd.returns] at h; cases h)
      refine ⟨_, _, k0 _ (k21 _ ?_), hrun, hended, _, _, rfl, ?_, hEnd.1, hEnd.2.1, hEnd.2.2.1, hEnd.2.2.2.mono (by decide) (by decide)⟩
      · show Steps p.tables e below (T17.setTop (mkF m 118 #[.val (.long q0), .second, .val (.long q1), .second, .val (.long q2), .second, .val (.ref b1), .val (.long (own_min q1 q2)), .second, .val (.long (own_max q1 q2)), .second, .val (.int (own_ex q0 q0)), .val (.int (0 : Int32)), .val (.int (own_ex q0 (own_min q1 q2))), .val (.int (own_ex q0 (own_max q1 q2))), .val (.int (1 : Int32))] [(.int (1 : Int32))])) _
        exact retN X17 hx (t := .boolean) Bd.returns (by simp) (hb hby at_118) hr
      · show Q0 Z q0 q1 q2 h0 n0 _ T17.heap _
        rw [e17]
        exact ⟨rfl, N17⟩
  ·
    obtain ⟨cq22, kq22, q22a, q22b, q22c⟩ := isOf hZ e13 E4
    obtain ⟨_, _, ⟨T22, L22, kk22, n22⟩, -, X22, ⟨Lc22, hQ22, l22, y22, z22⟩, st22⟩ := X13.virtualBack hx (y := (⟨"com/example/form_ranks/formranks/http/AccessToken", "expiredAt", "(J)Z"⟩ : MethodName)) (z := (⟨"com/example/form_ranks/formranks/http/AccessToken", "expiredAt", "(J)Z"⟩ : MethodName)) hown (mvT hZ (hw _ (List.mem_of_getElem? (i := 30) rfl))) (mvT hZ (hw _ (List.mem_of_getElem? (i := 31) rfl))) (notFace_of_selects (args := #[]) (mvT hZ (hw _ (List.mem_of_getElem? (i := 33) rfl)))) (mvT hZ (hw _ (List.mem_of_getElem? (i := 33) rfl))) (mvT hZ (hw _ (List.mem_of_getElem? (i := 32) rfl))) (by decide) (backOf (W := 0) (rm5 l Z a0 hw [] b1 (q0 - (1 : Int64)) q0 T4.heap n0 (Nat.le_trans Z0 K11.1) F4_0) hZ (hw _ (List.mem_of_getElem? (i := 34) rfl)) (hw _ (List.mem_of_getElem? (i := 2) rfl)) (by decide) (by decide)) q22a q22c (g := (mkF m 50 #[.val (.long q0), .second, .val (.long q1), .second, .val (.long q2), .second, .val (.ref b1), .val (.long (own_min q1 q2)), .second, .val (.long (own_max q1 q2)), .second, .val (.int (own_ex q0 q0)), .unset, .unset, .unset, .unset] [(.long (q0 - (1 : Int64))), (.ref b1)])) rfl (by rw [hml]; rfl) (Steps.refl _) (argsL := [(.long (q0 - (1 : Int64)))]) (rest := []) (lenOf own_pd1 rfl) rfl (by show 2 * 0 + _ ≤ _; exact Nat.le_of_eq rfl) (hb hby at_50) (fun _ _ => ⟨rfl, e13, (by decide : 3 + 0 ≤ _), (by decide : 11 + 0 ≤ _)⟩)
    dsimp only [Pt.U, Pt.locs, Pt.cells, Pt.slots] at X22 l22 y22 z22 st22 hQ22
    subst l22 y22 z22
    obtain ⟨rfl, N22q, e22⟩ := hQ22
    have N22 := Fr.app N13 N22q
    obtain ⟨cq23, kq23, q23a, q23b, q23c⟩ := isOf hZ e22 E4
    obtain ⟨_, _, ⟨T23, L23, kk23, n23⟩, -, X23, ⟨Lc23, hQ23, l23, y23, z23⟩, st23⟩ := X22.virtualBack hx (y := (⟨"com/example/form_ranks/formranks/http/AccessToken", "expiredAt", "(J)Z"⟩ : MethodName)) (z := (⟨"com/example/form_ranks/formranks/http/AccessToken", "expiredAt", "(J)Z"⟩ : MethodName)) hown (mvT hZ (hw _ (List.mem_of_getElem? (i := 30) rfl))) (mvT hZ (hw _ (List.mem_of_getElem? (i := 31) rfl))) (notFace_of_selects (args := #[]) (mvT hZ (hw _ (List.mem_of_getElem? (i := 33) rfl)))) (mvT hZ (hw _ (List.mem_of_getElem? (i := 33) rfl))) (mvT hZ (hw _ (List.mem_of_getElem? (i := 32) rfl))) (by decide) (backOf (W := 0) (rm5 l Z a0 hw [] b1 (own_min q1 q2) q0 T4.heap n0 (Nat.le_trans Z0 K11.1) F4_0) hZ (hw _ (List.mem_of_getElem? (i := 34) rfl)) (hw _ (List.mem_of_getElem? (i := 2) rfl)) (by decide) (by decide)) q23a q23c (g := (mkF m 67 #[.val (.long q0), .second, .val (.long q1), .second, .val (.long q2), .second, .val (.ref b1), .val (.long (own_min q1 q2)), .second, .val (.long (own_max q1 q2)), .second, .val (.int (own_ex q0 q0)), .val (.int (0 : Int32)), .unset, .unset, .unset] [(.long (own_min q1 q2)), (.ref b1)])) rfl (by rw [hml]; rfl) (Steps.refl _) (argsL := [(.long (own_min q1 q2))]) (rest := []) (lenOf own_pd1 rfl) rfl (by show 2 * 0 + _ ≤ _; exact Nat.le_of_eq rfl) (hb hby at_67) (fun _ _ => ⟨rfl, e22, (by decide : 3 + 0 ≤ _), (by decide : 11 + 0 ≤ _)⟩)
    dsimp only [Pt.U, Pt.locs, Pt.cells, Pt.slots] at X23 l23 y23 z23 st23 hQ23
    subst l23 y23 z23
    obtain ⟨rfl, N23q, e23⟩ := hQ23
    have N23 := Fr.app N22 N23q
    obtain ⟨cq24, kq24, q24a, q24b, q24c⟩ := isOf hZ e23 E4
    obtain ⟨_, _, ⟨T24, L24, kk24, n24⟩, -, X24, ⟨Lc24, hQ24, l24, y24, z24⟩, st24⟩ := X23.virtualBack hx (y := (⟨"com/example/form_ranks/formranks/http/AccessToken", "expiredAt", "(J)Z"⟩ : MethodName)) (z := (⟨"com/example/form_ranks/formranks/http/AccessToken", "expiredAt", "(J)Z"⟩ : MethodName)) hown (mvT hZ (hw _ (List.mem_of_getElem? (i := 30) rfl))) (mvT hZ (hw _ (List.mem_of_getElem? (i := 31) rfl))) (notFace_of_selects (args := #[]) (mvT hZ (hw _ (List.mem_of_getElem? (i := 33) rfl)))) (mvT hZ (hw _ (List.mem_of_getElem? (i := 33) rfl))) (mvT hZ (hw _ (List.mem_of_getElem? (i := 32) rfl))) (by decide) (backOf (W := 0) (rm5 l Z a0 hw [] b1 (own_max q1 q2) q0 T4.heap n0 (Nat.le_trans Z0 K11.1) F4_0) hZ (hw _ (List.mem_of_getElem? (i := 34) rfl)) (hw _ (List.mem_of_getElem? (i := 2) rfl)) (by decide) (by decide)) q24a q24c (g := (mkF m 76 #[.val (.long q0), .second, .val (.long q1), .second, .val (.long q2), .second, .val (.ref b1), .val (.long (own_min q1 q2)), .second, .val (.long (own_max q1 q2)), .second, .val (.int (own_ex q0 q0)), .val (.int (0 : Int32)), .val (.int (own_ex q0 (own_min q1 q2))), .unset, .unset] [(.long (own_max q1 q2)), (.ref b1)])) rfl (by rw [hml]; rfl) (Steps.refl _) (argsL := [(.long (own_max q1 q2))]) (rest := []) (lenOf own_pd1 rfl) rfl (by show 2 * 0 + _ ≤ _; exact Nat.le_of_eq rfl) (hb hby at_76) (fun _ _ => ⟨rfl, e23, (by decide : 3 + 0 ≤ _), (by decide : 11 + 0 ≤ _)⟩)
    dsimp only [Pt.U, Pt.locs, Pt.cells, Pt.slots] at X24 l24 y24 z24 st24 hQ24
    subst l24 y24 z24
    obtain ⟨rfl, N24q, e24⟩ := hQ24
    have N24 := Fr.app N23 N24q
    have k25 : own_To p e below T24 (mkF m 83 #[.val (.long q0), .second, .val (.long q1), .second, .val (.long q2), .second, .val (.ref b1), .val (.long (own_min q1 q2)), .second, .val (.long (own_max q1 q2)), .second, .val (.int (own_ex q0 q0)), .val (.int (0 : Int32)), .val (.int (own_ex q0 (own_min q1 q2))), .val (.int (own_ex q0 (own_max q1 q2))), .unset] [(.int (own_ex q0 (own_min q1 q2)))]) s₁ (mkF m 0 #[.val (.long q0), .second, .val (.long q1), .second, .val (.long q2), .second, .unset, .unset, .unset, .unset, .unset, .unset, .unset, .unset, .unset, .unset] []) := fun t q => k14 t (by
      refine XS.ifNo X13.here hx rfl (hb hby at_42) rfl ((if0 _ _).trans (feq (mt (lw_eq q0 (-9223372036854775808 : Int64)).mp hc15)).1) ?_
      show Steps p.tables e below (T13.setTop (mkF m 45 #[.val (.long q0), .second, .val (.long q1), .second, .val (.long q2), .second, .val (.ref b1), .val (.long (own_min q1 q2)), .second, .val (.long (own_max q1 q2)), .second, .val (.int (own_ex q0 q0)), .unset, .unset, .unset, .unset] [])) _
      refine XS.aload X13.here hx rfl (hb hby at_45) rfl rfl ?_
      show Steps p.tables e below (T13.setTop (mkF m 47 #[.val (.long q0), .second, .val (.long q1), .second, .val (.long q2), .second, .val (.ref b1), .val (.long (own_min q1 q2)), .second, .val (.long (own_max q1 q2)), .second, .val (.int (own_ex q0 q0)), .unset, .unset, .unset, .unset] [(.ref b1)])) _
      refine XS.lloadN X13.here hx rfl (hb hby at_47) rfl ?_
      show Steps p.tables e below (T13.setTop (mkF m 48 #[.val (.long q0), .second, .val (.long q1), .second, .val (.long q2), .second, .val (.ref b1), .val (.long (own_min q1 q2)), .second, .val (.long (own_max q1 q2)), .second, .val (.int (own_ex q0 q0)), .unset, .unset, .unset, .unset] [(.long q0), (.ref b1)])) _
      refine XS.lconst X13.here hx rfl (hb hby at_48) ?_
      show Steps p.tables e below (T13.setTop (mkF m 49 #[.val (.long q0), .second, .val (.long q1), .second, .val (.long q2), .second, .val (.ref b1), .val (.long (own_min q1 q2)), .second, .val (.long (own_max q1 q2)), .second, .val (.int (own_ex q0 q0)), .unset, .unset, .unset, .unset] [(.long (1 : Int64)), (.long q0), (.ref b1)])) _
      refine XS.lsub X13.here hx rfl (hb hby at_49) rfl ?_
      show Steps p.tables e below (T13.setTop (mkF m 50 #[.val (.long q0), .second, .val (.long q1), .second, .val (.long q2), .second, .val (.ref b1), .val (.long (own_min q1 q2)), .second, .val (.long (own_max q1 q2)), .second, .val (.int (own_ex q0 q0)), .unset, .unset, .unset, .unset] [(.long (q0 - (1 : Int64))), (.ref b1)])) _
      refine st22.trans ?_
      show Steps p.tables e below (T22.setTop (mkF m 53 #[.val (.long q0), .second, .val (.long q1), .second, .val (.long q2), .second, .val (.ref b1), .val (.long (own_min q1 q2)), .second, .val (.long (own_max q1 q2)), .second, .val (.int (own_ex q0 q0)), .unset, .unset, .unset, .unset] [(.int (own_ex q0 (q0 - (1 : Int64))))])) _
      refine XS.ifYes X22.here hx rfl (pc0 := 53) (pc' := 60) rfl (hb hby at_53) rfl ((if0 _ _).trans (teq (own_before q0 hc15)).1) (by decide) (by decide) ?_
      show Steps p.tables e below (T22.setTop (mkF m 60 #[.val (.long q0), .second, .val (.long q1), .second, .val (.long q2), .second, .val (.ref b1), .val (.long (own_min q1 q2)), .second, .val (.long (own_max q1 q2)), .second, .val (.int (own_ex q0 q0)), .unset, .unset, .unset, .unset] [])) _
      refine XS.iconst X22.here hx rfl (hb hby at_60) ?_
      show Steps p.tables e below (T22.setTop (mkF m 61 #[.val (.long q0), .second, .val (.long q1), .second, .val (.long q2), .second, .val (.ref b1), .val (.long (own_min q1 q2)), .second, .val (.long (own_max q1 q2)), .second, .val (.int (own_ex q0 q0)), .unset, .unset, .unset, .unset] [(.int (0 : Int32))])) _
      refine XS.istore X22.here hx rfl (hb hby at_61) rfl (l' := #[.val (.long q0), .second, .val (.long q1), .second, .val (.long q2), .second, .val (.ref b1), .val (.long (own_min q1 q2)), .second, .val (.long (own_max q1 q2)), .second, .val (.int (own_ex q0 q0)), .val (.int (0 : Int32)), .unset, .unset, .unset]) rfl ?_
      show Steps p.tables e below (T22.setTop (mkF m 63 #[.val (.long q0), .second, .val (.long q1), .second, .val (.long q2), .second, .val (.ref b1), .val (.long (own_min q1 q2)), .second, .val (.long (own_max q1 q2)), .second, .val (.int (own_ex q0 q0)), .val (.int (0 : Int32)), .unset, .unset, .unset] [])) _
      refine XS.aload X22.here hx rfl (hb hby at_63) rfl rfl ?_
      show Steps p.tables e below (T22.setTop (mkF m 65 #[.val (.long q0), .second, .val (.long q1), .second, .val (.long q2), .second, .val (.ref b1), .val (.long (own_min q1 q2)), .second, .val (.long (own_max q1 q2)), .second, .val (.int (own_ex q0 q0)), .val (.int (0 : Int32)), .unset, .unset, .unset] [(.ref b1)])) _
      refine XS.lload X22.here hx rfl (hb hby at_65) rfl ?_
      show Steps p.tables e below (T22.setTop (mkF m 67 #[.val (.long q0), .second, .val (.long q1), .second, .val (.long q2), .second, .val (.ref b1), .val (.long (own_min q1 q2)), .second, .val (.long (own_max q1 q2)), .second, .val (.int (own_ex q0 q0)), .val (.int (0 : Int32)), .unset, .unset, .unset] [(.long (own_min q1 q2)), (.ref b1)])) _
      refine st23.trans ?_
      show Steps p.tables e below (T23.setTop (mkF m 70 #[.val (.long q0), .second, .val (.long q1), .second, .val (.long q2), .second, .val (.ref b1), .val (.long (own_min q1 q2)), .second, .val (.long (own_max q1 q2)), .second, .val (.int (own_ex q0 q0)), .val (.int (0 : Int32)), .unset, .unset, .unset] [(.int (own_ex q0 (own_min q1 q2)))])) _
      refine XS.istore X23.here hx rfl (hb hby at_70) rfl (l' := #[.val (.long q0), .second, .val (.long q1), .second, .val (.long q2), .second, .val (.ref b1), .val (.long (own_min q1 q2)), .second, .val (.long (own_max q1 q2)), .second, .val (.int (own_ex q0 q0)), .val (.int (0 : Int32)), .val (.int (own_ex q0 (own_min q1 q2))), .unset, .unset]) rfl ?_
      show Steps p.tables e below (T23.setTop (mkF m 72 #[.val (.long q0), .second, .val (.long q1), .second, .val (.long q2), .second, .val (.ref b1), .val (.long (own_min q1 q2)), .second, .val (.long (own_max q1 q2)), .second, .val (.int (own_ex q0 q0)), .val (.int (0 : Int32)), .val (.int (own_ex q0 (own_min q1 q2))), .unset, .unset] [])) _
      refine XS.aload X23.here hx rfl (hb hby at_72) rfl rfl ?_
      show Steps p.tables e below (T23.setTop (mkF m 74 #[.val (.long q0), .second, .val (.long q1), .second, .val (.long q2), .second, .val (.ref b1), .val (.long (own_min q1 q2)), .second, .val (.long (own_max q1 q2)), .second, .val (.int (own_ex q0 q0)), .val (.int (0 : Int32)), .val (.int (own_ex q0 (own_min q1 q2))), .unset, .unset] [(.ref b1)])) _
      refine XS.lload X23.here hx rfl (hb hby at_74) rfl ?_
      show Steps p.tables e below (T23.setTop (mkF m 76 #[.val (.long q0), .second, .val (.long q1), .second, .val (.long q2), .second, .val (.ref b1), .val (.long (own_min q1 q2)), .second, .val (.long (own_max q1 q2)), .second, .val (.int (own_ex q0 q0)), .val (.int (0 : Int32)), .val (.int (own_ex q0 (own_min q1 q2))), .unset, .unset] [(.long (own_max q1 q2)), (.ref b1)])) _
      refine st24.trans ?_
      show Steps p.tables e below (T24.setTop (mkF m 79 #[.val (.long q0), .second, .val (.long q1), .second, .val (.long q2), .second, .val (.ref b1), .val (.long (own_min q1 q2)), .second, .val (.long (own_max q1 q2)), .second, .val (.int (own_ex q0 q0)), .val (.int (0 : Int32)), .val (.int (own_ex q0 (own_min q1 q2))), .unset, .unset] [(.int (own_ex q0 (own_max q1 q2)))])) _
      refine XS.istore X24.here hx rfl (hb hby at_79) rfl (l' := #[.val (.long q0), .second, .val (.long q1), .second, .val (.long q2), .second, .val (.ref b1), .val (.long (own_min q1 q2)), .second, .val (.long (own_max q1 q2)), .second, .val (.int (own_ex q0 q0)), .val (.int (0 : Int32)), .val (.int (own_ex q0 (own_min q1 q2))), .val (.int (own_ex q0 (own_max q1 q2))), .unset]) rfl ?_
      show Steps p.tables e below (T24.setTop (mkF m 81 #[.val (.long q0), .second, .val (.long q1), .second, .val (.long q2), .second, .val (.ref b1), .val (.long (own_min q1 q2)), .second, .val (.long (own_max q1 q2)), .second, .val (.int (own_ex q0 q0)), .val (.int (0 : Int32)), .val (.int (own_ex q0 (own_min q1 q2))), .val (.int (own_ex q0 (own_max q1 q2))), .unset] [])) _
      refine XS.iload X24.here hx rfl (hb hby at_81) rfl ?_
      show Steps p.tables e below (T24.setTop (mkF m 83 #[.val (.long q0), .second, .val (.long q1), .second, .val (.long q2), .second, .val (.ref b1), .val (.long (own_min q1 q2)), .second, .val (.long (own_max q1 q2)), .second, .val (.int (own_ex q0 q0)), .val (.int (0 : Int32)), .val (.int (own_ex q0 (own_min q1 q2))), .val (.int (own_ex q0 (own_max q1 q2))), .unset] [(.int (own_ex q0 (own_min q1 q2)))])) _
      exact q)
    by_cases hc26 : (own_ex q0 (own_min q1 q2)) = (0 : Int32)
    ·
      have k27 : own_To p e below T24 (mkF m 118 #[.val (.long q0), .second, .val (.long q1), .second, .val (.long q2), .second, .val (.ref b1), .val (.long (own_min q1 q2)), .second, .val (.long (own_max q1 q2)), .second, .val (.int (own_ex q0 q0)), .val (.int (0 : Int32)), .val (.int (own_ex q0 (own_min q1 q2))), .val (.int (own_ex q0 (own_max q1 q2))), .val (.int (1 : Int32))] [(.int (1 : Int32))]) s₁ (mkF m 0 #[.val (.long q0), .second, .val (.long q1), .second, .val (.long q2), .second, .unset, .unset, .unset, .unset, .unset, .unset, .unset, .unset, .unset, .unset] []) := fun t q => k25 t (by
        refine XS.ifYes X24.here hx rfl (pc0 := 83) (pc' := 91) rfl (hb hby at_83) rfl ((if0 _ _).trans (teq hc26).1) (by decide) (by decide) ?_
        show Steps p.tables e below (T24.setTop (mkF m 91 #[.val (.long q0), .second, .val (.long q1), .second, .val (.long q2), .second, .val (.ref b1), .val (.long (own_min q1 q2)), .second, .val (.long (own_max q1 q2)), .second, .val (.int (own_ex q0 q0)), .val (.int (0 : Int32)), .val (.int (own_ex q0 (own_min q1 q2))), .val (.int (own_ex q0 (own_max q1 q2))), .unset] [])) _
        refine XS.iconst X24.here hx rfl (hb hby at_91) ?_
        show Steps p.tables e below (T24.setTop (mkF m 92 #[.val (.long q0), .second, .val (.long q1), .second, .val (.long q2), .second, .val (.ref b1), .val (.long (own_min q1 q2)), .second, .val (.long (own_max q1 q2)), .second, .val (.int (own_ex q0 q0)), .val (.int (0 : Int32)), .val (.int (own_ex q0 (own_min q1 q2))), .val (.int (own_ex q0 (own_max q1 q2))), .unset] [(.int (1 : Int32))])) _
        refine XS.goto X24.here hx rfl (pc0 := 92) (pc' := 96) rfl (hb hby at_92) (by decide) (by decide) ?_
        show Steps p.tables e below (T24.setTop (mkF m 96 #[.val (.long q0), .second, .val (.long q1), .second, .val (.long q2), .second, .val (.ref b1), .val (.long (own_min q1 q2)), .second, .val (.long (own_max q1 q2)), .second, .val (.int (own_ex q0 q0)), .val (.int (0 : Int32)), .val (.int (own_ex q0 (own_min q1 q2))), .val (.int (own_ex q0 (own_max q1 q2))), .unset] [(.int (1 : Int32))])) _
        refine XS.istore X24.here hx rfl (hb hby at_96) rfl (l' := #[.val (.long q0), .second, .val (.long q1), .second, .val (.long q2), .second, .val (.ref b1), .val (.long (own_min q1 q2)), .second, .val (.long (own_max q1 q2)), .second, .val (.int (own_ex q0 q0)), .val (.int (0 : Int32)), .val (.int (own_ex q0 (own_min q1 q2))), .val (.int (own_ex q0 (own_max q1 q2))), .val (.int (1 : Int32))]) rfl ?_
        show Steps p.tables e below (T24.setTop (mkF m 98 #[.val (.long q0), .second, .val (.long q1), .second, .val (.long q2), .second, .val (.ref b1), .val (.long (own_min q1 q2)), .second, .val (.long (own_max q1 q2)), .second, .val (.int (own_ex q0 q0)), .val (.int (0 : Int32)), .val (.int (own_ex q0 (own_min q1 q2))), .val (.int (own_ex q0 (own_max q1 q2))), .val (.int (1 : Int32))] [])) _
        refine XS.iload X24.here hx rfl (hb hby at_98) rfl ?_
        show Steps p.tables e below (T24.setTop (mkF m 100 #[.val (.long q0), .second, .val (.long q1), .second, .val (.long q2), .second, .val (.ref b1), .val (.long (own_min q1 q2)), .second, .val (.long (own_max q1 q2)), .second, .val (.int (own_ex q0 q0)), .val (.int (0 : Int32)), .val (.int (own_ex q0 (own_min q1 q2))), .val (.int (own_ex q0 (own_max q1 q2))), .val (.int (1 : Int32))] [(.int (own_ex q0 q0))])) _
        refine XS.ifNo X24.here hx rfl (hb hby at_100) rfl ((if0 _ _).trans (feq (by rw [own_at]; decide)).1) ?_
        show Steps p.tables e below (T24.setTop (mkF m 103 #[.val (.long q0), .second, .val (.long q1), .second, .val (.long q2), .second, .val (.ref b1), .val (.long (own_min q1 q2)), .second, .val (.long (own_max q1 q2)), .second, .val (.int (own_ex q0 q0)), .val (.int (0 : Int32)), .val (.int (own_ex q0 (own_min q1 q2))), .val (.int (own_ex q0 (own_max q1 q2))), .val (.int (1 : Int32))] [])) _
        refine XS.iload X24.here hx rfl (hb hby at_103) rfl ?_
        show Steps p.tables e below (T24.setTop (mkF m 105 #[.val (.long q0), .second, .val (.long q1), .second, .val (.long q2), .second, .val (.ref b1), .val (.long (own_min q1 q2)), .second, .val (.long (own_max q1 q2)), .second, .val (.int (own_ex q0 q0)), .val (.int (0 : Int32)), .val (.int (own_ex q0 (own_min q1 q2))), .val (.int (own_ex q0 (own_max q1 q2))), .val (.int (1 : Int32))] [(.int (0 : Int32))])) _
        refine XS.ifNo X24.here hx rfl (hb hby at_105) rfl ((if0 _ _).trans (teq rfl).2) ?_
        show Steps p.tables e below (T24.setTop (mkF m 108 #[.val (.long q0), .second, .val (.long q1), .second, .val (.long q2), .second, .val (.ref b1), .val (.long (own_min q1 q2)), .second, .val (.long (own_max q1 q2)), .second, .val (.int (own_ex q0 q0)), .val (.int (0 : Int32)), .val (.int (own_ex q0 (own_min q1 q2))), .val (.int (own_ex q0 (own_max q1 q2))), .val (.int (1 : Int32))] [])) _
        refine XS.iload X24.here hx rfl (hb hby at_108) rfl ?_
        show Steps p.tables e below (T24.setTop (mkF m 110 #[.val (.long q0), .second, .val (.long q1), .second, .val (.long q2), .second, .val (.ref b1), .val (.long (own_min q1 q2)), .second, .val (.long (own_max q1 q2)), .second, .val (.int (own_ex q0 q0)), .val (.int (0 : Int32)), .val (.int (own_ex q0 (own_min q1 q2))), .val (.int (own_ex q0 (own_max q1 q2))), .val (.int (1 : Int32))] [(.int (1 : Int32))])) _
        refine XS.ifNo X24.here hx rfl (hb hby at_110) rfl ((if0 _ _).trans (feq (by decide)).1) ?_
        show Steps p.tables e below (T24.setTop (mkF m 113 #[.val (.long q0), .second, .val (.long q1), .second, .val (.long q2), .second, .val (.ref b1), .val (.long (own_min q1 q2)), .second, .val (.long (own_max q1 q2)), .second, .val (.int (own_ex q0 q0)), .val (.int (0 : Int32)), .val (.int (own_ex q0 (own_min q1 q2))), .val (.int (own_ex q0 (own_max q1 q2))), .val (.int (1 : Int32))] [])) _
        refine XS.iconst X24.here hx rfl (hb hby at_113) ?_
        show Steps p.tables e below (T24.setTop (mkF m 114 #[.val (.long q0), .second, .val (.long q1), .second, .val (.long q2), .second, .val (.ref b1), .val (.long (own_min q1 q2)), .second, .val (.long (own_max q1 q2)), .second, .val (.int (own_ex q0 q0)), .val (.int (0 : Int32)), .val (.int (own_ex q0 (own_min q1 q2))), .val (.int (own_ex q0 (own_max q1 q2))), .val (.int (1 : Int32))] [(.int (1 : Int32))])) _
        refine XS.goto X24.here hx rfl (pc0 := 114) (pc' := 118) rfl (hb hby at_114) (by decide) (by decide) ?_
        show Steps p.tables e below (T24.setTop (mkF m 118 #[.val (.long q0), .second, .val (.long q1), .second, .val (.long q2), .second, .val (.ref b1), .val (.long (own_min q1 q2)), .second, .val (.long (own_max q1 q2)), .second, .val (.int (own_ex q0 q0)), .val (.int (0 : Int32)), .val (.int (own_ex q0 (own_min q1 q2))), .val (.int (own_ex q0 (own_max q1 q2))), .val (.int (1 : Int32))] [(.int (1 : Int32))])) _
        exact q)
      obtain ⟨fs, hr, hrun, hended, hEnd⟩ := Stand.leaveW (s := s) (vm₁ := T3.vm) X24 hS3 (by rw [e24]; exact (Nat.le_trans hk3 K4.1)) (v := some (.int (1 : Int32))) (fun h => by rw [Bd.returns] at h; cases h)
      refine ⟨_, _, k0 _ (k27 _ ?_), hrun, hended, _, _, rfl, ?_, hEnd.1, hEnd.2.1, hEnd.2.2.1, hEnd.2.2.2.mono (by decide) (by decide)⟩
      · show Steps p.tables e below (T24.setTop (mkF m 118 #[.val (.long q0), .second, .val (.long q1), .second, .val (.long q2), .second, .val (.ref b1), .val (.long (own_min q1 q2)), .second, .val (.long (own_max q1 q2)), .second, .val (.int (own_ex q0 q0)), .val (.int (0 : Int32)), .val (.int (own_ex q0 (own_min q1 q2))), .val (.int (own_ex q0 (own_max q1 q2))), .val (.int (1 : Int32))] [(.int (1 : Int32))])) _
        exact retN X24 hx (t := .boolean) Bd.returns (by simp) (hb hby at_118) hr
      · show Q0 Z q0 q1 q2 h0 n0 _ T24.heap _
        rw [e24]
        exact ⟨rfl, N24⟩
    ·
      have hm := own_mono _ _ _ hc26
      have k28 : own_To p e below T24 (mkF m 118 #[.val (.long q0), .second, .val (.long q1), .second, .val (.long q2), .second, .val (.ref b1), .val (.long (own_min q1 q2)), .second, .val (.long (own_max q1 q2)), .second, .val (.int (own_ex q0 q0)), .val (.int (0 : Int32)), .val (.int (own_ex q0 (own_min q1 q2))), .val (.int (own_ex q0 (own_max q1 q2))), .val (.int (1 : Int32))] [(.int (1 : Int32))]) s₁ (mkF m 0 #[.val (.long q0), .second, .val (.long q1), .second, .val (.long q2), .second, .unset, .unset, .unset, .unset, .unset, .unset, .unset, .unset, .unset, .unset] []) := fun t q => k25 t (by
        refine XS.ifNo X24.here hx rfl (hb hby at_83) rfl ((if0 _ _).trans (feq hc26).1) ?_
        show Steps p.tables e below (T24.setTop (mkF m 86 #[.val (.long q0), .second, .val (.long q1), .second, .val (.long q2), .second, .val (.ref b1), .val (.long (own_min q1 q2)), .second, .val (.long (own_max q1 q2)), .second, .val (.int (own_ex q0 q0)), .val (.int (0 : Int32)), .val (.int (own_ex q0 (own_min q1 q2))), .val (.int (own_ex q0 (own_max q1 q2))), .unset] [])) _
        refine XS.iload X24.here hx rfl (hb hby at_86) rfl ?_
        show Steps p.tables e below (T24.setTop (mkF m 88 #[.val (.long q0), .second, .val (.long q1), .second, .val (.long q2), .second, .val (.ref b1), .val (.long (own_min q1 q2)), .second, .val (.long (own_max q1 q2)), .second, .val (.int (own_ex q0 q0)), .val (.int (0 : Int32)), .val (.int (own_ex q0 (own_min q1 q2))), .val (.int (own_ex q0 (own_max q1 q2))), .unset] [(.int (own_ex q0 (own_max q1 q2)))])) _
        refine XS.ifNo X24.here hx rfl (hb hby at_88) rfl ((if0 _ _).trans (feq hm).1) ?_
        show Steps p.tables e below (T24.setTop (mkF m 91 #[.val (.long q0), .second, .val (.long q1), .second, .val (.long q2), .second, .val (.ref b1), .val (.long (own_min q1 q2)), .second, .val (.long (own_max q1 q2)), .second, .val (.int (own_ex q0 q0)), .val (.int (0 : Int32)), .val (.int (own_ex q0 (own_min q1 q2))), .val (.int (own_ex q0 (own_max q1 q2))), .unset] [])) _
        refine XS.iconst X24.here hx rfl (hb hby at_91) ?_
        show Steps p.tables e below (T24.setTop (mkF m 92 #[.val (.long q0), .second, .val (.long q1), .second, .val (.long q2), .second, .val (.ref b1), .val (.long (own_min q1 q2)), .second, .val (.long (own_max q1 q2)), .second, .val (.int (own_ex q0 q0)), .val (.int (0 : Int32)), .val (.int (own_ex q0 (own_min q1 q2))), .val (.int (own_ex q0 (own_max q1 q2))), .unset] [(.int (1 : Int32))])) _
        refine XS.goto X24.here hx rfl (pc0 := 92) (pc' := 96) rfl (hb hby at_92) (by decide) (by decide) ?_
        show Steps p.tables e below (T24.setTop (mkF m 96 #[.val (.long q0), .second, .val (.long q1), .second, .val (.long q2), .second, .val (.ref b1), .val (.long (own_min q1 q2)), .second, .val (.long (own_max q1 q2)), .second, .val (.int (own_ex q0 q0)), .val (.int (0 : Int32)), .val (.int (own_ex q0 (own_min q1 q2))), .val (.int (own_ex q0 (own_max q1 q2))), .unset] [(.int (1 : Int32))])) _
        refine XS.istore X24.here hx rfl (hb hby at_96) rfl (l' := #[.val (.long q0), .second, .val (.long q1), .second, .val (.long q2), .second, .val (.ref b1), .val (.long (own_min q1 q2)), .second, .val (.long (own_max q1 q2)), .second, .val (.int (own_ex q0 q0)), .val (.int (0 : Int32)), .val (.int (own_ex q0 (own_min q1 q2))), .val (.int (own_ex q0 (own_max q1 q2))), .val (.int (1 : Int32))]) rfl ?_
        show Steps p.tables e below (T24.setTop (mkF m 98 #[.val (.long q0), .second, .val (.long q1), .second, .val (.long q2), .second, .val (.ref b1), .val (.long (own_min q1 q2)), .second, .val (.long (own_max q1 q2)), .second, .val (.int (own_ex q0 q0)), .val (.int (0 : Int32)), .val (.int (own_ex q0 (own_min q1 q2))), .val (.int (own_ex q0 (own_max q1 q2))), .val (.int (1 : Int32))] [])) _
        refine XS.iload X24.here hx rfl (hb hby at_98) rfl ?_
        show Steps p.tables e below (T24.setTop (mkF m 100 #[.val (.long q0), .second, .val (.long q1), .second, .val (.long q2), .second, .val (.ref b1), .val (.long (own_min q1 q2)), .second, .val (.long (own_max q1 q2)), .second, .val (.int (own_ex q0 q0)), .val (.int (0 : Int32)), .val (.int (own_ex q0 (own_min q1 q2))), .val (.int (own_ex q0 (own_max q1 q2))), .val (.int (1 : Int32))] [(.int (own_ex q0 q0))])) _
        refine XS.ifNo X24.here hx rfl (hb hby at_100) rfl ((if0 _ _).trans (feq (by rw [own_at]; decide)).1) ?_
        show Steps p.tables e below (T24.setTop (mkF m 103 #[.val (.long q0), .second, .val (.long q1), .second, .val (.long q2), .second, .val (.ref b1), .val (.long (own_min q1 q2)), .second, .val (.long (own_max q1 q2)), .second, .val (.int (own_ex q0 q0)), .val (.int (0 : Int32)), .val (.int (own_ex q0 (own_min q1 q2))), .val (.int (own_ex q0 (own_max q1 q2))), .val (.int (1 : Int32))] [])) _
        refine XS.iload X24.here hx rfl (hb hby at_103) rfl ?_
        show Steps p.tables e below (T24.setTop (mkF m 105 #[.val (.long q0), .second, .val (.long q1), .second, .val (.long q2), .second, .val (.ref b1), .val (.long (own_min q1 q2)), .second, .val (.long (own_max q1 q2)), .second, .val (.int (own_ex q0 q0)), .val (.int (0 : Int32)), .val (.int (own_ex q0 (own_min q1 q2))), .val (.int (own_ex q0 (own_max q1 q2))), .val (.int (1 : Int32))] [(.int (0 : Int32))])) _
        refine XS.ifNo X24.here hx rfl (hb hby at_105) rfl ((if0 _ _).trans (teq rfl).2) ?_
        show Steps p.tables e below (T24.setTop (mkF m 108 #[.val (.long q0), .second, .val (.long q1), .second, .val (.long q2), .second, .val (.ref b1), .val (.long (own_min q1 q2)), .second, .val (.long (own_max q1 q2)), .second, .val (.int (own_ex q0 q0)), .val (.int (0 : Int32)), .val (.int (own_ex q0 (own_min q1 q2))), .val (.int (own_ex q0 (own_max q1 q2))), .val (.int (1 : Int32))] [])) _
        refine XS.iload X24.here hx rfl (hb hby at_108) rfl ?_
        show Steps p.tables e below (T24.setTop (mkF m 110 #[.val (.long q0), .second, .val (.long q1), .second, .val (.long q2), .second, .val (.ref b1), .val (.long (own_min q1 q2)), .second, .val (.long (own_max q1 q2)), .second, .val (.int (own_ex q0 q0)), .val (.int (0 : Int32)), .val (.int (own_ex q0 (own_min q1 q2))), .val (.int (own_ex q0 (own_max q1 q2))), .val (.int (1 : Int32))] [(.int (1 : Int32))])) _
        refine XS.ifNo X24.here hx rfl (hb hby at_110) rfl ((if0 _ _).trans (feq (by decide)).1) ?_
        show Steps p.tables e below (T24.setTop (mkF m 113 #[.val (.long q0), .second, .val (.long q1), .second, .val (.long q2), .second, .val (.ref b1), .val (.long (own_min q1 q2)), .second, .val (.long (own_max q1 q2)), .second, .val (.int (own_ex q0 q0)), .val (.int (0 : Int32)), .val (.int (own_ex q0 (own_min q1 q2))), .val (.int (own_ex q0 (own_max q1 q2))), .val (.int (1 : Int32))] [])) _
        refine XS.iconst X24.here hx rfl (hb hby at_113) ?_
        show Steps p.tables e below (T24.setTop (mkF m 114 #[.val (.long q0), .second, .val (.long q1), .second, .val (.long q2), .second, .val (.ref b1), .val (.long (own_min q1 q2)), .second, .val (.long (own_max q1 q2)), .second, .val (.int (own_ex q0 q0)), .val (.int (0 : Int32)), .val (.int (own_ex q0 (own_min q1 q2))), .val (.int (own_ex q0 (own_max q1 q2))), .val (.int (1 : Int32))] [(.int (1 : Int32))])) _
        refine XS.goto X24.here hx rfl (pc0 := 114) (pc' := 118) rfl (hb hby at_114) (by decide) (by decide) ?_
        show Steps p.tables e below (T24.setTop (mkF m 118 #[.val (.long q0), .second, .val (.long q1), .second, .val (.long q2), .second, .val (.ref b1), .val (.long (own_min q1 q2)), .second, .val (.long (own_max q1 q2)), .second, .val (.int (own_ex q0 q0)), .val (.int (0 : Int32)), .val (.int (own_ex q0 (own_min q1 q2))), .val (.int (own_ex q0 (own_max q1 q2))), .val (.int (1 : Int32))] [(.int (1 : Int32))])) _
        exact q)
      obtain ⟨fs, hr, hrun, hended, hEnd⟩ := Stand.leaveW (s := s) (vm₁ := T3.vm) X24 hS3 (by rw [e24]; exact (Nat.le_trans hk3 K4.1)) (v := some (.int (1 : Int32))) (fun h => by rw [Bd.returns] at h; cases h)
      refine ⟨_, _, k0 _ (k28 _ ?_), hrun, hended, _, _, rfl, ?_, hEnd.1, hEnd.2.1, hEnd.2.2.1, hEnd.2.2.2.mono (by decide) (by decide)⟩
      · show Steps p.tables e below (T24.setTop (mkF m 118 #[.val (.long q0), .second, .val (.long q1), .second, .val (.long q2), .second, .val (.ref b1), .val (.long (own_min q1 q2)), .second, .val (.long (own_max q1 q2)), .second, .val (.int (own_ex q0 q0)), .val (.int (0 : Int32)), .val (.int (own_ex q0 (own_min q1 q2))), .val (.int (own_ex q0 (own_max q1 q2))), .val (.int (1 : Int32))] [(.int (1 : Int32))])) _
        exact retN X24 hx (t := .boolean) Bd.returns (by simp) (hb hby at_118) hr
      · show Q0 Z q0 q1 q2 h0 n0 _ T24.heap _
        rw [e24]
        exact ⟨rfl, N24⟩
set_option maxRecDepth 65536 in
set_option maxHeartbeats 40000000 in
theorem comes_1 {Post : Tables → Env → Array Value → State → Outcome → State → Prop} (hpost : ∀ tb e args s v u, (limb_1_1.after args s (.returned v) u = true ∧ limb_1_2.after args s (.returned v) u = true ∧ True) → ReturnedEndW s (.returned v) u (Jvm.fieldLocs frame_1_writes args s ++ Jvm.arrayLocs frame_1_arrays args s ++ Jvm.staticLocs frame_1_statics s) 16 1152 → Post tb e args s (.returned v) u) :
    ArmFor flags0 classFile x code maxLocals ret World_1 tables_1 room_1 Calls_1 rest_1 Pre_1 Post := by
  intro l hfl _ _ p e ha hc hk s m args below hf hA hF happ hP
  obtain ⟨hcalls, hrest, hpre⟩ := hP
  obtain ⟨-, -, -, hnamed, -, -, -, hat⟩ := (Spec.applies_iff hf).mp happ
  obtain ⟨hg, hn⟩ := and_e (Cond.before_iff.mp (show (Jvm.Cond.and given_1 narrow_1).before args s = true from hpre))
  obtain ⟨hgc, hg0⟩ := and_e hg
  obtain ⟨ga0, hg1⟩ := and_e hg0
  obtain ⟨ga1, hg2⟩ := and_e hg1
  obtain ⟨w0, w1, w2, rfl⟩ : ∃ w0 w1 w2 : Value, args = #[w0, w1, w2] := by
    have hs : args.size = 3 := by simpa [Cond.value, given_1] using hgc
    obtain ⟨L⟩ := args
    match L, hs with
    | [w0, w1, w2], _ => exact ⟨w0, w1, w2, rfl⟩
  have hw := fun d (hd : d ∈ tables_1) => atoms_spec (ws := Jvm.Cond.code x code maxLocals ret :: tables_1) hat d (List.mem_cons_of_mem _ hd)
  have hfit : Fit s := fun {y c} hc i hi => by
    obtain ⟨ha, rfl⟩ := Array.getElem?_eq_some_iff.mp hc
    have q := List.all_eq_true.mp ((Array.all_eq_true_iff_forall_mem.mp hF) _ (Array.getElem_mem ha)) i (List.mem_range.mpr hi)
    simpa [Array.getElem?_eq_getElem hi] using q
  obtain ⟨i0, ei0⟩ := isL_v ga0
  obtain rfl : w0 = (.long i0) := Option.some.inj ei0
  obtain ⟨i1, ei1⟩ := isL_v ga1
  obtain rfl : w1 = (.long i1) := Option.some.inj ei1
  obtain ⟨i2, ei2⟩ := isL_v hg2
  obtain rfl : w2 = (.long i2) := Option.some.inj ei2
  obtain ⟨n, o, h1, h2, h3, _, L, rfl, ⟨rfl, N⟩, hq⟩ := rm0 l s _ hw tables_1 i0 i1 i2 s.heap s.heap.size (Nat.le_refl _) p e ha hc hk s m _ below hf ((Spec.applies_iff_loose hf).mp happ).1 ⟨rfl, State.Warmed39.refl s, rfl⟩ trivial
  refine ⟨n, _, h1, h2, h3, hpost _ _ _ _ _ _ ⟨Cond.after_iff.mpr rfl, Cond.after_iff.mpr (eq_i res_at (Term.int_eval (1)) rfl), trivial⟩ ⟨hq.1, hq.2.1, hq.2.2.1, (hq.2.2.2.sift fun y hy => Or.inr (N y hy)).mono (by decide) (by decide)⟩⟩
theorem main_1_1 : Claimed_1_1 := comes_1 fun _ _ _ _ _ _ h hF => ⟨h.1, hF⟩
theorem main_1_2 : Claimed_1_2 := comes_1 fun _ _ _ _ _ _ h hF => ⟨h.2.1, hF⟩
end Jvm.Pilot.@@N@@
namespace Jvm.Pilot.@@N@@
open Jvm Jvm.ClassFile Sem Op Lib Jvm.Free Jvm.Stand Jvm.Pilot.@@N@@.Jvm.D
/-! MADE BY PROGRAM (witnessworld.py) out of the Statement's table words and the real class files: 13 classes; the members and pool entries that the words name. The judged class is class 1, her method 1. -/
namespace start1
open Jvm.ClassFile
def u (s : String) : CpInfo := .utf8 (stringToUtf16 s)
/-- a pool by its gaps: so many unusable entries, then the entry; so many at the end -/
def gap : Nat → List CpInfo → List CpInfo
  | 0, r => r
  | n + 1, r => .unusable :: gap n r
def poolList (es : List (Nat × CpInfo)) (last : Nat) : List CpInfo := es.foldr (fun e r => gap e.1 (e.2 :: r)) (gap last [])
def pool (es : List (Nat × CpInfo)) (last : Nat) : Array CpInfo := ⟨poolList es last⟩
def fileOf (pool : Array CpInfo) (this : Nat) (attrs : Array Attribute := #[]) (ms : Array MethodInfo := #[]) (fl : Nat := 33) (sup : Nat := 0) (ifs : Array Nat := #[]) (fds : Array FieldInfo := #[]) : ClassFile where
  minorVersion := 0
  majorVersion := 65
  constantPool := pool
  accessFlags := fl
  thisClass := this
  superClass := sup
  interfaces := ifs
  fields := fds
  methods := ms
  attributes := attrs
def plain (name : String) (sup : Option ClassId) : Class where
  name := name
  kind := .ordinary
  loader := none
  accessFlags := 33
  super := sup
  interfaces := #[]
  cf := none
  fields := #[]
  methods := #[]
  instanceTypes := #[]
  staticTypes := #[]
  resolved := #[]
  callSites := []
  init := .initialized
  statics := none
  mirror := none

def pool0 : Array CpInfo := pool [(5, u "<init>"), (0, u "()V"), (1, .class_ 10), (1, u "java/lang/Object")] 113

def k0c0 : Code := { maxStack := 0, maxLocals := 1, code := object_method_1_code, exceptionTable := #[], attributes := #[] }
def k0m0 : Method := { name := "<init>", desc := "()V", sig := { parameters := [], returnType := none }, accessFlags := 1, code := some k0c0 }
/-- java/lang/Object -/
def k0 : Class := { plain "java/lang/Object" none with
  accessFlags := 33
  interfaces := #[]
  cf := some (fileOf pool0 8 #[] #[{ accessFlags := 1, nameIndex := 5, descriptorIndex := 6, attributes := #[] }] 33 0 #[] #[])
  fields := #[]
  methods := #[k0m0]
  instanceTypes := #[]
  staticTypes := #[]
  resolved := Array.replicate 124 none
  statics := none }

def pool1 : Array CpInfo := pool [(2, .class_ 4), (1, u "java/lang/Object"), (0, u "<init>"), (0, u "()V"), (0, .class_ 8), (0, u "com/example/form_ranks/formranks/http/AccessToken"), (0, .string 10), (0, u "c"), (0, .methodref 7 12), (0, .nameAndType 5 13), (0, u "(Ljava/lang/String;JLjava/util/Set;)V"), (0, .methodref 15 16), (0, .class_ 17), (0, .nameAndType 18 19), (0, u "java/lang/Math"), (0, u "min"), (0, u "(JJ)J"), (0, .methodref 15 21), (0, .nameAndType 22 19), (0, u "max"), (0, .methodref 7 24), (0, .nameAndType 25 26), (0, u "expiredAt"), (0, u "(J)Z"), (2, .long 9223372036854775808), (1, .class_ 32), (0, u "com/example/form_ranks/formranks/http/AccessTokenExpiredAtPinLaw"), (2, u "law"), (0, u "(JJJ)Z")] 3

def k1m0 : Method := { name := "<init>", desc := "()V", sig := { parameters := [], returnType := none }, accessFlags := 1, code := none }
def k1c1 : Code := { maxStack := 6, maxLocals := 16, code := code, exceptionTable := #[], attributes := #[] }
def k1m1 : Method := { name := "law", desc := "(JJJ)Z", sig := { parameters := [.long, .long, .long], returnType := some .boolean }, accessFlags := 9, code := some k1c1 }
/-- com/example/form_ranks/formranks/http/AccessTokenExpiredAtPinLaw -/
def k1 : Class := { plain "com/example/form_ranks/formranks/http/AccessTokenExpiredAtPinLaw" (some 0) with
  accessFlags := 49
  interfaces := #[]
  cf := some (fileOf pool1 31 #[] #[{ accessFlags := 1, nameIndex := 5, descriptorIndex := 6, attributes := #[] }, { accessFlags := 9, nameIndex := 35, descriptorIndex := 36, attributes := #[] }] 49 2 #[] #[])
  fields := #[]
  methods := #[k1m0, k1m1]
  instanceTypes := #[]
  staticTypes := #[]
  resolved := Array.replicate 40 none
  statics := none }

def pool2 : Array CpInfo := pool [(1, .methodref 2 3), (0, .class_ 4), (0, .nameAndType 5 6), (0, u "java/lang/Object"), (0, u "<init>"), (0, u "()V"), (0, .fieldref 8 9), (0, .class_ 10), (0, .nameAndType 11 12), (0, u "com/example/form_ranks/formranks/http/AccessToken"), (0, u "caller"), (0, u "Ljava/lang/String;"), (0, .fieldref 8 14), (0, .nameAndType 15 16), (0, u "expiresAtMillis"), (0, u "J"), (0, .fieldref 8 18), (0, .nameAndType 19 20), (0, u "grantedApis"), (0, u "Ljava/util/Set;"), (8, u "(Ljava/lang/String;JLjava/util/Set;)V"), (6, u "expiredAt"), (0, u "(J)Z")] 3

def k2c0 : Code := { maxStack := 3, maxLocals := 5, code := prog_13_method_1_code, exceptionTable := #[], attributes := #[] }
def k2m0 : Method := { name := "<init>", desc := "(Ljava/lang/String;JLjava/util/Set;)V", sig := { parameters := [(.object "java/lang/String"), .long, (.object "java/util/Set")], returnType := none }, accessFlags := 0, code := some k2c0 }
def k2c1 : Code := { maxStack := 4, maxLocals := 3, code := prog_13_method_4_code, exceptionTable := #[], attributes := #[] }
def k2m1 : Method := { name := "expiredAt", desc := "(J)Z", sig := { parameters := [.long], returnType := some .boolean }, accessFlags := 0, code := some k2c1 }
/-- com/example/form_ranks/formranks/http/AccessToken -/
def k2 : Class := { plain "com/example/form_ranks/formranks/http/AccessToken" (some 0) with
  accessFlags := 32
  interfaces := #[]
  cf := some (fileOf pool2 8 #[] #[{ accessFlags := 0, nameIndex := 5, descriptorIndex := 29, attributes := #[] }, { accessFlags := 0, nameIndex := 36, descriptorIndex := 37, attributes := #[] }] 32 2 #[] #[{ accessFlags := 18, nameIndex := 11, descriptorIndex := 12, attributes := #[] }, { accessFlags := 18, nameIndex := 15, descriptorIndex := 16, attributes := #[] }, { accessFlags := 18, nameIndex := 19, descriptorIndex := 20, attributes := #[] }])
  fields := #[{ name := "caller", type := (.object "java/lang/String"), accessFlags := 18, slot := 0, constantValue := 0 }, { name := "expiresAtMillis", type := .long, accessFlags := 18, slot := 1, constantValue := 0 }, { name := "grantedApis", type := (.object "java/util/Set"), accessFlags := 18, slot := 2, constantValue := 0 }]
  methods := #[k2m0, k2m1]
  instanceTypes := #[(.object "java/lang/String"), .long, (.object "java/util/Set")]
  staticTypes := #[]
  resolved := Array.replicate 41 none
  statics := none }

def pool3 : Array CpInfo := pool [(1, .class_ 2), (0, u "java/io/Serializable"), (0, .class_ 4), (0, u "java/lang/Object")] 2

/-- java/io/Serializable -/
def k3 : Class := { plain "java/io/Serializable" (some 0) with
  accessFlags := 1537
  interfaces := #[]
  cf := some (fileOf pool3 1 #[] #[] 1537 3 #[] #[])
  fields := #[]
  methods := #[]
  instanceTypes := #[]
  staticTypes := #[]
  resolved := Array.replicate 7 none
  statics := none }

def pool4 : Array CpInfo := pool [(1, .class_ 2), (0, u "java/lang/Comparable"), (0, .class_ 4), (0, u "java/lang/Object")] 7

/-- java/lang/Comparable -/
def k4 : Class := { plain "java/lang/Comparable" (some 0) with
  accessFlags := 1537
  interfaces := #[]
  cf := some (fileOf pool4 1 #[] #[] 1537 3 #[] #[])
  fields := #[]
  methods := #[]
  instanceTypes := #[]
  staticTypes := #[]
  resolved := Array.replicate 12 none
  statics := none }

def pool5 : Array CpInfo := pool [(2, .class_ 4), (1, u "java/lang/CharSequence"), (42, .class_ 48), (0, u "java/lang/CharSequence$1CodePointIterator"), (10, .class_ 60), (0, u "java/lang/CharSequence$1CharIterator"), (5, .class_ 67), (0, u "java/lang/Object")] 63

/-- java/lang/CharSequence -/
def k5 : Class := { plain "java/lang/CharSequence" (some 0) with
  accessFlags := 1537
  interfaces := #[]
  cf := some (fileOf pool5 2 #[.nestMembers #[47, 59]] #[] 1537 66 #[] #[])
  fields := #[]
  methods := #[]
  instanceTypes := #[]
  staticTypes := #[]
  resolved := Array.replicate 131 none
  statics := none }

def pool6 : Array CpInfo := pool [(1, .class_ 2), (0, u "java/lang/constant/Constable"), (0, .class_ 4), (0, u "java/lang/Object")] 6

/-- java/lang/constant/Constable -/
def k6 : Class := { plain "java/lang/constant/Constable" (some 0) with
  accessFlags := 1537
  interfaces := #[]
  cf := some (fileOf pool6 1 #[] #[] 1537 3 #[] #[])
  fields := #[]
  methods := #[]
  instanceTypes := #[]
  staticTypes := #[]
  resolved := Array.replicate 11 none
  statics := none }

def pool7 : Array CpInfo := pool [(1, .class_ 2), (0, u "java/lang/constant/ConstantDesc"), (0, .class_ 4), (0, u "java/lang/Object")] 32

/-- java/lang/constant/ConstantDesc -/
def k7 : Class := { plain "java/lang/constant/ConstantDesc" (some 0) with
  accessFlags := 1537
  interfaces := #[]
  cf := some (fileOf pool7 1 #[] #[] 1537 3 #[] #[])
  fields := #[]
  methods := #[]
  instanceTypes := #[]
  staticTypes := #[]
  resolved := Array.replicate 37 none
  statics := none }

def pool8 : Array CpInfo := pool [(2, .class_ 4), (1, u "java/lang/Object"), (0, u "<init>"), (0, u "()V"), (3, .class_ 12), (1, u "java/lang/String"), (0, u "value"), (0, u "[B"), (2, u "coder"), (0, u "B"), (2, u "hash"), (0, u "I"), (2, u "hashIsZero"), (0, u "Z"), (13, u "COMPACT_STRINGS"), (534, .class_ 576), (0, u "java/lang/CharSequence"), (22, u "CASE_INSENSITIVE_ORDER"), (0, u "Ljava/util/Comparator;"), (500, u "serialPersistentFields"), (0, u "[Ljava/io/ObjectStreamField;"), (0, .class_ 1104), (0, u "java/lang/String$CaseInsensitiveComparator"), (1, .class_ 1107), (0, u "java/io/Serializable"), (0, .class_ 1109), (0, u "java/lang/Comparable"), (0, .class_ 1111), (0, u "java/lang/constant/Constable"), (0, .class_ 1113), (0, u "java/lang/constant/ConstantDesc"), (2, u "serialVersionUID"), (0, u "J"), (3, u "REPL"), (0, u "C"), (2, u "LATIN1"), (1, u "UTF16")] 323

def k8m0 : Method := { name := "<init>", desc := "()V", sig := { parameters := [], returnType := none }, accessFlags := 1, code := none }
/-- java/lang/String -/
def k8 : Class := { plain "java/lang/String" (some 0) with
  accessFlags := 49
  interfaces := #[3, 4, 5, 6, 7]
  cf := some (fileOf pool8 10 #[.nestMembers #[1103]] #[{ accessFlags := 1, nameIndex := 5, descriptorIndex := 6, attributes := #[] }] 49 2 #[1106, 1108, 575, 1110, 1112] #[{ accessFlags := 18, nameIndex := 13, descriptorIndex := 14, attributes := #[] }, { accessFlags := 18, nameIndex := 17, descriptorIndex := 18, attributes := #[] }, { accessFlags := 2, nameIndex := 21, descriptorIndex := 22, attributes := #[] }, { accessFlags := 2, nameIndex := 25, descriptorIndex := 26, attributes := #[] }, { accessFlags := 26, nameIndex := 1116, descriptorIndex := 1117, attributes := #[] }, { accessFlags := 24, nameIndex := 40, descriptorIndex := 26, attributes := #[] }, { accessFlags := 26, nameIndex := 1101, descriptorIndex := 1102, attributes := #[] }, { accessFlags := 26, nameIndex := 1121, descriptorIndex := 1122, attributes := #[] }, { accessFlags := 25, nameIndex := 599, descriptorIndex := 600, attributes := #[] }, { accessFlags := 24, nameIndex := 1125, descriptorIndex := 18, attributes := #[] }, { accessFlags := 24, nameIndex := 1127, descriptorIndex := 18, attributes := #[] }])
  fields := #[{ name := "value", type := (.array .byte), accessFlags := 18, slot := 0, constantValue := 0 }, { name := "coder", type := .byte, accessFlags := 18, slot := 1, constantValue := 0 }, { name := "hash", type := .int, accessFlags := 2, slot := 2, constantValue := 0 }, { name := "hashIsZero", type := .boolean, accessFlags := 2, slot := 3, constantValue := 0 }, { name := "serialVersionUID", type := .long, accessFlags := 26, slot := 0, constantValue := 0 }, { name := "COMPACT_STRINGS", type := .boolean, accessFlags := 24, slot := 1, constantValue := 0 }, { name := "serialPersistentFields", type := (.array (.object "java/io/ObjectStreamField")), accessFlags := 26, slot := 2, constantValue := 0 }, { name := "REPL", type := .char, accessFlags := 26, slot := 3, constantValue := 0 }, { name := "CASE_INSENSITIVE_ORDER", type := (.object "java/util/Comparator"), accessFlags := 25, slot := 4, constantValue := 0 }, { name := "LATIN1", type := .byte, accessFlags := 24, slot := 5, constantValue := 0 }, { name := "UTF16", type := .byte, accessFlags := 24, slot := 6, constantValue := 0 }]
  methods := #[k8m0]
  instanceTypes := #[(.array .byte), .byte, .int, .boolean]
  staticTypes := #[.long, .boolean, (.array (.object "java/io/ObjectStreamField")), .char, (.object "java/util/Comparator"), .byte, .byte]
  resolved := Array.replicate 1451 none
  statics := none }

def pool9 : Array CpInfo := pool [(1, .class_ 2), (0, u "java/lang/Math"), (1, .class_ 6), (1, u "java/lang/Object"), (0, u "<init>"), (0, u "()V"), (89, .class_ 100), (1, u "java/lang/Math$RandomNumberGeneratorHolder"), (20, u "(JJ)J"), (50, u "negativeZeroFloatBits"), (0, u "J"), (2, u "negativeZeroDoubleBits"), (21, u "max"), (2, u "min"), (43, u "$assertionsDisabled"), (0, u "Z"), (91, u "twoToTheDoubleScaleDown"), (0, u "D"), (4, u "twoToTheDoubleScaleUp"), (9, u "E"), (3, u "PI"), (2, u "TAU"), (2, u "DEGREES_TO_RADIANS"), (0, u "RADIANS_TO_DEGREES")] 94

def k9m0 : Method := { name := "<init>", desc := "()V", sig := { parameters := [], returnType := none }, accessFlags := 2, code := none }
def k9c1 : Code := { maxStack := 4, maxLocals := 4, code := jdk_29_method_66_code, exceptionTable := #[], attributes := #[] }
def k9m1 : Method := { name := "max", desc := "(JJ)J", sig := { parameters := [.long, .long], returnType := some .long }, accessFlags := 9, code := some k9c1 }
def k9c2 : Code := { maxStack := 4, maxLocals := 4, code := jdk_29_method_70_code, exceptionTable := #[], attributes := #[] }
def k9m2 : Method := { name := "min", desc := "(JJ)J", sig := { parameters := [.long, .long], returnType := some .long }, accessFlags := 9, code := some k9c2 }
/-- java/lang/Math -/
def k9 : Class := { plain "java/lang/Math" (some 0) with
  accessFlags := 49
  interfaces := #[]
  cf := some (fileOf pool9 1 #[.nestMembers #[98]] #[{ accessFlags := 2, nameIndex := 7, descriptorIndex := 8, attributes := #[] }, { accessFlags := 9, nameIndex := 198, descriptorIndex := 121, attributes := #[] }, { accessFlags := 9, nameIndex := 201, descriptorIndex := 121, attributes := #[] }] 49 4 #[] #[{ accessFlags := 25, nameIndex := 354, descriptorIndex := 339, attributes := #[] }, { accessFlags := 25, nameIndex := 358, descriptorIndex := 339, attributes := #[] }, { accessFlags := 25, nameIndex := 361, descriptorIndex := 339, attributes := #[] }, { accessFlags := 26, nameIndex := 364, descriptorIndex := 339, attributes := #[] }, { accessFlags := 26, nameIndex := 365, descriptorIndex := 339, attributes := #[] }, { accessFlags := 26, nameIndex := 172, descriptorIndex := 173, attributes := #[] }, { accessFlags := 26, nameIndex := 176, descriptorIndex := 173, attributes := #[] }, { accessFlags := 8, nameIndex := 344, descriptorIndex := 339, attributes := #[] }, { accessFlags := 8, nameIndex := 338, descriptorIndex := 339, attributes := #[] }, { accessFlags := 4120, nameIndex := 245, descriptorIndex := 246, attributes := #[] }])
  fields := #[{ name := "E", type := .double, accessFlags := 25, slot := 0, constantValue := 0 }, { name := "PI", type := .double, accessFlags := 25, slot := 1, constantValue := 0 }, { name := "TAU", type := .double, accessFlags := 25, slot := 2, constantValue := 0 }, { name := "DEGREES_TO_RADIANS", type := .double, accessFlags := 26, slot := 3, constantValue := 0 }, { name := "RADIANS_TO_DEGREES", type := .double, accessFlags := 26, slot := 4, constantValue := 0 }, { name := "negativeZeroFloatBits", type := .long, accessFlags := 26, slot := 5, constantValue := 0 }, { name := "negativeZeroDoubleBits", type := .long, accessFlags := 26, slot := 6, constantValue := 0 }, { name := "twoToTheDoubleScaleUp", type := .double, accessFlags := 8, slot := 7, constantValue := 0 }, { name := "twoToTheDoubleScaleDown", type := .double, accessFlags := 8, slot := 8, constantValue := 0 }, { name := "$assertionsDisabled", type := .boolean, accessFlags := 4120, slot := 9, constantValue := 0 }]
  methods := #[k9m0, k9m1, k9m2]
  instanceTypes := #[]
  staticTypes := #[.double, .double, .double, .double, .double, .long, .long, .double, .double, .boolean]
  resolved := Array.replicate 460 none
  statics := none }

def pool10 : Array CpInfo := pool [(1, u "java/lang/Cloneable"), (0, .class_ 1), (0, u "java/lang/Object"), (0, .class_ 3)] 3

/-- java/lang/Cloneable -/
def k10 : Class := { plain "java/lang/Cloneable" (some 0) with
  accessFlags := 1537
  interfaces := #[]
  cf := some (fileOf pool10 2 #[] #[] 1537 4 #[] #[])
  fields := #[]
  methods := #[]
  instanceTypes := #[]
  staticTypes := #[]
  resolved := Array.replicate 8 none
  statics := none }

/-- the primitive byte -/
def k11 : Class := { plain "byte" none with kind := .primitive 'B', accessFlags := 0x411 }
/-- [B -/
def k12 : Class := { plain "[B" (some 0) with kind := .array 11 .byte, interfaces := #[10, 3], accessFlags := 1041 }

def heap : Heap := #[]
def classes : Array Class := #[k0, k1, k2, k3, k4, k5, k6, k7, k8, k9, k10, k11, k12]
def interned : List (Array UInt16 × Addr) := []
def slotsUsed : Nat := 0
def theMethod : MethodId := ⟨1, 1⟩
def args0 : Array Value := #[.long 5, .long 7, .long 8]
def aboutOver (below : List Frame) : State where
  vm := { classes := classes, interned := interned.toArray }
  heap := heap
  slotsUsed := slotsUsed
  threads := #[{ frames := .invoking theMethod args0 :: below }]
def below0 : List Frame := [.native { method := ⟨0, 0⟩, args := #[] }]
def about1 : State := aboutOver below0
def p0 : Program := .bare "" "" ""
def e0 : Env := launch0.env 0 0 0
theorem w_frames : about1.frames = Frame.invoking theMethod args0 :: below0 := rfl
set_option maxRecDepth 65536 in
theorem w_args : argsFit about1.vm theMethod args0 = true := by decide +kernel
set_option maxRecDepth 65536 in
theorem w_heap : heapFits about1 = true := by decide +kernel
set_option maxRecDepth 65536 in
theorem w_runnable : about1.curStatus? = some .runnable := by decide +kernel
set_option maxRecDepth 65536 in
theorem w_alone : about1.alone = true := by decide +kernel
set_option maxRecDepth 65536 in
theorem w_named : about1.methodNamed? x = some theMethod := by decide +kernel
set_option maxRecDepth 65536 in
theorem w_hears : about1.hears theMethod below0 = true := by decide +kernel
set_option maxRecDepth 65536 in
theorem w_ripe : about1.ripe theMethod args0 below0 = true := by decide +kernel
theorem w_running : about1.status = .running := rfl
set_option maxRecDepth 65536 in
theorem w_room : about1.hasRoom e0.platform room_1 = true :=
  launch0.hasRoom_least _ room_1 (by decide +kernel) (by decide +kernel) (by decide +kernel) (by decide +kernel) (by decide +kernel) (by decide +kernel)
theorem allAtoms_all (ts : List Jvm.Cond) (a : Array Jvm.Value) (st : Jvm.State) : (allAtoms ts).before a st = ts.all (fun c => c.before a st) := by
  induction ts with
  | nil => rfl
  | cons c t ih =>
    show (Jvm.Cond.and c (allAtoms t)).before a st = _
    rw [Jvm.Cond.before_and, ih, List.all_cons]
def words1 : List Jvm.Cond := Jvm.Cond.code x code maxLocals ret :: tables_1
/-- a 'code' word, met by the world's own term for the bytes: nothing is compared byte by byte -/
theorem code_word {y : MethodName} {bytes : ByteArray} {mx : Nat} {rt : Option FieldType} {a : Array Value} {s : State} {m : MethodId} {meth : Method} {c : Code} (h1 : s.methodNamed? y = some m) (h2 : s.vm.method? m = some meth) (h3 : meth.code = some c) (h4 : c.code = bytes)
    (h5 : (c.maxLocals == mx && c.exceptionTable.isEmpty && decide (c.maxStack ≤ mostOperands) && decide (meth.sig.returnType = rt) && !meth.locks && decide (parseMethodDescriptor y.desc = some meth.sig)) = true) : (Jvm.Cond.code y bytes mx rt).before a s = true := by
  simp only [Bool.and_eq_true, beq_iff_eq, Bool.not_eq_true', decide_eq_true_eq] at h5
  obtain ⟨⟨⟨⟨⟨g1, g2⟩, g3⟩, g4⟩, g5⟩, g6⟩ := h5
  simp [Cond.before, Cond.holds, Cond.value, h1, h2, h3, h4, g1, g2, g3, g4, g5, g6]
def isCode : Jvm.Cond → Bool
  | .code _ _ _ _ => true
  | _ => false
theorem all_split {L : List Jvm.Cond} {P : Jvm.Cond → Bool} (h1 : L.all (fun c => isCode c || P c) = true) (h2 : ∀ c ∈ L.filter isCode, P c = true) : L.all P = true := by
  refine List.all_eq_true.mpr fun c hc => ?_
  have h := List.all_eq_true.mp h1 c hc
  rcases Bool.eq_false_or_eq_true (isCode c) with hi | hi
  · exact h2 c (List.mem_filter.mpr ⟨hc, hi⟩)
  · simpa [hi] using h
set_option maxRecDepth 65536 in
theorem w_c0 : (Jvm.Cond.code x code maxLocals ret).before args0 about1 = true := code_word (m := ⟨1, 1⟩) (meth := k1m1) (c := k1c1) (by decide +kernel) rfl rfl rfl (by decide +kernel)
set_option maxRecDepth 65536 in
theorem w_c1 : (Jvm.Cond.code ({ cls := "com/example/form_ranks/formranks/http/AccessToken", name := "<init>", desc := "(Ljava/lang/String;JLjava/util/Set;)V" } : Jvm.MethodName) prog_13_method_1_code (5 : Nat) (Option.none : Option Jvm.ClassFile.FieldType)).before args0 about1 = true := code_word (m := ⟨2, 0⟩) (meth := k2m0) (c := k2c0) (by decide +kernel) rfl rfl rfl (by decide +kernel)
set_option maxRecDepth 65536 in
theorem w_c2 : (Jvm.Cond.code ({ cls := "java/lang/Object", name := "<init>", desc := "()V" } : Jvm.MethodName) object_method_1_code (1 : Nat) (Option.none : Option Jvm.ClassFile.FieldType)).before args0 about1 = true := code_word (m := ⟨0, 0⟩) (meth := k0m0) (c := k0c0) (by decide +kernel) rfl rfl rfl (by decide +kernel)
set_option maxRecDepth 65536 in
theorem w_c3 : (Jvm.Cond.code ({ cls := "java/lang/Math", name := "min", desc := "(JJ)J" } : Jvm.MethodName) jdk_29_method_70_code (4 : Nat) (Option.some Jvm.ClassFile.FieldType.long)).before args0 about1 = true := code_word (m := ⟨9, 2⟩) (meth := k9m2) (c := k9c2) (by decide +kernel) rfl rfl rfl (by decide +kernel)
set_option maxRecDepth 65536 in
theorem w_c4 : (Jvm.Cond.code ({ cls := "java/lang/Math", name := "max", desc := "(JJ)J" } : Jvm.MethodName) jdk_29_method_66_code (4 : Nat) (Option.some Jvm.ClassFile.FieldType.long)).before args0 about1 = true := code_word (m := ⟨9, 1⟩) (meth := k9m1) (c := k9c1) (by decide +kernel) rfl rfl rfl (by decide +kernel)
set_option maxRecDepth 65536 in
theorem w_c5 : (Jvm.Cond.code ({ cls := "com/example/form_ranks/formranks/http/AccessToken", name := "expiredAt", desc := "(J)Z" } : Jvm.MethodName) prog_13_method_4_code (3 : Nat) (Option.some Jvm.ClassFile.FieldType.boolean)).before args0 about1 = true := code_word (m := ⟨2, 1⟩) (meth := k2m1) (c := k2c1) (by decide +kernel) rfl rfl rfl (by decide +kernel)
def codes1 : List Jvm.Cond := [Jvm.Cond.code x code maxLocals ret, Jvm.Cond.code ({ cls := "com/example/form_ranks/formranks/http/AccessToken", name := "<init>", desc := "(Ljava/lang/String;JLjava/util/Set;)V" } : Jvm.MethodName) prog_13_method_1_code (5 : Nat) (Option.none : Option Jvm.ClassFile.FieldType), Jvm.Cond.code ({ cls := "java/lang/Object", name := "<init>", desc := "()V" } : Jvm.MethodName) object_method_1_code (1 : Nat) (Option.none : Option Jvm.ClassFile.FieldType), Jvm.Cond.code ({ cls := "java/lang/Math", name := "min", desc := "(JJ)J" } : Jvm.MethodName) jdk_29_method_70_code (4 : Nat) (Option.some Jvm.ClassFile.FieldType.long), Jvm.Cond.code ({ cls := "java/lang/Math", name := "max", desc := "(JJ)J" } : Jvm.MethodName) jdk_29_method_66_code (4 : Nat) (Option.some Jvm.ClassFile.FieldType.long), Jvm.Cond.code ({ cls := "com/example/form_ranks/formranks/http/AccessToken", name := "expiredAt", desc := "(J)Z" } : Jvm.MethodName) prog_13_method_4_code (3 : Nat) (Option.some Jvm.ClassFile.FieldType.boolean)]
set_option maxRecDepth 65536 in
theorem codes_eq : words1.filter isCode = codes1 := rfl
theorem w_codes : ∀ c ∈ words1.filter isCode, c.before args0 about1 = true := by
  rw [codes_eq]
  intro c hc
  simp only [codes1, List.mem_cons, List.not_mem_nil, or_false] at hc
  rcases hc with rfl | rfl | rfl | rfl | rfl | rfl
  · exact w_c0
  · exact w_c1
  · exact w_c2
  · exact w_c3
  · exact w_c4
  · exact w_c5
set_option maxRecDepth 65536 in
theorem w_t1 : (words1.take 24).all (fun c => isCode c || c.before args0 about1) = true := by decide +kernel
set_option maxRecDepth 65536 in
theorem w_t2 : (words1.drop 24).all (fun c => isCode c || c.before args0 about1) = true := by decide +kernel
theorem w_tables : (allAtoms (Jvm.Cond.code x code maxLocals ret :: tables_1)).before args0 about1 = true := by
  rw [allAtoms_all]
  show words1.all (fun c => c.before args0 about1) = true
  refine all_split ?_ w_codes
  rw [← List.take_append_drop 24 words1, List.all_append, w_t1, w_t2]
  rfl
set_option maxRecDepth 65536 in
theorem w_case : (Jvm.Cond.and given_1 narrow_1).before args0 about1 = true := by decide +kernel
theorem w_applies : (headSpec (Jvm.Cond.code x code maxLocals ret :: tables_1) room_1).applies x e0.platform about1 = true :=
  (Spec.applies_iff w_frames).mpr ⟨w_running, w_runnable, w_alone, w_named, w_hears, w_ripe, w_room, w_tables⟩
theorem atStart : AtStart classFile x code maxLocals ret World_1 tables_1 room_1 Calls_1 rest_1 Pre_1 launch0 p0 e0 about1 theMethod args0 below0 :=
  ⟨lists_1, trivial, launch0.admits_env _ _ _, launch0.least_env, fairChoices_fair.cas, fairChoices_fair.clock, w_frames, w_args, w_heap, w_applies, trivial, trivial, w_case⟩
end start1
theorem witness_1 : WitnessClaimed_1 := ⟨start1.p0, start1.e0, start1.about1, start1.theMethod, start1.args0, start1.below0, start1.atStart⟩
end Jvm.Pilot.@@N@@
