import JvmDerived
import JvmDerived.Pilot.@@N@@Statement
import JvmDerived.Pilot.@@N@@Code
set_option linter.unusedVariables false
set_option linter.unusedSimpArgs false
namespace Jvm.RoadKit
open Sem ClassFile Op Lib Jvm.Stand Jvm.Free Jvm.LawKit
section New
variable {p : Program} {l : Launch} {e : Env} {R : Room} {s : State} {m : MethodId} {args : Array Value} {below : List Frame} {meth : Method} {c : Code} {T : State} {locs : List Loc} {cells slots : Nat}
theorem retI (X : Stand p l e R s m args below meth c T locs cells slots) (hx : p.tables.exec = Jvm.exec) {pc : Nat} {Ls : Array Slot} {z : Int32} {rest : List Value} (hret : meth.sig.returnType = some .int) (hd : decode c.code pc = .ok (.ireturn, 1)) {fs : List Frame}
    (hl : ∀ (f : JFrame) (acts : List Action), f.method = m → f.locked = none → f.entered = [] → (doReturn e (T.setTop f) acts (some (.int z))).1 = T.setFrames fs) : Steps p.tables e below (T.setTop (mkF m pc Ls (.int z :: rest))) (T.setFrames fs) := by
  have hm' : T.vm.method? m = some meth := X.method'
  have hn : narrow .int (.int z) = .int z := rfl
  show Steps p.tables e below (T.setTop { method := m, pc := pc, locals := Ls, stack := _ :: rest, locked := none }) _
  jvm_step X.here [X.here.top, hx, hd, hm', hret, hn]
  first | (intro acts; rw [hl _ acts rfl rfl rfl]) | rw [hl _ _ rfl rfl rfl]
  exact Steps.refl _
end New
/-- from the state A the run comes to an end of which G speaks -/
def own_R (tb : Tables) (e : Env) (below : List Frame) (G : State → Outcome → Prop) (A : State) : Prop := ∃ s₂ o, Steps tb e below A s₂ ∧ G s₂ o
theorem own_go {tb : Tables} {e : Env} {below : List Frame} {G : State → Outcome → Prop} {A B : State} (k : ∀ t, Steps tb e below B t → Steps tb e below A t) (h : own_R tb e below G B) : own_R tb e below G A := by
  obtain ⟨s₂, o, hs, hp⟩ := h
  exact ⟨s₂, o, k _ hs, hp⟩
theorem own_open {tb : Tables} {e : Env} {below : List Frame} {A : State} {P : State → Outcome → Prop} (h : ∀ G : State → Outcome → Prop, (∀ s₂ o, P s₂ o → G s₂ o) → own_R tb e below G A) : ∃ s₂ o, Steps tb e below A s₂ ∧ P s₂ o := h P fun _ _ q => q
theorem own_at {tb : Tables} {e : Env} {below : List Frame} {G : State → Outcome → Prop} {A : State} {s₂ : State} {o : Outcome} (h : Steps tb e below A s₂) (g : G s₂ o) : own_R tb e below G A := ⟨s₂, o, h, g⟩
end Jvm.RoadKit
namespace Jvm.Pilot.@@N@@
open Jvm Jvm.ClassFile Sem Op Lib Jvm.Free Jvm.Stand Jvm.LawKit Jvm.RoadKit Bundle Jvm.Pilot.@@N@@.Jvm.D
theorem pd__28_JJ_29_J : parseMethodDescriptor "(JJ)J" = some ⟨[.long, .long], some .long⟩ := by decide +kernel
def own_min (x y : Int64) : Int64 := if y < x then y else x
def own_max (x y : Int64) : Int64 := if x < y then y else x
/-- the longest time that ends by b, as its code goes -/
def own_le (s b : Int64) : Int64 := if b - s < 0 then 9223372036854775807 else if b = 9223372036854775807 then 9223372036854775807 else b - s
theorem own_M : (9223372036854775807 : Int64).toInt = 9223372036854775807 := by decide
theorem own_m : (-9223372036854775808 : Int64).toInt = -9223372036854775808 := by decide
theorem own_z : (0 : Int64).toInt = 0 := by decide
theorem own_mm (x y : Int64) : (own_min x y).toInt ≤ (own_max x y).toInt := by
  unfold own_min own_max
  by_cases h1 : y < x
  · have h2 : ¬ x < y := fun q => Int64.lt_irrefl (Int64.lt_trans q h1)
    rw [if_pos h1, if_neg h2]
    have := Int64.lt_iff_toInt_lt.mp h1
    omega
  · rw [if_neg h1]
    by_cases h2 : x < y
    · rw [if_pos h2]
      have := Int64.lt_iff_toInt_lt.mp h2
      omega
    · rw [if_neg h2]; exact Int.le_refl _
theorem own_c1 {s b : Int64} (h : s.toInt ≤ b.toInt) (hb : b = 9223372036854775807) : own_le s b = 9223372036854775807 := by
  unfold own_le
  by_cases h1 : b - s < 0
  · rw [if_pos h1]
  · rw [if_neg h1, if_pos hb]
theorem own_sub {s b : Int64} (h : s.toInt ≤ b.toInt) : (b - s < 0 ↔ 9223372036854775807 < b.toInt - s.toInt) ∧ (b.toInt - s.toInt ≤ 9223372036854775807 → (b - s).toInt = b.toInt - s.toInt) := by
  have a := rng64 s
  have a' := rng64 b
  have u := c_lsub b s
  have r := rng64 (b - s)
  rw [Int64.lt_iff_toInt_lt, own_z]
  omega
theorem own_c2 {s b : Int64} (h : s.toInt ≤ b.toInt) (h1 : s < 0) (h2 : s + 9223372036854775807 < b) : own_le s b = 9223372036854775807 := by
  have a := rng64 s
  have u := c_ladd s 9223372036854775807
  have r := rng64 (s + 9223372036854775807)
  have h1' := Int64.lt_iff_toInt_lt.mp h1
  have h2' := Int64.lt_iff_toInt_lt.mp h2
  rw [own_M] at u
  rw [own_z] at h1'
  unfold own_le
  rw [if_pos ((own_sub h).1.mpr (by omega))]
theorem own_c3 {s b : Int64} (h : s.toInt ≤ b.toInt) (hb : ¬ b = 9223372036854775807) (h2 : b.toInt - s.toInt ≤ 9223372036854775807) : own_le s b = b - s := by
  unfold own_le
  rw [if_neg (fun q => by have := (own_sub h).1.mp q; omega), if_neg hb]
theorem own_d1 {s b : Int64} (h : s.toInt ≤ b.toInt) (h1 : s < 0) (h2 : ¬ s + 9223372036854775807 < b) : b.toInt - s.toInt ≤ 9223372036854775807 := by
  have a := rng64 s
  have u := c_ladd s 9223372036854775807
  have r := rng64 (s + 9223372036854775807)
  have h1' := Int64.lt_iff_toInt_lt.mp h1
  have h2' : ¬ (s + 9223372036854775807).toInt < b.toInt := fun q => h2 (Int64.lt_iff_toInt_lt.mpr q)
  rw [own_M] at u
  rw [own_z] at h1'
  omega
theorem own_d2 {s b : Int64} (h1 : ¬ s < 0) : b.toInt - s.toInt ≤ 9223372036854775807 := by
  have a := rng64 b
  have h1' : ¬ s.toInt < 0 := fun q => h1 (Int64.lt_iff_toInt_lt.mpr (by rw [own_z]; exact q))
  omega
theorem own_nn {s b : Int64} (h : s.toInt ≤ b.toInt) : ¬ own_le s b < 0 := by
  intro q
  have q' := Int64.lt_iff_toInt_lt.mp q
  rw [own_z] at q'
  unfold own_le at q'
  by_cases h1 : b - s < 0
  · rw [if_pos h1, own_M] at q'; omega
  · rw [if_neg h1] at q'
    by_cases h2 : b = 9223372036854775807
    · rw [if_pos h2, own_M] at q'; omega
    · rw [if_neg h2] at q'
      exact h1 (Int64.lt_iff_toInt_lt.mpr (by rw [own_z]; exact q'))
theorem d1_0 : decode jdk_29_method_70_code 0 = .ok (.lload_n 0, 1) := by decide +kernel
theorem d1_1 : decode jdk_29_method_70_code 1 = .ok (.lload_n 2, 1) := by decide +kernel
theorem d1_2 : decode jdk_29_method_70_code 2 = .ok (.lcmp, 1) := by decide +kernel
theorem d1_3 : decode jdk_29_method_70_code 3 = .ok (.ifCond .gt 7, 3) := by decide +kernel
theorem d1_6 : decode jdk_29_method_70_code 6 = .ok (.lload_n 0, 1) := by decide +kernel
theorem d1_7 : decode jdk_29_method_70_code 7 = .ok (.goto 4, 3) := by decide +kernel
theorem d1_10 : decode jdk_29_method_70_code 10 = .ok (.lload_n 2, 1) := by decide +kernel
theorem d1_11 : decode jdk_29_method_70_code 11 = .ok (.lreturn, 1) := by decide +kernel
theorem ef_rm1 (m : MethodId) (x0 : Int64) (x1 : Int64) : entryFrame m #[(.long x0), (.long x1)] 4 = mkF m 0 #[.val (.long x0), .second, .val (.long x1), .second] [] := by first | (simp [entryFrame, mkF, argsToLocals, Value.category]; done) | rfl
def Q1 (Z : State) (q0 : Int64) (q1 : Int64) (h0 : Heap) (n0 : Nat) (v : Option Value) (h : Heap) (L : List Loc) : Prop := v = some (.long (own_min q0 q1)) ∧ Fr n0 L ∧ h = h0
set_option maxRecDepth 65536 in
set_option maxHeartbeats 40000000 in
theorem rm1 (l : Launch) (Z : State) (a0 : Array Value) (hw : ∀ d ∈ tables_1, d.before a0 Z = true) (ws : List Jvm.Cond) (q0 : Int64) (q1 : Int64) (h0 : Heap) (n0 : Nat) (Z0 : n0 ≤ h0.size) :
    MetFree l (⟨"java/lang/Math", "min", "(JJ)J"⟩ : MethodName) (head1 (Jvm.Cond.code (⟨"java/lang/Math", "min", "(JJ)J"⟩ : MethodName) jdk_29_method_70_code 4 (some .long) :: ws) ({ frames := 0, cells := 0, slots := 0, locals := 0 } : Room)) (fun a U => a = #[(.long q0), (.long q1)] ∧ Z.Warmed39 U.vm ∧ U.heap = h0) (fun _ _ _ _ _ => True) (fun _ U o U' => ∃ v L, o = .returned v ∧ Q1 Z q0 q1 h0 n0 v U'.heap L ∧ FrameEnd U o U' L ({ frames := 0, cells := 0, slots := 0, locals := 0 } : Room).cells ({ frames := 0, cells := 0, slots := 0, locals := 0 } : Room).slots) := by
  refine MetFree.of_bodySF (Jvm.Free.JP.mathPlain rfl (by decide +kernel)) hisR ?_
  intro p e s m args below meth c s₁ Bd hml0 hP hK
  obtain ⟨rfl, hZ, hh⟩ := hP
  have hx := Bd.exec
  have hby := Bd.bytes
  have hml : c.maxLocals = 4 := hml0
  have hown : s.vm.findClass "java/lang/Math" = some m.cls := findClass_of_methodNamed Bd.named
  have hnm := (name_of_methodNamed Bd.named Bd.method).1
  have X0 : Stand p l e ({ frames := 0, cells := 0, slots := 0, locals := 0 } : Room) s m #[(.long q0), (.long q1)] below meth c s₁ [] 0 0 := Stand.of_body Bd
  have e0 : s₁.heap = h0 := by rw [← hh, Bd.state]; rfl
  have N0 := Fr.nil n0
  refine own_open fun G hG => ?_
  refine own_go (B := s₁.setTop (mkF m 0 #[.val (.long q0), .second, .val (.long q1), .second] [])) (fun t_ k_ => castTop (ef_rm1 m q0 q1) k_) ?_
  refine own_go (B := s₁.setTop (mkF m 3 #[.val (.long q0), .second, .val (.long q1), .second] [(.int (lcmpW q0 q1))])) (fun t_ k_ => ?_) ?_
  · show Steps p.tables e below (s₁.setTop (mkF m 0 #[.val (.long q0), .second, .val (.long q1), .second] [])) _
    refine XS.lloadN X0.here hx rfl (hb hby d1_0) rfl ?_
    show Steps p.tables e below (s₁.setTop (mkF m 1 #[.val (.long q0), .second, .val (.long q1), .second] [(.long q0)])) _
    refine XS.lloadN X0.here hx rfl (hb hby d1_1) rfl ?_
    show Steps p.tables e below (s₁.setTop (mkF m 2 #[.val (.long q0), .second, .val (.long q1), .second] [(.long q1), (.long q0)])) _
    refine XS.lcmp X0.here hx rfl (hb hby d1_2) rfl ?_
    show Steps p.tables e below (s₁.setTop (mkF m 3 #[.val (.long q0), .second, .val (.long q1), .second] [(.int (lcmpW q0 q1))])) _
    exact k_
  by_cases hc3 : q1 < q0
  · refine own_go (B := s₁.setTop (mkF m 11 #[.val (.long q0), .second, .val (.long q1), .second] [(.long q1)])) (fun t_ k_ => ?_) ?_
    · show Steps p.tables e below (s₁.setTop (mkF m 3 #[.val (.long q0), .second, .val (.long q1), .second] [(.int (lcmpW q0 q1))])) _
      refine XS.ifYes X0.here hx rfl (pc0 := 3) (pc' := 10) rfl (hb hby d1_3) rfl ((if0 _ _).trans (tlt ((lw_gt _ _).mpr hc3)).2.2.1) (by decide) (by decide) ?_
      show Steps p.tables e below (s₁.setTop (mkF m 10 #[.val (.long q0), .second, .val (.long q1), .second] [])) _
      refine XS.lloadN X0.here hx rfl (hb hby d1_10) rfl ?_
      show Steps p.tables e below (s₁.setTop (mkF m 11 #[.val (.long q0), .second, .val (.long q1), .second] [(.long q1)])) _
      exact k_
    obtain ⟨fs, hr, hrun, hended, hW, hsame⟩ := X0.leave (v := some (.long q1)) (fun h => by rw [Bd.returns] at h; cases h)
    refine own_at ?_ (hG _ _ ⟨hrun, hended, _, _, rfl, ?_, ⟨_, rfl⟩, hW, hsame.mono (by decide) (by decide)⟩)
    · show Steps p.tables e below (s₁.setTop (mkF m 11 #[.val (.long q0), .second, .val (.long q1), .second] [(.long q1)])) _
      exact X0.lreturnOut hx Bd.returns (hb hby d1_11) hr
    · show Q1 Z q0 q1 h0 n0 _ s₁.heap _
      rw [e0]
      exact ⟨by unfold own_min; rw [if_pos hc3], N0, rfl⟩
  · refine own_go (B := s₁.setTop (mkF m 11 #[.val (.long q0), .second, .val (.long q1), .second] [(.long q0)])) (fun t_ k_ => ?_) ?_
    · show Steps p.tables e below (s₁.setTop (mkF m 3 #[.val (.long q0), .second, .val (.long q1), .second] [(.int (lcmpW q0 q1))])) _
      refine XS.ifNo X0.here hx rfl (hb hby d1_3) rfl ((if0 _ _).trans (flt (mt (lw_gt _ _).mp hc3)).2.2.1) ?_
      show Steps p.tables e below (s₁.setTop (mkF m 6 #[.val (.long q0), .second, .val (.long q1), .second] [])) _
      refine XS.lloadN X0.here hx rfl (hb hby d1_6) rfl ?_
      show Steps p.tables e below (s₁.setTop (mkF m 7 #[.val (.long q0), .second, .val (.long q1), .second] [(.long q0)])) _
      refine XS.goto X0.here hx rfl (pc0 := 7) (pc' := 11) rfl (hb hby d1_7) (by decide) (by decide) ?_
      show Steps p.tables e below (s₁.setTop (mkF m 11 #[.val (.long q0), .second, .val (.long q1), .second] [(.long q0)])) _
      exact k_
    obtain ⟨fs, hr, hrun, hended, hW, hsame⟩ := X0.leave (v := some (.long q0)) (fun h => by rw [Bd.returns] at h; cases h)
    refine own_at ?_ (hG _ _ ⟨hrun, hended, _, _, rfl, ?_, ⟨_, rfl⟩, hW, hsame.mono (by decide) (by decide)⟩)
    · show Steps p.tables e below (s₁.setTop (mkF m 11 #[.val (.long q0), .second, .val (.long q1), .second] [(.long q0)])) _
      exact X0.lreturnOut hx Bd.returns (hb hby d1_11) hr
    · show Q1 Z q0 q1 h0 n0 _ s₁.heap _
      rw [e0]
      exact ⟨by unfold own_min; rw [if_neg hc3], N0, rfl⟩
theorem d2_0 : decode jdk_29_method_66_code 0 = .ok (.lload_n 0, 1) := by decide +kernel
theorem d2_1 : decode jdk_29_method_66_code 1 = .ok (.lload_n 2, 1) := by decide +kernel
theorem d2_2 : decode jdk_29_method_66_code 2 = .ok (.lcmp, 1) := by decide +kernel
theorem d2_3 : decode jdk_29_method_66_code 3 = .ok (.ifCond .lt 7, 3) := by decide +kernel
theorem d2_6 : decode jdk_29_method_66_code 6 = .ok (.lload_n 0, 1) := by decide +kernel
theorem d2_7 : decode jdk_29_method_66_code 7 = .ok (.goto 4, 3) := by decide +kernel
theorem d2_10 : decode jdk_29_method_66_code 10 = .ok (.lload_n 2, 1) := by decide +kernel
theorem d2_11 : decode jdk_29_method_66_code 11 = .ok (.lreturn, 1) := by decide +kernel
theorem ef_rm2 (m : MethodId) (x0 : Int64) (x1 : Int64) : entryFrame m #[(.long x0), (.long x1)] 4 = mkF m 0 #[.val (.long x0), .second, .val (.long x1), .second] [] := by first | (simp [entryFrame, mkF, argsToLocals, Value.category]; done) | rfl
def Q2 (Z : State) (q0 : Int64) (q1 : Int64) (h0 : Heap) (n0 : Nat) (v : Option Value) (h : Heap) (L : List Loc) : Prop := v = some (.long (own_max q0 q1)) ∧ Fr n0 L ∧ h = h0
set_option maxRecDepth 65536 in
set_option maxHeartbeats 40000000 in
theorem rm2 (l : Launch) (Z : State) (a0 : Array Value) (hw : ∀ d ∈ tables_1, d.before a0 Z = true) (ws : List Jvm.Cond) (q0 : Int64) (q1 : Int64) (h0 : Heap) (n0 : Nat) (Z0 : n0 ≤ h0.size) :
    MetFree l (⟨"java/lang/Math", "max", "(JJ)J"⟩ : MethodName) (head1 (Jvm.Cond.code (⟨"java/lang/Math", "max", "(JJ)J"⟩ : MethodName) jdk_29_method_66_code 4 (some .long) :: ws) ({ frames := 0, cells := 0, slots := 0, locals := 0 } : Room)) (fun a U => a = #[(.long q0), (.long q1)] ∧ Z.Warmed39 U.vm ∧ U.heap = h0) (fun _ _ _ _ _ => True) (fun _ U o U' => ∃ v L, o = .returned v ∧ Q2 Z q0 q1 h0 n0 v U'.heap L ∧ FrameEnd U o U' L ({ frames := 0, cells := 0, slots := 0, locals := 0 } : Room).cells ({ frames := 0, cells := 0, slots := 0, locals := 0 } : Room).slots) := by
  refine MetFree.of_bodySF (Jvm.Free.JP.mathPlain rfl (by decide +kernel)) hisR ?_
  intro p e s m args below meth c s₁ Bd hml0 hP hK
  obtain ⟨rfl, hZ, hh⟩ := hP
  have hx := Bd.exec
  have hby := Bd.bytes
  have hml : c.maxLocals = 4 := hml0
  have hown : s.vm.findClass "java/lang/Math" = some m.cls := findClass_of_methodNamed Bd.named
  have hnm := (name_of_methodNamed Bd.named Bd.method).1
  have X0 : Stand p l e ({ frames := 0, cells := 0, slots := 0, locals := 0 } : Room) s m #[(.long q0), (.long q1)] below meth c s₁ [] 0 0 := Stand.of_body Bd
  have e0 : s₁.heap = h0 := by rw [← hh, Bd.state]; rfl
  have N0 := Fr.nil n0
  refine own_open fun G hG => ?_
  refine own_go (B := s₁.setTop (mkF m 0 #[.val (.long q0), .second, .val (.long q1), .second] [])) (fun t_ k_ => castTop (ef_rm2 m q0 q1) k_) ?_
  refine own_go (B := s₁.setTop (mkF m 3 #[.val (.long q0), .second, .val (.long q1), .second] [(.int (lcmpW q0 q1))])) (fun t_ k_ => ?_) ?_
  · show Steps p.tables e below (s₁.setTop (mkF m 0 #[.val (.long q0), .second, .val (.long q1), .second] [])) _
    refine XS.lloadN X0.here hx rfl (hb hby d2_0) rfl ?_
    show Steps p.tables e below (s₁.setTop (mkF m 1 #[.val (.long q0), .second, .val (.long q1), .second] [(.long q0)])) _
    refine XS.lloadN X0.here hx rfl (hb hby d2_1) rfl ?_
    show Steps p.tables e below (s₁.setTop (mkF m 2 #[.val (.long q0), .second, .val (.long q1), .second] [(.long q1), (.long q0)])) _
    refine XS.lcmp X0.here hx rfl (hb hby d2_2) rfl ?_
    show Steps p.tables e below (s₁.setTop (mkF m 3 #[.val (.long q0), .second, .val (.long q1), .second] [(.int (lcmpW q0 q1))])) _
    exact k_
  by_cases hc3 : q0 < q1
  · refine own_go (B := s₁.setTop (mkF m 11 #[.val (.long q0), .second, .val (.long q1), .second] [(.long q1)])) (fun t_ k_ => ?_) ?_
    · show Steps p.tables e below (s₁.setTop (mkF m 3 #[.val (.long q0), .second, .val (.long q1), .second] [(.int (lcmpW q0 q1))])) _
      refine XS.ifYes X0.here hx rfl (pc0 := 3) (pc' := 10) rfl (hb hby d2_3) rfl ((if0 _ _).trans (tlt ((lw_lt _ _).mpr hc3)).1) (by decide) (by decide) ?_
      show Steps p.tables e below (s₁.setTop (mkF m 10 #[.val (.long q0), .second, .val (.long q1), .second] [])) _
      refine XS.lloadN X0.here hx rfl (hb hby d2_10) rfl ?_
      show Steps p.tables e below (s₁.setTop (mkF m 11 #[.val (.long q0), .second, .val (.long q1), .second] [(.long q1)])) _
      exact k_
    obtain ⟨fs, hr, hrun, hended, hW, hsame⟩ := X0.leave (v := some (.long q1)) (fun h => by rw [Bd.returns] at h; cases h)
    refine own_at ?_ (hG _ _ ⟨hrun, hended, _, _, rfl, ?_, ⟨_, rfl⟩, hW, hsame.mono (by decide) (by decide)⟩)
    · show Steps p.tables e below (s₁.setTop (mkF m 11 #[.val (.long q0), .second, .val (.long q1), .second] [(.long q1)])) _
      exact X0.lreturnOut hx Bd.returns (hb hby d2_11) hr
    · show Q2 Z q0 q1 h0 n0 _ s₁.heap _
      rw [e0]
      exact ⟨by unfold own_max; rw [if_pos hc3], N0, rfl⟩
  · refine own_go (B := s₁.setTop (mkF m 11 #[.val (.long q0), .second, .val (.long q1), .second] [(.long q0)])) (fun t_ k_ => ?_) ?_
    · show Steps p.tables e below (s₁.setTop (mkF m 3 #[.val (.long q0), .second, .val (.long q1), .second] [(.int (lcmpW q0 q1))])) _
      refine XS.ifNo X0.here hx rfl (hb hby d2_3) rfl ((if0 _ _).trans (flt (mt (lw_lt _ _).mp hc3)).1) ?_
      show Steps p.tables e below (s₁.setTop (mkF m 6 #[.val (.long q0), .second, .val (.long q1), .second] [])) _
      refine XS.lloadN X0.here hx rfl (hb hby d2_6) rfl ?_
      show Steps p.tables e below (s₁.setTop (mkF m 7 #[.val (.long q0), .second, .val (.long q1), .second] [(.long q0)])) _
      refine XS.goto X0.here hx rfl (pc0 := 7) (pc' := 11) rfl (hb hby d2_7) (by decide) (by decide) ?_
      show Steps p.tables e below (s₁.setTop (mkF m 11 #[.val (.long q0), .second, .val (.long q1), .second] [(.long q0)])) _
      exact k_
    obtain ⟨fs, hr, hrun, hended, hW, hsame⟩ := X0.leave (v := some (.long q0)) (fun h => by rw [Bd.returns] at h; cases h)
    refine own_at ?_ (hG _ _ ⟨hrun, hended, _, _, rfl, ?_, ⟨_, rfl⟩, hW, hsame.mono (by decide) (by decide)⟩)
    · show Steps p.tables e below (s₁.setTop (mkF m 11 #[.val (.long q0), .second, .val (.long q1), .second] [(.long q0)])) _
      exact X0.lreturnOut hx Bd.returns (hb hby d2_11) hr
    · show Q2 Z q0 q1 h0 n0 _ s₁.heap _
      rw [e0]
      exact ⟨by unfold own_max; rw [if_neg hc3], N0, rfl⟩
theorem d3_0 : decode prog_18_method_3_code 0 = .ok (.lload_n 2, 1) := by decide +kernel
theorem d3_1 : decode prog_18_method_3_code 1 = .ok (.lload_n 0, 1) := by decide +kernel
theorem d3_2 : decode prog_18_method_3_code 2 = .ok (.lsub, 1) := by decide +kernel
theorem d3_3 : decode prog_18_method_3_code 3 = .ok (.lstore 4, 2) := by decide +kernel
theorem d3_5 : decode prog_18_method_3_code 5 = .ok (.lload 4, 2) := by decide +kernel
theorem d3_7 : decode prog_18_method_3_code 7 = .ok (.lconst 0, 1) := by decide +kernel
theorem d3_8 : decode prog_18_method_3_code 8 = .ok (.lcmp, 1) := by decide +kernel
theorem d3_9 : decode prog_18_method_3_code 9 = .ok (.ifCond .lt 11, 3) := by decide +kernel
theorem d3_12 : decode prog_18_method_3_code 12 = .ok (.lload_n 2, 1) := by decide +kernel
theorem d3_13 : decode prog_18_method_3_code 13 = .ok (.ldc2_w 25, 3) := by decide +kernel
theorem d3_16 : decode prog_18_method_3_code 16 = .ok (.lcmp, 1) := by decide +kernel
theorem d3_17 : decode prog_18_method_3_code 17 = .ok (.ifCond .ne 8, 3) := by decide +kernel
theorem d3_20 : decode prog_18_method_3_code 20 = .ok (.ldc2_w 25, 3) := by decide +kernel
theorem d3_23 : decode prog_18_method_3_code 23 = .ok (.lstore 4, 2) := by decide +kernel
theorem d3_25 : decode prog_18_method_3_code 25 = .ok (.lload 4, 2) := by decide +kernel
theorem d3_27 : decode prog_18_method_3_code 27 = .ok (.lreturn, 1) := by decide +kernel
theorem pn_3 : plainName "com/example/adfair/adfair/Limits" = true := by first | (simp [plainName, overriddenIn]; done) | decide +kernel
theorem ef_rm3 (m : MethodId) (x0 : Int64) (x1 : Int64) : entryFrame m #[(.long x0), (.long x1)] 6 = mkF m 0 #[.val (.long x0), .second, .val (.long x1), .second, .unset, .unset] [] := by first | (simp [entryFrame, mkF, argsToLocals, Value.category]; done) | rfl
def Q3 (Z : State) (q0 : Int64) (q1 : Int64) (h0 : Heap) (n0 : Nat) (v : Option Value) (h : Heap) (L : List Loc) : Prop := v = some (.long (own_le q0 q1)) ∧ Fr n0 L ∧ h = h0
set_option maxRecDepth 65536 in
set_option maxHeartbeats 40000000 in
theorem rm3 (l : Launch) (Z : State) (a0 : Array Value) (hw : ∀ d ∈ tables_1, d.before a0 Z = true) (ws : List Jvm.Cond) (q0 : Int64) (q1 : Int64) (h0 : Heap) (n0 : Nat) (Z0 : n0 ≤ h0.size) :
    MetFree l (⟨"com/example/adfair/adfair/Limits", "longestEndingBy", "(JJ)J"⟩ : MethodName) (head1 (Jvm.Cond.code (⟨"com/example/adfair/adfair/Limits", "longestEndingBy", "(JJ)J"⟩ : MethodName) prog_18_method_3_code 6 (some .long) :: ws) ({ frames := 0, cells := 0, slots := 0, locals := 0 } : Room)) (fun a U => a = #[(.long q0), (.long q1)] ∧ Z.Warmed39 U.vm ∧ U.heap = h0) (fun _ _ _ _ _ => True) (fun _ U o U' => ∃ v L, o = .returned v ∧ Q3 Z q0 q1 h0 n0 v U'.heap L ∧ FrameEnd U o U' L ({ frames := 0, cells := 0, slots := 0, locals := 0 } : Room).cells ({ frames := 0, cells := 0, slots := 0, locals := 0 } : Room).slots) := by
  refine MetFree.of_bodySF (plainFor_of_name pn_3) hisR ?_
  intro p e s m args below meth c s₁ Bd hml0 hP hK
  obtain ⟨rfl, hZ, hh⟩ := hP
  have hx := Bd.exec
  have hby := Bd.bytes
  have hml : c.maxLocals = 6 := hml0
  have hown : s.vm.findClass "com/example/adfair/adfair/Limits" = some m.cls := findClass_of_methodNamed Bd.named
  have hnm := (name_of_methodNamed Bd.named Bd.method).1
  have X0 : Stand p l e ({ frames := 0, cells := 0, slots := 0, locals := 0 } : Room) s m #[(.long q0), (.long q1)] below meth c s₁ [] 0 0 := Stand.of_body Bd
  have e0 : s₁.heap = h0 := by rw [← hh, Bd.state]; rfl
  have N0 := Fr.nil n0
  refine own_open fun G hG => ?_
  refine own_go (B := s₁.setTop (mkF m 0 #[.val (.long q0), .second, .val (.long q1), .second, .unset, .unset] [])) (fun t_ k_ => castTop (ef_rm3 m q0 q1) k_) ?_
  refine own_go (B := s₁.setTop (mkF m 9 #[.val (.long q0), .second, .val (.long q1), .second, .val (.long (q1 - q0)), .second] [(.int (lcmpW (q1 - q0) (0 : Int64)))])) (fun t_ k_ => ?_) ?_
  · show Steps p.tables e below (s₁.setTop (mkF m 0 #[.val (.long q0), .second, .val (.long q1), .second, .unset, .unset] [])) _
    refine XS.lloadN X0.here hx rfl (hb hby d3_0) rfl ?_
    show Steps p.tables e below (s₁.setTop (mkF m 1 #[.val (.long q0), .second, .val (.long q1), .second, .unset, .unset] [(.long q1)])) _
    refine XS.lloadN X0.here hx rfl (hb hby d3_1) rfl ?_
    show Steps p.tables e below (s₁.setTop (mkF m 2 #[.val (.long q0), .second, .val (.long q1), .second, .unset, .unset] [(.long q0), (.long q1)])) _
    refine XS.lsub X0.here hx rfl (hb hby d3_2) rfl ?_
    show Steps p.tables e below (s₁.setTop (mkF m 3 #[.val (.long q0), .second, .val (.long q1), .second, .unset, .unset] [(.long (q1 - q0))])) _
    refine XS.lstore X0.here hx rfl (hb hby d3_3) rfl (l' := #[.val (.long q0), .second, .val (.long q1), .second, .val (.long (q1 - q0)), .second]) rfl ?_
    show Steps p.tables e below (s₁.setTop (mkF m 5 #[.val (.long q0), .second, .val (.long q1), .second, .val (.long (q1 - q0)), .second] [])) _
    refine XS.lload X0.here hx rfl (hb hby d3_5) rfl ?_
    show Steps p.tables e below (s₁.setTop (mkF m 7 #[.val (.long q0), .second, .val (.long q1), .second, .val (.long (q1 - q0)), .second] [(.long (q1 - q0))])) _
    refine XS.lconst X0.here hx rfl (hb hby d3_7) ?_
    show Steps p.tables e below (s₁.setTop (mkF m 8 #[.val (.long q0), .second, .val (.long q1), .second, .val (.long (q1 - q0)), .second] [(.long (0 : Int64)), (.long (q1 - q0))])) _
    refine XS.lcmp X0.here hx rfl (hb hby d3_8) rfl ?_
    show Steps p.tables e below (s₁.setTop (mkF m 9 #[.val (.long q0), .second, .val (.long q1), .second, .val (.long (q1 - q0)), .second] [(.int (lcmpW (q1 - q0) (0 : Int64)))])) _
    exact k_
  by_cases hc9 : (q1 - q0) < (0 : Int64)
  · refine own_go (B := s₁.setTop (mkF m 27 #[.val (.long q0), .second, .val (.long q1), .second, .val (.long (9223372036854775807 : Int64)), .second] [(.long (9223372036854775807 : Int64))])) (fun t_ k_ => ?_) ?_
    · show Steps p.tables e below (s₁.setTop (mkF m 9 #[.val (.long q0), .second, .val (.long q1), .second, .val (.long (q1 - q0)), .second] [(.int (lcmpW (q1 - q0) (0 : Int64)))])) _
      refine XS.ifYes X0.here hx rfl (pc0 := 9) (pc' := 20) rfl (hb hby d3_9) rfl ((if0 _ _).trans (tlt ((lw_lt _ _).mpr hc9)).1) (by decide) (by decide) ?_
      show Steps p.tables e below (s₁.setTop (mkF m 20 #[.val (.long q0), .second, .val (.long q1), .second, .val (.long (q1 - q0)), .second] [])) _
      refine X0.ldc2Long hx hown (mvT hZ (hw _ (List.mem_of_getElem? (i := 12) rfl))) (g := (mkF m 20 #[.val (.long q0), .second, .val (.long q1), .second, .val (.long (q1 - q0)), .second] [])) rfl (hb hby d3_20) _ ?_
      show Steps p.tables e below (s₁.setTop (mkF m 23 #[.val (.long q0), .second, .val (.long q1), .second, .val (.long (q1 - q0)), .second] [(.long (9223372036854775807 : Int64))])) _
      refine XS.lstore X0.here hx rfl (hb hby d3_23) rfl (l' := #[.val (.long q0), .second, .val (.long q1), .second, .val (.long (9223372036854775807 : Int64)), .second]) rfl ?_
      show Steps p.tables e below (s₁.setTop (mkF m 25 #[.val (.long q0), .second, .val (.long q1), .second, .val (.long (9223372036854775807 : Int64)), .second] [])) _
      refine XS.lload X0.here hx rfl (hb hby d3_25) rfl ?_
      show Steps p.tables e below (s₁.setTop (mkF m 27 #[.val (.long q0), .second, .val (.long q1), .second, .val (.long (9223372036854775807 : Int64)), .second] [(.long (9223372036854775807 : Int64))])) _
      exact k_
    obtain ⟨fs, hr, hrun, hended, hW, hsame⟩ := X0.leave (v := some (.long (9223372036854775807 : Int64))) (fun h => by rw [Bd.returns] at h; cases h)
    refine own_at ?_ (hG _ _ ⟨hrun, hended, _, _, rfl, ?_, ⟨_, rfl⟩, hW, hsame.mono (by decide) (by decide)⟩)
    · show Steps p.tables e below (s₁.setTop (mkF m 27 #[.val (.long q0), .second, .val (.long q1), .second, .val (.long (9223372036854775807 : Int64)), .second] [(.long (9223372036854775807 : Int64))])) _
      exact X0.lreturnOut hx Bd.returns (hb hby d3_27) hr
    · show Q3 Z q0 q1 h0 n0 _ s₁.heap _
      rw [e0]
      exact ⟨by unfold own_le; rw [if_pos hc9], N0, rfl⟩
  · refine own_go (B := s₁.setTop (mkF m 17 #[.val (.long q0), .second, .val (.long q1), .second, .val (.long (q1 - q0)), .second] [(.int (lcmpW q1 (9223372036854775807 : Int64)))])) (fun t_ k_ => ?_) ?_
    · show Steps p.tables e below (s₁.setTop (mkF m 9 #[.val (.long q0), .second, .val (.long q1), .second, .val (.long (q1 - q0)), .second] [(.int (lcmpW (q1 - q0) (0 : Int64)))])) _
      refine XS.ifNo X0.here hx rfl (hb hby d3_9) rfl ((if0 _ _).trans (flt (mt (lw_lt _ _).mp hc9)).1) ?_
      show Steps p.tables e below (s₁.setTop (mkF m 12 #[.val (.long q0), .second, .val (.long q1), .second, .val (.long (q1 - q0)), .second] [])) _
      refine XS.lloadN X0.here hx rfl (hb hby d3_12) rfl ?_
      show Steps p.tables e below (s₁.setTop (mkF m 13 #[.val (.long q0), .second, .val (.long q1), .second, .val (.long (q1 - q0)), .second] [(.long q1)])) _
      refine X0.ldc2Long hx hown (mvT hZ (hw _ (List.mem_of_getElem? (i := 12) rfl))) (g := (mkF m 13 #[.val (.long q0), .second, .val (.long q1), .second, .val (.long (q1 - q0)), .second] [(.long q1)])) rfl (hb hby d3_13) _ ?_
      show Steps p.tables e below (s₁.setTop (mkF m 16 #[.val (.long q0), .second, .val (.long q1), .second, .val (.long (q1 - q0)), .second] [(.long (9223372036854775807 : Int64)), (.long q1)])) _
      refine XS.lcmp X0.here hx rfl (hb hby d3_16) rfl ?_
      show Steps p.tables e below (s₁.setTop (mkF m 17 #[.val (.long q0), .second, .val (.long q1), .second, .val (.long (q1 - q0)), .second] [(.int (lcmpW q1 (9223372036854775807 : Int64)))])) _
      exact k_
    by_cases hc17 : q1 = (9223372036854775807 : Int64)
    · refine own_go (B := s₁.setTop (mkF m 27 #[.val (.long q0), .second, .val (.long q1), .second, .val (.long (9223372036854775807 : Int64)), .second] [(.long (9223372036854775807 : Int64))])) (fun t_ k_ => ?_) ?_
      · show Steps p.tables e below (s₁.setTop (mkF m 17 #[.val (.long q0), .second, .val (.long q1), .second, .val (.long (q1 - q0)), .second] [(.int (lcmpW q1 (9223372036854775807 : Int64)))])) _
        refine XS.ifNo X0.here hx rfl (hb hby d3_17) rfl ((if0 _ _).trans (teq ((lw_eq _ _).mpr hc17)).2) ?_
        show Steps p.tables e below (s₁.setTop (mkF m 20 #[.val (.long q0), .second, .val (.long q1), .second, .val (.long (q1 - q0)), .second] [])) _
        refine X0.ldc2Long hx hown (mvT hZ (hw _ (List.mem_of_getElem? (i := 12) rfl))) (g := (mkF m 20 #[.val (.long q0), .second, .val (.long q1), .second, .val (.long (q1 - q0)), .second] [])) rfl (hb hby d3_20) _ ?_
        show Steps p.tables e below (s₁.setTop (mkF m 23 #[.val (.long q0), .second, .val (.long q1), .second, .val (.long (q1 - q0)), .second] [(.long (9223372036854775807 : Int64))])) _
        refine XS.lstore X0.here hx rfl (hb hby d3_23) rfl (l' := #[.val (.long q0), .second, .val (.long q1), .second, .val (.long (9223372036854775807 : Int64)), .second]) rfl ?_
        show Steps p.tables e below (s₁.setTop (mkF m 25 #[.val (.long q0), .second, .val (.long q1), .second, .val (.long (9223372036854775807 : Int64)), .second] [])) _
        refine XS.lload X0.here hx rfl (hb hby d3_25) rfl ?_
        show Steps p.tables e below (s₁.setTop (mkF m 27 #[.val (.long q0), .second, .val (.long q1), .second, .val (.long (9223372036854775807 : Int64)), .second] [(.long (9223372036854775807 : Int64))])) _
        exact k_
      obtain ⟨fs, hr, hrun, hended, hW, hsame⟩ := X0.leave (v := some (.long (9223372036854775807 : Int64))) (fun h => by rw [Bd.returns] at h; cases h)
      refine own_at ?_ (hG _ _ ⟨hrun, hended, _, _, rfl, ?_, ⟨_, rfl⟩, hW, hsame.mono (by decide) (by decide)⟩)
      · show Steps p.tables e below (s₁.setTop (mkF m 27 #[.val (.long q0), .second, .val (.long q1), .second, .val (.long (9223372036854775807 : Int64)), .second] [(.long (9223372036854775807 : Int64))])) _
        exact X0.lreturnOut hx Bd.returns (hb hby d3_27) hr
      · show Q3 Z q0 q1 h0 n0 _ s₁.heap _
        rw [e0]
        exact ⟨by unfold own_le; rw [if_neg hc9, if_pos hc17], N0, rfl⟩
    · refine own_go (B := s₁.setTop (mkF m 27 #[.val (.long q0), .second, .val (.long q1), .second, .val (.long (q1 - q0)), .second] [(.long (q1 - q0))])) (fun t_ k_ => ?_) ?_
      · show Steps p.tables e below (s₁.setTop (mkF m 17 #[.val (.long q0), .second, .val (.long q1), .second, .val (.long (q1 - q0)), .second] [(.int (lcmpW q1 (9223372036854775807 : Int64)))])) _
        refine XS.ifYes X0.here hx rfl (pc0 := 17) (pc' := 25) rfl (hb hby d3_17) rfl ((if0 _ _).trans (feq (mt (lw_eq _ _).mp hc17)).2) (by decide) (by decide) ?_
        show Steps p.tables e below (s₁.setTop (mkF m 25 #[.val (.long q0), .second, .val (.long q1), .second, .val (.long (q1 - q0)), .second] [])) _
        refine XS.lload X0.here hx rfl (hb hby d3_25) rfl ?_
        show Steps p.tables e below (s₁.setTop (mkF m 27 #[.val (.long q0), .second, .val (.long q1), .second, .val (.long (q1 - q0)), .second] [(.long (q1 - q0))])) _
        exact k_
      obtain ⟨fs, hr, hrun, hended, hW, hsame⟩ := X0.leave (v := some (.long (q1 - q0))) (fun h => by rw [Bd.returns] at h; cases h)
      refine own_at ?_ (hG _ _ ⟨hrun, hended, _, _, rfl, ?_, ⟨_, rfl⟩, hW, hsame.mono (by decide) (by decide)⟩)
      · show Steps p.tables e below (s₁.setTop (mkF m 27 #[.val (.long q0), .second, .val (.long q1), .second, .val (.long (q1 - q0)), .second] [(.long (q1 - q0))])) _
        exact X0.lreturnOut hx Bd.returns (hb hby d3_27) hr
      · show Q3 Z q0 q1 h0 n0 _ s₁.heap _
        rw [e0]
        exact ⟨by unfold own_le; rw [if_neg hc9, if_neg hc17], N0, rfl⟩
theorem pn_0 : plainName "com/example/adfair/adfair/LimitsLongestEndingByPinLaw" = true := by first | (simp [plainName, overriddenIn]; done) | decide +kernel
theorem ef_rm0 (m : MethodId) (x0 : Int64) (x1 : Int64) (x2 : Int32) : entryFrame m #[(.long x0), (.long x1), (.int x2)] maxLocals = mkF m 0 #[.val (.long x0), .second, .val (.long x1), .second, .val (.int x2), .unset, .unset, .unset, .unset, .unset, .unset, .unset, .unset, .unset] [] := by first | (simp [entryFrame, mkF, argsToLocals, Value.category, maxLocals]; done) | rfl
def Q0 (Z : State) (q0 : Int64) (q1 : Int64) (p2 : Int32) (h0 : Heap) (n0 : Nat) (v : Option Value) (h : Heap) (L : List Loc) : Prop := v = some (.int 1) ∧ Fr n0 L
set_option maxRecDepth 65536 in
set_option maxHeartbeats 40000000 in
theorem rm0 (l : Launch) (Z : State) (a0 : Array Value) (hw : ∀ d ∈ tables_1, d.before a0 Z = true) (ws : List Jvm.Cond) (q0 : Int64) (q1 : Int64) (p2 : Int32) (h0 : Heap) (n0 : Nat) (Z0 : n0 ≤ h0.size) :
    MetFree l x (head1 (Jvm.Cond.code x code maxLocals ret :: ws) room_1) (fun a U => a = #[(.long q0), (.long q1), (.int p2)] ∧ Z.Warmed39 U.vm ∧ U.heap = h0) (fun _ _ _ _ _ => True) (fun _ U o U' => ∃ v L, o = .returned v ∧ Q0 Z q0 q1 p2 h0 n0 v U'.heap L ∧ FrameEnd U o U' L room_1.cells room_1.slots) := by
  refine MetFree.of_bodySF (plainFor_of_name pn_0) hisR ?_
  intro p e s m args below meth c s₁ Bd hml0 hP hK
  obtain ⟨rfl, hZ, hh⟩ := hP
  have hx := Bd.exec
  have hby := Bd.bytes
  have hml : c.maxLocals = 14 := hml0
  have hown : s.vm.findClass "com/example/adfair/adfair/LimitsLongestEndingByPinLaw" = some m.cls := findClass_of_methodNamed Bd.named
  have hnm := (name_of_methodNamed Bd.named Bd.method).1
  have X0 : Stand p l e room_1 s m #[(.long q0), (.long q1), (.int p2)] below meth c s₁ [] 0 0 := Stand.of_body Bd
  have e0 : s₁.heap = h0 := by rw [← hh, Bd.state]; rfl
  have N0 := Fr.nil n0
  refine own_open fun G hG => ?_
  refine own_go (B := s₁.setTop (mkF m 0 #[.val (.long q0), .second, .val (.long q1), .second, .val (.int p2), .unset, .unset, .unset, .unset, .unset, .unset, .unset, .unset, .unset] [])) (fun t_ k_ => castTop (ef_rm0 m q0 q1 p2) k_) ?_
  refine own_go (B := s₁.setTop (mkF m 2 #[.val (.long q0), .second, .val (.long q1), .second, .val (.int p2), .unset, .unset, .unset, .unset, .unset, .unset, .unset, .unset, .unset] [(.long q1), (.long q0)])) (fun t_ k_ => ?_) ?_
  · show Steps p.tables e below (s₁.setTop (mkF m 0 #[.val (.long q0), .second, .val (.long q1), .second, .val (.int p2), .unset, .unset, .unset, .unset, .unset, .unset, .unset, .unset, .unset] [])) _
    refine XS.lloadN X0.here hx rfl (hb hby at_0) rfl ?_
    show Steps p.tables e below (s₁.setTop (mkF m 1 #[.val (.long q0), .second, .val (.long q1), .second, .val (.int p2), .unset, .unset, .unset, .unset, .unset, .unset, .unset, .unset, .unset] [(.long q0)])) _
    refine XS.lloadN X0.here hx rfl (hb hby at_1) rfl ?_
    show Steps p.tables e below (s₁.setTop (mkF m 2 #[.val (.long q0), .second, .val (.long q1), .second, .val (.int p2), .unset, .unset, .unset, .unset, .unset, .unset, .unset, .unset, .unset] [(.long q1), (.long q0)])) _
    exact k_
  obtain ⟨_, _, ⟨T8, L8, k8, n8⟩, -, X8, ⟨Lc8, hQ8, l8, y8, z8⟩, st8⟩ := Jvm.LawKit.callS X0 hx (y := (⟨"java/lang/Math", "min", "(JJ)J"⟩ : MethodName)) hown (mvT hZ (hw _ (List.mem_of_getElem? (i := 0) rfl))) (mvT hZ (hw _ (List.mem_of_getElem? (i := 1) rfl))) (mvT hZ (hw _ (List.mem_of_getElem? (i := 2) rfl))) (mvT hZ (hw _ (List.mem_of_getElem? (i := 3) rfl))) (by decide) (backOf (W := 0) (rm1 l Z a0 hw [] q0 q1 h0 n0 Z0) hZ (hw _ (List.mem_of_getElem? (i := 3) rfl)) (hw _ (List.mem_of_getElem? (i := 2) rfl)) (by decide) (by decide)) (g := (mkF m 2 #[.val (.long q0), .second, .val (.long q1), .second, .val (.int p2), .unset, .unset, .unset, .unset, .unset, .unset, .unset, .unset, .unset] [(.long q1), (.long q0)])) rfl (by rw [hml]; rfl) (argsL := [(.long q0), (.long q1)]) (rest := []) (lenOf pd__28_JJ_29_J rfl) rfl (by show 2 * 0 + _ ≤ _; exact Nat.le_of_eq rfl) (hb hby at_2) (fun _ _ => ⟨rfl, e0, (by decide : 0 + 0 ≤ _), (by decide : 0 + 0 ≤ _)⟩)
  dsimp only [Pt.U, Pt.locs, Pt.cells, Pt.slots] at X8 l8 y8 z8 st8 hQ8
  subst l8 y8 z8
  obtain ⟨rfl, N8q, e8q⟩ := hQ8
  have N8 := Fr.app N0 N8q
  refine own_go (B := T8.setTop (mkF m 5 #[.val (.long q0), .second, .val (.long q1), .second, .val (.int p2), .unset, .unset, .unset, .unset, .unset, .unset, .unset, .unset, .unset] [(.long (own_min q0 q1))])) (fun t_ k_ => st8 _ k_) ?_
  refine own_go (B := T8.setTop (mkF m 9 #[.val (.long q0), .second, .val (.long q1), .second, .val (.int p2), .val (.long (own_min q0 q1)), .second, .unset, .unset, .unset, .unset, .unset, .unset, .unset] [(.long q1), (.long q0)])) (fun t_ k_ => ?_) ?_
  · show Steps p.tables e below (T8.setTop (mkF m 5 #[.val (.long q0), .second, .val (.long q1), .second, .val (.int p2), .unset, .unset, .unset, .unset, .unset, .unset, .unset, .unset, .unset] [(.long (own_min q0 q1))])) _
    refine XS.lstore X8.here hx rfl (hb hby at_5) rfl (l' := #[.val (.long q0), .second, .val (.long q1), .second, .val (.int p2), .val (.long (own_min q0 q1)), .second, .unset, .unset, .unset, .unset, .unset, .unset, .unset]) rfl ?_
    show Steps p.tables e below (T8.setTop (mkF m 7 #[.val (.long q0), .second, .val (.long q1), .second, .val (.int p2), .val (.long (own_min q0 q1)), .second, .unset, .unset, .unset, .unset, .unset, .unset, .unset] [])) _
    refine XS.lloadN X8.here hx rfl (hb hby at_7) rfl ?_
    show Steps p.tables e below (T8.setTop (mkF m 8 #[.val (.long q0), .second, .val (.long q1), .second, .val (.int p2), .val (.long (own_min q0 q1)), .second, .unset, .unset, .unset, .unset, .unset, .unset, .unset] [(.long q0)])) _
    refine XS.lloadN X8.here hx rfl (hb hby at_8) rfl ?_
    show Steps p.tables e below (T8.setTop (mkF m 9 #[.val (.long q0), .second, .val (.long q1), .second, .val (.int p2), .val (.long (own_min q0 q1)), .second, .unset, .unset, .unset, .unset, .unset, .unset, .unset] [(.long q1), (.long q0)])) _
    exact k_
  obtain ⟨_, _, ⟨T9, L9, k9, n9⟩, -, X9, ⟨Lc9, hQ9, l9, y9, z9⟩, st9⟩ := Jvm.LawKit.callS X8 hx (y := (⟨"java/lang/Math", "max", "(JJ)J"⟩ : MethodName)) hown (mvT hZ (hw _ (List.mem_of_getElem? (i := 4) rfl))) (mvT hZ (hw _ (List.mem_of_getElem? (i := 5) rfl))) (mvT hZ (hw _ (List.mem_of_getElem? (i := 2) rfl))) (mvT hZ (hw _ (List.mem_of_getElem? (i := 6) rfl))) (by decide) (backOf (W := 0) (rm2 l Z a0 hw [] q0 q1 h0 n0 Z0) hZ (hw _ (List.mem_of_getElem? (i := 6) rfl)) (hw _ (List.mem_of_getElem? (i := 2) rfl)) (by decide) (by decide)) (g := (mkF m 9 #[.val (.long q0), .second, .val (.long q1), .second, .val (.int p2), .val (.long (own_min q0 q1)), .second, .unset, .unset, .unset, .unset, .unset, .unset, .unset] [(.long q1), (.long q0)])) rfl (by rw [hml]; rfl) (argsL := [(.long q0), (.long q1)]) (rest := []) (lenOf pd__28_JJ_29_J rfl) rfl (by show 2 * 0 + _ ≤ _; exact Nat.le_of_eq rfl) (hb hby at_9) (fun _ _ => ⟨rfl, e8q, (by decide : 0 + 0 ≤ _), (by decide : 0 + 0 ≤ _)⟩)
  dsimp only [Pt.U, Pt.locs, Pt.cells, Pt.slots] at X9 l9 y9 z9 st9 hQ9
  subst l9 y9 z9
  obtain ⟨rfl, N9q, e9q⟩ := hQ9
  have N9 := Fr.app N8 N9q
  refine own_go (B := T9.setTop (mkF m 12 #[.val (.long q0), .second, .val (.long q1), .second, .val (.int p2), .val (.long (own_min q0 q1)), .second, .unset, .unset, .unset, .unset, .unset, .unset, .unset] [(.long (own_max q0 q1))])) (fun t_ k_ => st9 _ k_) ?_
  refine own_go (B := T9.setTop (mkF m 14 #[.val (.long q0), .second, .val (.long q1), .second, .val (.int p2), .val (.long (own_min q0 q1)), .second, .val (.long (own_max q0 q1)), .second, .unset, .unset, .unset, .unset, .unset] [])) (fun t_ k_ => ?_) ?_
  · show Steps p.tables e below (T9.setTop (mkF m 12 #[.val (.long q0), .second, .val (.long q1), .second, .val (.int p2), .val (.long (own_min q0 q1)), .second, .unset, .unset, .unset, .unset, .unset, .unset, .unset] [(.long (own_max q0 q1))])) _
    refine XS.lstore X9.here hx rfl (hb hby at_12) rfl (l' := #[.val (.long q0), .second, .val (.long q1), .second, .val (.int p2), .val (.long (own_min q0 q1)), .second, .val (.long (own_max q0 q1)), .second, .unset, .unset, .unset, .unset, .unset]) rfl ?_
    show Steps p.tables e below (T9.setTop (mkF m 14 #[.val (.long q0), .second, .val (.long q1), .second, .val (.int p2), .val (.long (own_min q0 q1)), .second, .val (.long (own_max q0 q1)), .second, .unset, .unset, .unset, .unset, .unset] [])) _
    exact k_
  have K58 : ∀ (S B : Int64) (M : Int32), S.toInt ≤ B.toInt → own_R p.tables e below G (T9.setTop (mkF m 58 #[.val (.long q0), .second, .val (.long q1), .second, .val (.int p2), .val (.long S), .second, .val (.long B), .second, .val (.int M), .unset, .unset, .unset, .unset] [])) := by
    intro S B M hSB
    refine own_go (B := T9.setTop (mkF m 64 #[.val (.long q0), .second, .val (.long q1), .second, .val (.int p2), .val (.long S), .second, .val (.long B), .second, .val (.int M), .unset, .unset, .unset, .unset] [(.int (lcmpW B (9223372036854775807 : Int64)))])) (fun t_ k_ => ?_) ?_
    · show Steps p.tables e below (T9.setTop (mkF m 58 #[.val (.long q0), .second, .val (.long q1), .second, .val (.int p2), .val (.long S), .second, .val (.long B), .second, .val (.int M), .unset, .unset, .unset, .unset] [])) _
      refine XS.lload X9.here hx rfl (hb hby at_58) rfl ?_
      show Steps p.tables e below (T9.setTop (mkF m 60 #[.val (.long q0), .second, .val (.long q1), .second, .val (.int p2), .val (.long S), .second, .val (.long B), .second, .val (.int M), .unset, .unset, .unset, .unset] [(.long B)])) _
      refine X9.ldc2Long hx hown (mvT hZ (hw _ (List.mem_of_getElem? (i := 7) rfl))) (g := (mkF m 60 #[.val (.long q0), .second, .val (.long q1), .second, .val (.int p2), .val (.long S), .second, .val (.long B), .second, .val (.int M), .unset, .unset, .unset, .unset] [(.long B)])) rfl (hb hby at_60) _ ?_
      show Steps p.tables e below (T9.setTop (mkF m 63 #[.val (.long q0), .second, .val (.long q1), .second, .val (.int p2), .val (.long S), .second, .val (.long B), .second, .val (.int M), .unset, .unset, .unset, .unset] [(.long (9223372036854775807 : Int64)), (.long B)])) _
      refine XS.lcmp X9.here hx rfl (hb hby at_63) rfl ?_
      show Steps p.tables e below (T9.setTop (mkF m 64 #[.val (.long q0), .second, .val (.long q1), .second, .val (.int p2), .val (.long S), .second, .val (.long B), .second, .val (.int M), .unset, .unset, .unset, .unset] [(.int (lcmpW B (9223372036854775807 : Int64)))])) _
      exact k_
    by_cases hc64 : B = (9223372036854775807 : Int64)
    · refine own_go (B := T9.setTop (mkF m 113 #[.val (.long q0), .second, .val (.long q1), .second, .val (.int p2), .val (.long S), .second, .val (.long B), .second, .val (.int M), .val (.long (9223372036854775807 : Int64)), .second, .unset, .unset] [(.long B), (.long S)])) (fun t_ k_ => ?_) ?_
      · show Steps p.tables e below (T9.setTop (mkF m 64 #[.val (.long q0), .second, .val (.long q1), .second, .val (.int p2), .val (.long S), .second, .val (.long B), .second, .val (.int M), .unset, .unset, .unset, .unset] [(.int (lcmpW B (9223372036854775807 : Int64)))])) _
        refine XS.ifNo X9.here hx rfl (hb hby at_64) rfl ((if0 _ _).trans (teq ((lw_eq _ _).mpr hc64)).2) ?_
        show Steps p.tables e below (T9.setTop (mkF m 67 #[.val (.long q0), .second, .val (.long q1), .second, .val (.int p2), .val (.long S), .second, .val (.long B), .second, .val (.int M), .unset, .unset, .unset, .unset] [])) _
        refine X9.ldc2Long hx hown (mvT hZ (hw _ (List.mem_of_getElem? (i := 7) rfl))) (g := (mkF m 67 #[.val (.long q0), .second, .val (.long q1), .second, .val (.int p2), .val (.long S), .second, .val (.long B), .second, .val (.int M), .unset, .unset, .unset, .unset] [])) rfl (hb hby at_67) _ ?_
        show Steps p.tables e below (T9.setTop (mkF m 70 #[.val (.long q0), .second, .val (.long q1), .second, .val (.int p2), .val (.long S), .second, .val (.long B), .second, .val (.int M), .unset, .unset, .unset, .unset] [(.long (9223372036854775807 : Int64))])) _
        refine XS.lstore X9.here hx rfl (hb hby at_70) rfl (l' := #[.val (.long q0), .second, .val (.long q1), .second, .val (.int p2), .val (.long S), .second, .val (.long B), .second, .val (.int M), .val (.long (9223372036854775807 : Int64)), .second, .unset, .unset]) rfl ?_
        show Steps p.tables e below (T9.setTop (mkF m 72 #[.val (.long q0), .second, .val (.long q1), .second, .val (.int p2), .val (.long S), .second, .val (.long B), .second, .val (.int M), .val (.long (9223372036854775807 : Int64)), .second, .unset, .unset] [])) _
        refine XS.goto X9.here hx rfl (pc0 := 72) (pc' := 109) rfl (hb hby at_72) (by decide) (by decide) ?_
        show Steps p.tables e below (T9.setTop (mkF m 109 #[.val (.long q0), .second, .val (.long q1), .second, .val (.int p2), .val (.long S), .second, .val (.long B), .second, .val (.int M), .val (.long (9223372036854775807 : Int64)), .second, .unset, .unset] [])) _
        refine XS.lload X9.here hx rfl (hb hby at_109) rfl ?_
        show Steps p.tables e below (T9.setTop (mkF m 111 #[.val (.long q0), .second, .val (.long q1), .second, .val (.int p2), .val (.long S), .second, .val (.long B), .second, .val (.int M), .val (.long (9223372036854775807 : Int64)), .second, .unset, .unset] [(.long S)])) _
        refine XS.lload X9.here hx rfl (hb hby at_111) rfl ?_
        show Steps p.tables e below (T9.setTop (mkF m 113 #[.val (.long q0), .second, .val (.long q1), .second, .val (.int p2), .val (.long S), .second, .val (.long B), .second, .val (.int M), .val (.long (9223372036854775807 : Int64)), .second, .unset, .unset] [(.long B), (.long S)])) _
        exact k_
      obtain ⟨_, _, ⟨T10, L10, k10, n10⟩, -, X10, ⟨Lc10, hQ10, l10, y10, z10⟩, st10⟩ := Jvm.LawKit.callS X9 hx (y := (⟨"com/example/adfair/adfair/Limits", "longestEndingBy", "(JJ)J"⟩ : MethodName)) hown (mvT hZ (hw _ (List.mem_of_getElem? (i := 8) rfl))) (mvT hZ (hw _ (List.mem_of_getElem? (i := 9) rfl))) (mvT hZ (hw _ (List.mem_of_getElem? (i := 10) rfl))) (mvT hZ (hw _ (List.mem_of_getElem? (i := 11) rfl))) (by decide) (backOf (W := 0) (rm3 l Z a0 hw [] S B h0 n0 Z0) hZ (hw _ (List.mem_of_getElem? (i := 11) rfl)) (hw _ (List.mem_of_getElem? (i := 10) rfl)) (by decide) (by decide)) (g := (mkF m 113 #[.val (.long q0), .second, .val (.long q1), .second, .val (.int p2), .val (.long S), .second, .val (.long B), .second, .val (.int M), .val (.long (9223372036854775807 : Int64)), .second, .unset, .unset] [(.long B), (.long S)])) rfl (by rw [hml]; rfl) (argsL := [(.long S), (.long B)]) (rest := []) (lenOf pd__28_JJ_29_J rfl) rfl (by show 2 * 0 + _ ≤ _; exact Nat.le_of_eq rfl) (hb hby at_113) (fun _ _ => ⟨rfl, e9q, (by decide : 0 + 0 ≤ _), (by decide : 0 + 0 ≤ _)⟩)
      dsimp only [Pt.U, Pt.locs, Pt.cells, Pt.slots] at X10 l10 y10 z10 st10 hQ10
      subst l10 y10 z10
      obtain ⟨rfl, N10q, e10q⟩ := hQ10
      have N10 := Fr.app N9 N10q
      refine own_go (B := T10.setTop (mkF m 116 #[.val (.long q0), .second, .val (.long q1), .second, .val (.int p2), .val (.long S), .second, .val (.long B), .second, .val (.int M), .val (.long (9223372036854775807 : Int64)), .second, .unset, .unset] [(.long (own_le S B))])) (fun t_ k_ => st10 _ k_) ?_
      refine own_go (B := T10.setTop (mkF m 138 #[.val (.long q0), .second, .val (.long q1), .second, .val (.int p2), .val (.long S), .second, .val (.long B), .second, .val (.int M), .val (.long (9223372036854775807 : Int64)), .second, .val (.long (own_le S B)), .second] [(.int (1 : Int32))])) (fun t_ k_ => ?_) ?_
      · show Steps p.tables e below (T10.setTop (mkF m 116 #[.val (.long q0), .second, .val (.long q1), .second, .val (.int p2), .val (.long S), .second, .val (.long B), .second, .val (.int M), .val (.long (9223372036854775807 : Int64)), .second, .unset, .unset] [(.long (own_le S B))])) _
        refine XS.lstore X10.here hx rfl (hb hby at_116) rfl (l' := #[.val (.long q0), .second, .val (.long q1), .second, .val (.int p2), .val (.long S), .second, .val (.long B), .second, .val (.int M), .val (.long (9223372036854775807 : Int64)), .second, .val (.long (own_le S B)), .second]) rfl ?_
        show Steps p.tables e below (T10.setTop (mkF m 118 #[.val (.long q0), .second, .val (.long q1), .second, .val (.int p2), .val (.long S), .second, .val (.long B), .second, .val (.int M), .val (.long (9223372036854775807 : Int64)), .second, .val (.long (own_le S B)), .second] [])) _
        refine XS.lload X10.here hx rfl (hb hby at_118) rfl ?_
        show Steps p.tables e below (T10.setTop (mkF m 120 #[.val (.long q0), .second, .val (.long q1), .second, .val (.int p2), .val (.long S), .second, .val (.long B), .second, .val (.int M), .val (.long (9223372036854775807 : Int64)), .second, .val (.long (own_le S B)), .second] [(.long (own_le S B))])) _
        refine XS.lload X10.here hx rfl (hb hby at_120) rfl ?_
        show Steps p.tables e below (T10.setTop (mkF m 122 #[.val (.long q0), .second, .val (.long q1), .second, .val (.int p2), .val (.long S), .second, .val (.long B), .second, .val (.int M), .val (.long (9223372036854775807 : Int64)), .second, .val (.long (own_le S B)), .second] [(.long (9223372036854775807 : Int64)), (.long (own_le S B))])) _
        refine XS.lcmp X10.here hx rfl (hb hby at_122) rfl ?_
        show Steps p.tables e below (T10.setTop (mkF m 123 #[.val (.long q0), .second, .val (.long q1), .second, .val (.int p2), .val (.long S), .second, .val (.long B), .second, .val (.int M), .val (.long (9223372036854775807 : Int64)), .second, .val (.long (own_le S B)), .second] [(.int (lcmpW (own_le S B) (9223372036854775807 : Int64)))])) _
        refine XS.ifNo X10.here hx rfl (hb hby at_123) rfl ((if0 _ _).trans (teq ((lw_eq _ _).mpr (own_c1 hSB hc64))).2) ?_
        show Steps p.tables e below (T10.setTop (mkF m 126 #[.val (.long q0), .second, .val (.long q1), .second, .val (.int p2), .val (.long S), .second, .val (.long B), .second, .val (.int M), .val (.long (9223372036854775807 : Int64)), .second, .val (.long (own_le S B)), .second] [])) _
        refine XS.lload X10.here hx rfl (hb hby at_126) rfl ?_
        show Steps p.tables e below (T10.setTop (mkF m 128 #[.val (.long q0), .second, .val (.long q1), .second, .val (.int p2), .val (.long S), .second, .val (.long B), .second, .val (.int M), .val (.long (9223372036854775807 : Int64)), .second, .val (.long (own_le S B)), .second] [(.long (own_le S B))])) _
        refine XS.lconst X10.here hx rfl (hb hby at_128) ?_
        show Steps p.tables e below (T10.setTop (mkF m 129 #[.val (.long q0), .second, .val (.long q1), .second, .val (.int p2), .val (.long S), .second, .val (.long B), .second, .val (.int M), .val (.long (9223372036854775807 : Int64)), .second, .val (.long (own_le S B)), .second] [(.long (0 : Int64)), (.long (own_le S B))])) _
        refine XS.lcmp X10.here hx rfl (hb hby at_129) rfl ?_
        show Steps p.tables e below (T10.setTop (mkF m 130 #[.val (.long q0), .second, .val (.long q1), .second, .val (.int p2), .val (.long S), .second, .val (.long B), .second, .val (.int M), .val (.long (9223372036854775807 : Int64)), .second, .val (.long (own_le S B)), .second] [(.int (lcmpW (own_le S B) (0 : Int64)))])) _
        refine XS.ifNo X10.here hx rfl (hb hby at_130) rfl ((if0 _ _).trans (flt (mt (lw_lt _ _).mp (own_nn hSB))).1) ?_
        show Steps p.tables e below (T10.setTop (mkF m 133 #[.val (.long q0), .second, .val (.long q1), .second, .val (.int p2), .val (.long S), .second, .val (.long B), .second, .val (.int M), .val (.long (9223372036854775807 : Int64)), .second, .val (.long (own_le S B)), .second] [])) _
        refine XS.iconst X10.here hx rfl (hb hby at_133) ?_
        show Steps p.tables e below (T10.setTop (mkF m 134 #[.val (.long q0), .second, .val (.long q1), .second, .val (.int p2), .val (.long S), .second, .val (.long B), .second, .val (.int M), .val (.long (9223372036854775807 : Int64)), .second, .val (.long (own_le S B)), .second] [(.int (1 : Int32))])) _
        refine XS.goto X10.here hx rfl (pc0 := 134) (pc' := 138) rfl (hb hby at_134) (by decide) (by decide) ?_
        show Steps p.tables e below (T10.setTop (mkF m 138 #[.val (.long q0), .second, .val (.long q1), .second, .val (.int p2), .val (.long S), .second, .val (.long B), .second, .val (.int M), .val (.long (9223372036854775807 : Int64)), .second, .val (.long (own_le S B)), .second] [(.int (1 : Int32))])) _
        exact k_
      obtain ⟨fs, hr, hrun, hended, hW, hsame⟩ := X10.leave (v := some (.int (1 : Int32))) (fun h => by rw [Bd.returns] at h; cases h)
      refine own_at ?_ (hG _ _ ⟨hrun, hended, _, _, rfl, ?_, ⟨_, rfl⟩, hW, hsame.mono (by decide) (by decide)⟩)
      · show Steps p.tables e below (T10.setTop (mkF m 138 #[.val (.long q0), .second, .val (.long q1), .second, .val (.int p2), .val (.long S), .second, .val (.long B), .second, .val (.int M), .val (.long (9223372036854775807 : Int64)), .second, .val (.long (own_le S B)), .second] [(.int (1 : Int32))])) _
        exact retN X10 hx (t := .boolean) Bd.returns (by simp) (hb hby at_138) hr
      · show Q0 Z q0 q1 p2 h0 n0 _ T10.heap _
        rw [e10q]
        exact ⟨rfl, N10⟩
    · refine own_go (B := T9.setTop (mkF m 79 #[.val (.long q0), .second, .val (.long q1), .second, .val (.int p2), .val (.long S), .second, .val (.long B), .second, .val (.int M), .unset, .unset, .unset, .unset] [(.int (lcmpW S (0 : Int64)))])) (fun t_ k_ => ?_) ?_
      · show Steps p.tables e below (T9.setTop (mkF m 64 #[.val (.long q0), .second, .val (.long q1), .second, .val (.int p2), .val (.long S), .second, .val (.long B), .second, .val (.int M), .unset, .unset, .unset, .unset] [(.int (lcmpW B (9223372036854775807 : Int64)))])) _
        refine XS.ifYes X9.here hx rfl (pc0 := 64) (pc' := 75) rfl (hb hby at_64) rfl ((if0 _ _).trans (feq (mt (lw_eq _ _).mp hc64)).2) (by decide) (by decide) ?_
        show Steps p.tables e below (T9.setTop (mkF m 75 #[.val (.long q0), .second, .val (.long q1), .second, .val (.int p2), .val (.long S), .second, .val (.long B), .second, .val (.int M), .unset, .unset, .unset, .unset] [])) _
        refine XS.lload X9.here hx rfl (hb hby at_75) rfl ?_
        show Steps p.tables e below (T9.setTop (mkF m 77 #[.val (.long q0), .second, .val (.long q1), .second, .val (.int p2), .val (.long S), .second, .val (.long B), .second, .val (.int M), .unset, .unset, .unset, .unset] [(.long S)])) _
        refine XS.lconst X9.here hx rfl (hb hby at_77) ?_
        show Steps p.tables e below (T9.setTop (mkF m 78 #[.val (.long q0), .second, .val (.long q1), .second, .val (.int p2), .val (.long S), .second, .val (.long B), .second, .val (.int M), .unset, .unset, .unset, .unset] [(.long (0 : Int64)), (.long S)])) _
        refine XS.lcmp X9.here hx rfl (hb hby at_78) rfl ?_
        show Steps p.tables e below (T9.setTop (mkF m 79 #[.val (.long q0), .second, .val (.long q1), .second, .val (.int p2), .val (.long S), .second, .val (.long B), .second, .val (.int M), .unset, .unset, .unset, .unset] [(.int (lcmpW S (0 : Int64)))])) _
        exact k_
      by_cases hc79 : S < (0 : Int64)
      · refine own_go (B := T9.setTop (mkF m 91 #[.val (.long q0), .second, .val (.long q1), .second, .val (.int p2), .val (.long S), .second, .val (.long B), .second, .val (.int M), .unset, .unset, .unset, .unset] [(.int (lcmpW B (S + (9223372036854775807 : Int64))))])) (fun t_ k_ => ?_) ?_
        · show Steps p.tables e below (T9.setTop (mkF m 79 #[.val (.long q0), .second, .val (.long q1), .second, .val (.int p2), .val (.long S), .second, .val (.long B), .second, .val (.int M), .unset, .unset, .unset, .unset] [(.int (lcmpW S (0 : Int64)))])) _
          refine XS.ifNo X9.here hx rfl (hb hby at_79) rfl ((if0 _ _).trans (tlt ((lw_lt _ _).mpr hc79)).2.1) ?_
          show Steps p.tables e below (T9.setTop (mkF m 82 #[.val (.long q0), .second, .val (.long q1), .second, .val (.int p2), .val (.long S), .second, .val (.long B), .second, .val (.int M), .unset, .unset, .unset, .unset] [])) _
          refine XS.lload X9.here hx rfl (hb hby at_82) rfl ?_
          show Steps p.tables e below (T9.setTop (mkF m 84 #[.val (.long q0), .second, .val (.long q1), .second, .val (.int p2), .val (.long S), .second, .val (.long B), .second, .val (.int M), .unset, .unset, .unset, .unset] [(.long B)])) _
          refine XS.lload X9.here hx rfl (hb hby at_84) rfl ?_
          show Steps p.tables e below (T9.setTop (mkF m 86 #[.val (.long q0), .second, .val (.long q1), .second, .val (.int p2), .val (.long S), .second, .val (.long B), .second, .val (.int M), .unset, .unset, .unset, .unset] [(.long S), (.long B)])) _
          refine X9.ldc2Long hx hown (mvT hZ (hw _ (List.mem_of_getElem? (i := 7) rfl))) (g := (mkF m 86 #[.val (.long q0), .second, .val (.long q1), .second, .val (.int p2), .val (.long S), .second, .val (.long B), .second, .val (.int M), .unset, .unset, .unset, .unset] [(.long S), (.long B)])) rfl (hb hby at_86) _ ?_
          show Steps p.tables e below (T9.setTop (mkF m 89 #[.val (.long q0), .second, .val (.long q1), .second, .val (.int p2), .val (.long S), .second, .val (.long B), .second, .val (.int M), .unset, .unset, .unset, .unset] [(.long (9223372036854775807 : Int64)), (.long S), (.long B)])) _
          refine XS.ladd X9.here hx rfl (hb hby at_89) rfl ?_
          show Steps p.tables e below (T9.setTop (mkF m 90 #[.val (.long q0), .second, .val (.long q1), .second, .val (.int p2), .val (.long S), .second, .val (.long B), .second, .val (.int M), .unset, .unset, .unset, .unset] [(.long (S + (9223372036854775807 : Int64))), (.long B)])) _
          refine XS.lcmp X9.here hx rfl (hb hby at_90) rfl ?_
          show Steps p.tables e below (T9.setTop (mkF m 91 #[.val (.long q0), .second, .val (.long q1), .second, .val (.int p2), .val (.long S), .second, .val (.long B), .second, .val (.int M), .unset, .unset, .unset, .unset] [(.int (lcmpW B (S + (9223372036854775807 : Int64))))])) _
          exact k_
        by_cases hc91 : (S + (9223372036854775807 : Int64)) < B
        · refine own_go (B := T9.setTop (mkF m 113 #[.val (.long q0), .second, .val (.long q1), .second, .val (.int p2), .val (.long S), .second, .val (.long B), .second, .val (.int M), .val (.long (9223372036854775807 : Int64)), .second, .unset, .unset] [(.long B), (.long S)])) (fun t_ k_ => ?_) ?_
          · show Steps p.tables e below (T9.setTop (mkF m 91 #[.val (.long q0), .second, .val (.long q1), .second, .val (.int p2), .val (.long S), .second, .val (.long B), .second, .val (.int M), .unset, .unset, .unset, .unset] [(.int (lcmpW B (S + (9223372036854775807 : Int64))))])) _
            refine XS.ifNo X9.here hx rfl (hb hby at_91) rfl ((if0 _ _).trans (tlt ((lw_gt _ _).mpr hc91)).2.2.2) ?_
            show Steps p.tables e below (T9.setTop (mkF m 94 #[.val (.long q0), .second, .val (.long q1), .second, .val (.int p2), .val (.long S), .second, .val (.long B), .second, .val (.int M), .unset, .unset, .unset, .unset] [])) _
            refine X9.ldc2Long hx hown (mvT hZ (hw _ (List.mem_of_getElem? (i := 7) rfl))) (g := (mkF m 94 #[.val (.long q0), .second, .val (.long q1), .second, .val (.int p2), .val (.long S), .second, .val (.long B), .second, .val (.int M), .unset, .unset, .unset, .unset] [])) rfl (hb hby at_94) _ ?_
            show Steps p.tables e below (T9.setTop (mkF m 97 #[.val (.long q0), .second, .val (.long q1), .second, .val (.int p2), .val (.long S), .second, .val (.long B), .second, .val (.int M), .unset, .unset, .unset, .unset] [(.long (9223372036854775807 : Int64))])) _
            refine XS.lstore X9.here hx rfl (hb hby at_97) rfl (l' := #[.val (.long q0), .second, .val (.long q1), .second, .val (.int p2), .val (.long S), .second, .val (.long B), .second, .val (.int M), .val (.long (9223372036854775807 : Int64)), .second, .unset, .unset]) rfl ?_
            show Steps p.tables e below (T9.setTop (mkF m 99 #[.val (.long q0), .second, .val (.long q1), .second, .val (.int p2), .val (.long S), .second, .val (.long B), .second, .val (.int M), .val (.long (9223372036854775807 : Int64)), .second, .unset, .unset] [])) _
            refine XS.goto X9.here hx rfl (pc0 := 99) (pc' := 109) rfl (hb hby at_99) (by decide) (by decide) ?_
            show Steps p.tables e below (T9.setTop (mkF m 109 #[.val (.long q0), .second, .val (.long q1), .second, .val (.int p2), .val (.long S), .second, .val (.long B), .second, .val (.int M), .val (.long (9223372036854775807 : Int64)), .second, .unset, .unset] [])) _
            refine XS.lload X9.here hx rfl (hb hby at_109) rfl ?_
            show Steps p.tables e below (T9.setTop (mkF m 111 #[.val (.long q0), .second, .val (.long q1), .second, .val (.int p2), .val (.long S), .second, .val (.long B), .second, .val (.int M), .val (.long (9223372036854775807 : Int64)), .second, .unset, .unset] [(.long S)])) _
            refine XS.lload X9.here hx rfl (hb hby at_111) rfl ?_
            show Steps p.tables e below (T9.setTop (mkF m 113 #[.val (.long q0), .second, .val (.long q1), .second, .val (.int p2), .val (.long S), .second, .val (.long B), .second, .val (.int M), .val (.long (9223372036854775807 : Int64)), .second, .unset, .unset] [(.long B), (.long S)])) _
            exact k_
          obtain ⟨_, _, ⟨T12, L12, k12, n12⟩, -, X12, ⟨Lc12, hQ12, l12, y12, z12⟩, st12⟩ := Jvm.LawKit.callS X9 hx (y := (⟨"com/example/adfair/adfair/Limits", "longestEndingBy", "(JJ)J"⟩ : MethodName)) hown (mvT hZ (hw _ (List.mem_of_getElem? (i := 8) rfl))) (mvT hZ (hw _ (List.mem_of_getElem? (i := 9) rfl))) (mvT hZ (hw _ (List.mem_of_getElem? (i := 10) rfl))) (mvT hZ (hw _ (List.mem_of_getElem? (i := 11) rfl))) (by decide) (backOf (W := 0) (rm3 l Z a0 hw [] S B h0 n0 Z0) hZ (hw _ (List.mem_of_getElem? (i := 11) rfl)) (hw _ (List.mem_of_getElem? (i := 10) rfl)) (by decide) (by decide)) (g := (mkF m 113 #[.val (.long q0), .second, .val (.long q1), .second, .val (.int p2), .val (.long S), .second, .val (.long B), .second, .val (.int M), .val (.long (9223372036854775807 : Int64)), .second, .unset, .unset] [(.long B), (.long S)])) rfl (by rw [hml]; rfl) (argsL := [(.long S), (.long B)]) (rest := []) (lenOf pd__28_JJ_29_J rfl) rfl (by show 2 * 0 + _ ≤ _; exact Nat.le_of_eq rfl) (hb hby at_113) (fun _ _ => ⟨rfl, e9q, (by decide : 0 + 0 ≤ _), (by decide : 0 + 0 ≤ _)⟩)
          dsimp only [Pt.U, Pt.locs, Pt.cells, Pt.slots] at X12 l12 y12 z12 st12 hQ12
          subst l12 y12 z12
          obtain ⟨rfl, N12q, e12q⟩ := hQ12
          have N12 := Fr.app N9 N12q
          refine own_go (B := T12.setTop (mkF m 116 #[.val (.long q0), .second, .val (.long q1), .second, .val (.int p2), .val (.long S), .second, .val (.long B), .second, .val (.int M), .val (.long (9223372036854775807 : Int64)), .second, .unset, .unset] [(.long (own_le S B))])) (fun t_ k_ => st12 _ k_) ?_
          refine own_go (B := T12.setTop (mkF m 138 #[.val (.long q0), .second, .val (.long q1), .second, .val (.int p2), .val (.long S), .second, .val (.long B), .second, .val (.int M), .val (.long (9223372036854775807 : Int64)), .second, .val (.long (own_le S B)), .second] [(.int (1 : Int32))])) (fun t_ k_ => ?_) ?_
          · show Steps p.tables e below (T12.setTop (mkF m 116 #[.val (.long q0), .second, .val (.long q1), .second, .val (.int p2), .val (.long S), .second, .val (.long B), .second, .val (.int M), .val (.long (9223372036854775807 : Int64)), .second, .unset, .unset] [(.long (own_le S B))])) _
            refine XS.lstore X12.here hx rfl (hb hby at_116) rfl (l' := #[.val (.long q0), .second, .val (.long q1), .second, .val (.int p2), .val (.long S), .second, .val (.long B), .second, .val (.int M), .val (.long (9223372036854775807 : Int64)), .second, .val (.long (own_le S B)), .second]) rfl ?_
            show Steps p.tables e below (T12.setTop (mkF m 118 #[.val (.long q0), .second, .val (.long q1), .second, .val (.int p2), .val (.long S), .second, .val (.long B), .second, .val (.int M), .val (.long (9223372036854775807 : Int64)), .second, .val (.long (own_le S B)), .second] [])) _
            refine XS.lload X12.here hx rfl (hb hby at_118) rfl ?_
            show Steps p.tables e below (T12.setTop (mkF m 120 #[.val (.long q0), .second, .val (.long q1), .second, .val (.int p2), .val (.long S), .second, .val (.long B), .second, .val (.int M), .val (.long (9223372036854775807 : Int64)), .second, .val (.long (own_le S B)), .second] [(.long (own_le S B))])) _
            refine XS.lload X12.here hx rfl (hb hby at_120) rfl ?_
            show Steps p.tables e below (T12.setTop (mkF m 122 #[.val (.long q0), .second, .val (.long q1), .second, .val (.int p2), .val (.long S), .second, .val (.long B), .second, .val (.int M), .val (.long (9223372036854775807 : Int64)), .second, .val (.long (own_le S B)), .second] [(.long (9223372036854775807 : Int64)), (.long (own_le S B))])) _
            refine XS.lcmp X12.here hx rfl (hb hby at_122) rfl ?_
            show Steps p.tables e below (T12.setTop (mkF m 123 #[.val (.long q0), .second, .val (.long q1), .second, .val (.int p2), .val (.long S), .second, .val (.long B), .second, .val (.int M), .val (.long (9223372036854775807 : Int64)), .second, .val (.long (own_le S B)), .second] [(.int (lcmpW (own_le S B) (9223372036854775807 : Int64)))])) _
            refine XS.ifNo X12.here hx rfl (hb hby at_123) rfl ((if0 _ _).trans (teq ((lw_eq _ _).mpr (own_c2 hSB hc79 hc91))).2) ?_
            show Steps p.tables e below (T12.setTop (mkF m 126 #[.val (.long q0), .second, .val (.long q1), .second, .val (.int p2), .val (.long S), .second, .val (.long B), .second, .val (.int M), .val (.long (9223372036854775807 : Int64)), .second, .val (.long (own_le S B)), .second] [])) _
            refine XS.lload X12.here hx rfl (hb hby at_126) rfl ?_
            show Steps p.tables e below (T12.setTop (mkF m 128 #[.val (.long q0), .second, .val (.long q1), .second, .val (.int p2), .val (.long S), .second, .val (.long B), .second, .val (.int M), .val (.long (9223372036854775807 : Int64)), .second, .val (.long (own_le S B)), .second] [(.long (own_le S B))])) _
            refine XS.lconst X12.here hx rfl (hb hby at_128) ?_
            show Steps p.tables e below (T12.setTop (mkF m 129 #[.val (.long q0), .second, .val (.long q1), .second, .val (.int p2), .val (.long S), .second, .val (.long B), .second, .val (.int M), .val (.long (9223372036854775807 : Int64)), .second, .val (.long (own_le S B)), .second] [(.long (0 : Int64)), (.long (own_le S B))])) _
            refine XS.lcmp X12.here hx rfl (hb hby at_129) rfl ?_
            show Steps p.tables e below (T12.setTop (mkF m 130 #[.val (.long q0), .second, .val (.long q1), .second, .val (.int p2), .val (.long S), .second, .val (.long B), .second, .val (.int M), .val (.long (9223372036854775807 : Int64)), .second, .val (.long (own_le S B)), .second] [(.int (lcmpW (own_le S B) (0 : Int64)))])) _
            refine XS.ifNo X12.here hx rfl (hb hby at_130) rfl ((if0 _ _).trans (flt (mt (lw_lt _ _).mp (own_nn hSB))).1) ?_
            show Steps p.tables e below (T12.setTop (mkF m 133 #[.val (.long q0), .second, .val (.long q1), .second, .val (.int p2), .val (.long S), .second, .val (.long B), .second, .val (.int M), .val (.long (9223372036854775807 : Int64)), .second, .val (.long (own_le S B)), .second] [])) _
            refine XS.iconst X12.here hx rfl (hb hby at_133) ?_
            show Steps p.tables e below (T12.setTop (mkF m 134 #[.val (.long q0), .second, .val (.long q1), .second, .val (.int p2), .val (.long S), .second, .val (.long B), .second, .val (.int M), .val (.long (9223372036854775807 : Int64)), .second, .val (.long (own_le S B)), .second] [(.int (1 : Int32))])) _
            refine XS.goto X12.here hx rfl (pc0 := 134) (pc' := 138) rfl (hb hby at_134) (by decide) (by decide) ?_
            show Steps p.tables e below (T12.setTop (mkF m 138 #[.val (.long q0), .second, .val (.long q1), .second, .val (.int p2), .val (.long S), .second, .val (.long B), .second, .val (.int M), .val (.long (9223372036854775807 : Int64)), .second, .val (.long (own_le S B)), .second] [(.int (1 : Int32))])) _
            exact k_
          obtain ⟨fs, hr, hrun, hended, hW, hsame⟩ := X12.leave (v := some (.int (1 : Int32))) (fun h => by rw [Bd.returns] at h; cases h)
          refine own_at ?_ (hG _ _ ⟨hrun, hended, _, _, rfl, ?_, ⟨_, rfl⟩, hW, hsame.mono (by decide) (by decide)⟩)
          · show Steps p.tables e below (T12.setTop (mkF m 138 #[.val (.long q0), .second, .val (.long q1), .second, .val (.int p2), .val (.long S), .second, .val (.long B), .second, .val (.int M), .val (.long (9223372036854775807 : Int64)), .second, .val (.long (own_le S B)), .second] [(.int (1 : Int32))])) _
            exact retN X12 hx (t := .boolean) Bd.returns (by simp) (hb hby at_138) hr
          · show Q0 Z q0 q1 p2 h0 n0 _ T12.heap _
            rw [e12q]
            exact ⟨rfl, N12⟩
        · refine own_go (B := T9.setTop (mkF m 113 #[.val (.long q0), .second, .val (.long q1), .second, .val (.int p2), .val (.long S), .second, .val (.long B), .second, .val (.int M), .val (.long (B - S)), .second, .unset, .unset] [(.long B), (.long S)])) (fun t_ k_ => ?_) ?_
          · show Steps p.tables e below (T9.setTop (mkF m 91 #[.val (.long q0), .second, .val (.long q1), .second, .val (.int p2), .val (.long S), .second, .val (.long B), .second, .val (.int M), .unset, .unset, .unset, .unset] [(.int (lcmpW B (S + (9223372036854775807 : Int64))))])) _
            refine XS.ifYes X9.here hx rfl (pc0 := 91) (pc' := 102) rfl (hb hby at_91) rfl ((if0 _ _).trans (flt (mt (lw_gt _ _).mp hc91)).2.2.2) (by decide) (by decide) ?_
            show Steps p.tables e below (T9.setTop (mkF m 102 #[.val (.long q0), .second, .val (.long q1), .second, .val (.int p2), .val (.long S), .second, .val (.long B), .second, .val (.int M), .unset, .unset, .unset, .unset] [])) _
            refine XS.lload X9.here hx rfl (hb hby at_102) rfl ?_
            show Steps p.tables e below (T9.setTop (mkF m 104 #[.val (.long q0), .second, .val (.long q1), .second, .val (.int p2), .val (.long S), .second, .val (.long B), .second, .val (.int M), .unset, .unset, .unset, .unset] [(.long B)])) _
            refine XS.lload X9.here hx rfl (hb hby at_104) rfl ?_
            show Steps p.tables e below (T9.setTop (mkF m 106 #[.val (.long q0), .second, .val (.long q1), .second, .val (.int p2), .val (.long S), .second, .val (.long B), .second, .val (.int M), .unset, .unset, .unset, .unset] [(.long S), (.long B)])) _
            refine XS.lsub X9.here hx rfl (hb hby at_106) rfl ?_
            show Steps p.tables e below (T9.setTop (mkF m 107 #[.val (.long q0), .second, .val (.long q1), .second, .val (.int p2), .val (.long S), .second, .val (.long B), .second, .val (.int M), .unset, .unset, .unset, .unset] [(.long (B - S))])) _
            refine XS.lstore X9.here hx rfl (hb hby at_107) rfl (l' := #[.val (.long q0), .second, .val (.long q1), .second, .val (.int p2), .val (.long S), .second, .val (.long B), .second, .val (.int M), .val (.long (B - S)), .second, .unset, .unset]) rfl ?_
            show Steps p.tables e below (T9.setTop (mkF m 109 #[.val (.long q0), .second, .val (.long q1), .second, .val (.int p2), .val (.long S), .second, .val (.long B), .second, .val (.int M), .val (.long (B - S)), .second, .unset, .unset] [])) _
            refine XS.lload X9.here hx rfl (hb hby at_109) rfl ?_
            show Steps p.tables e below (T9.setTop (mkF m 111 #[.val (.long q0), .second, .val (.long q1), .second, .val (.int p2), .val (.long S), .second, .val (.long B), .second, .val (.int M), .val (.long (B - S)), .second, .unset, .unset] [(.long S)])) _
            refine XS.lload X9.here hx rfl (hb hby at_111) rfl ?_
            show Steps p.tables e below (T9.setTop (mkF m 113 #[.val (.long q0), .second, .val (.long q1), .second, .val (.int p2), .val (.long S), .second, .val (.long B), .second, .val (.int M), .val (.long (B - S)), .second, .unset, .unset] [(.long B), (.long S)])) _
            exact k_
          obtain ⟨_, _, ⟨T14, L14, k14, n14⟩, -, X14, ⟨Lc14, hQ14, l14, y14, z14⟩, st14⟩ := Jvm.LawKit.callS X9 hx (y := (⟨"com/example/adfair/adfair/Limits", "longestEndingBy", "(JJ)J"⟩ : MethodName)) hown (mvT hZ (hw _ (List.mem_of_getElem? (i := 8) rfl))) (mvT hZ (hw _ (List.mem_of_getElem? (i := 9) rfl))) (mvT hZ (hw _ (List.mem_of_getElem? (i := 10) rfl))) (mvT hZ (hw _ (List.mem_of_getElem? (i := 11) rfl))) (by decide) (backOf (W := 0) (rm3 l Z a0 hw [] S B h0 n0 Z0) hZ (hw _ (List.mem_of_getElem? (i := 11) rfl)) (hw _ (List.mem_of_getElem? (i := 10) rfl)) (by decide) (by decide)) (g := (mkF m 113 #[.val (.long q0), .second, .val (.long q1), .second, .val (.int p2), .val (.long S), .second, .val (.long B), .second, .val (.int M), .val (.long (B - S)), .second, .unset, .unset] [(.long B), (.long S)])) rfl (by rw [hml]; rfl) (argsL := [(.long S), (.long B)]) (rest := []) (lenOf pd__28_JJ_29_J rfl) rfl (by show 2 * 0 + _ ≤ _; exact Nat.le_of_eq rfl) (hb hby at_113) (fun _ _ => ⟨rfl, e9q, (by decide : 0 + 0 ≤ _), (by decide : 0 + 0 ≤ _)⟩)
          dsimp only [Pt.U, Pt.locs, Pt.cells, Pt.slots] at X14 l14 y14 z14 st14 hQ14
          subst l14 y14 z14
          obtain ⟨rfl, N14q, e14q⟩ := hQ14
          have N14 := Fr.app N9 N14q
          refine own_go (B := T14.setTop (mkF m 116 #[.val (.long q0), .second, .val (.long q1), .second, .val (.int p2), .val (.long S), .second, .val (.long B), .second, .val (.int M), .val (.long (B - S)), .second, .unset, .unset] [(.long (own_le S B))])) (fun t_ k_ => st14 _ k_) ?_
          refine own_go (B := T14.setTop (mkF m 138 #[.val (.long q0), .second, .val (.long q1), .second, .val (.int p2), .val (.long S), .second, .val (.long B), .second, .val (.int M), .val (.long (B - S)), .second, .val (.long (own_le S B)), .second] [(.int (1 : Int32))])) (fun t_ k_ => ?_) ?_
          · show Steps p.tables e below (T14.setTop (mkF m 116 #[.val (.long q0), .second, .val (.long q1), .second, .val (.int p2), .val (.long S), .second, .val (.long B), .second, .val (.int M), .val (.long (B - S)), .second, .unset, .unset] [(.long (own_le S B))])) _
            refine XS.lstore X14.here hx rfl (hb hby at_116) rfl (l' := #[.val (.long q0), .second, .val (.long q1), .second, .val (.int p2), .val (.long S), .second, .val (.long B), .second, .val (.int M), .val (.long (B - S)), .second, .val (.long (own_le S B)), .second]) rfl ?_
            show Steps p.tables e below (T14.setTop (mkF m 118 #[.val (.long q0), .second, .val (.long q1), .second, .val (.int p2), .val (.long S), .second, .val (.long B), .second, .val (.int M), .val (.long (B - S)), .second, .val (.long (own_le S B)), .second] [])) _
            refine XS.lload X14.here hx rfl (hb hby at_118) rfl ?_
            show Steps p.tables e below (T14.setTop (mkF m 120 #[.val (.long q0), .second, .val (.long q1), .second, .val (.int p2), .val (.long S), .second, .val (.long B), .second, .val (.int M), .val (.long (B - S)), .second, .val (.long (own_le S B)), .second] [(.long (own_le S B))])) _
            refine XS.lload X14.here hx rfl (hb hby at_120) rfl ?_
            show Steps p.tables e below (T14.setTop (mkF m 122 #[.val (.long q0), .second, .val (.long q1), .second, .val (.int p2), .val (.long S), .second, .val (.long B), .second, .val (.int M), .val (.long (B - S)), .second, .val (.long (own_le S B)), .second] [(.long (B - S)), (.long (own_le S B))])) _
            refine XS.lcmp X14.here hx rfl (hb hby at_122) rfl ?_
            show Steps p.tables e below (T14.setTop (mkF m 123 #[.val (.long q0), .second, .val (.long q1), .second, .val (.int p2), .val (.long S), .second, .val (.long B), .second, .val (.int M), .val (.long (B - S)), .second, .val (.long (own_le S B)), .second] [(.int (lcmpW (own_le S B) (B - S)))])) _
            refine XS.ifNo X14.here hx rfl (hb hby at_123) rfl ((if0 _ _).trans (teq ((lw_eq _ _).mpr (own_c3 hSB hc64 (own_d1 hSB hc79 hc91)))).2) ?_
            show Steps p.tables e below (T14.setTop (mkF m 126 #[.val (.long q0), .second, .val (.long q1), .second, .val (.int p2), .val (.long S), .second, .val (.long B), .second, .val (.int M), .val (.long (B - S)), .second, .val (.long (own_le S B)), .second] [])) _
            refine XS.lload X14.here hx rfl (hb hby at_126) rfl ?_
            show Steps p.tables e below (T14.setTop (mkF m 128 #[.val (.long q0), .second, .val (.long q1), .second, .val (.int p2), .val (.long S), .second, .val (.long B), .second, .val (.int M), .val (.long (B - S)), .second, .val (.long (own_le S B)), .second] [(.long (own_le S B))])) _
            refine XS.lconst X14.here hx rfl (hb hby at_128) ?_
            show Steps p.tables e below (T14.setTop (mkF m 129 #[.val (.long q0), .second, .val (.long q1), .second, .val (.int p2), .val (.long S), .second, .val (.long B), .second, .val (.int M), .val (.long (B - S)), .second, .val (.long (own_le S B)), .second] [(.long (0 : Int64)), (.long (own_le S B))])) _
            refine XS.lcmp X14.here hx rfl (hb hby at_129) rfl ?_
            show Steps p.tables e below (T14.setTop (mkF m 130 #[.val (.long q0), .second, .val (.long q1), .second, .val (.int p2), .val (.long S), .second, .val (.long B), .second, .val (.int M), .val (.long (B - S)), .second, .val (.long (own_le S B)), .second] [(.int (lcmpW (own_le S B) (0 : Int64)))])) _
            refine XS.ifNo X14.here hx rfl (hb hby at_130) rfl ((if0 _ _).trans (flt (mt (lw_lt _ _).mp (own_nn hSB))).1) ?_
            show Steps p.tables e below (T14.setTop (mkF m 133 #[.val (.long q0), .second, .val (.long q1), .second, .val (.int p2), .val (.long S), .second, .val (.long B), .second, .val (.int M), .val (.long (B - S)), .second, .val (.long (own_le S B)), .second] [])) _
            refine XS.iconst X14.here hx rfl (hb hby at_133) ?_
            show Steps p.tables e below (T14.setTop (mkF m 134 #[.val (.long q0), .second, .val (.long q1), .second, .val (.int p2), .val (.long S), .second, .val (.long B), .second, .val (.int M), .val (.long (B - S)), .second, .val (.long (own_le S B)), .second] [(.int (1 : Int32))])) _
            refine XS.goto X14.here hx rfl (pc0 := 134) (pc' := 138) rfl (hb hby at_134) (by decide) (by decide) ?_
            show Steps p.tables e below (T14.setTop (mkF m 138 #[.val (.long q0), .second, .val (.long q1), .second, .val (.int p2), .val (.long S), .second, .val (.long B), .second, .val (.int M), .val (.long (B - S)), .second, .val (.long (own_le S B)), .second] [(.int (1 : Int32))])) _
            exact k_
          obtain ⟨fs, hr, hrun, hended, hW, hsame⟩ := X14.leave (v := some (.int (1 : Int32))) (fun h => by rw [Bd.returns] at h; cases h)
          refine own_at ?_ (hG _ _ ⟨hrun, hended, _, _, rfl, ?_, ⟨_, rfl⟩, hW, hsame.mono (by decide) (by decide)⟩)
          · show Steps p.tables e below (T14.setTop (mkF m 138 #[.val (.long q0), .second, .val (.long q1), .second, .val (.int p2), .val (.long S), .second, .val (.long B), .second, .val (.int M), .val (.long (B - S)), .second, .val (.long (own_le S B)), .second] [(.int (1 : Int32))])) _
            exact retN X14 hx (t := .boolean) Bd.returns (by simp) (hb hby at_138) hr
          · show Q0 Z q0 q1 p2 h0 n0 _ T14.heap _
            rw [e14q]
            exact ⟨rfl, N14⟩
      · refine own_go (B := T9.setTop (mkF m 113 #[.val (.long q0), .second, .val (.long q1), .second, .val (.int p2), .val (.long S), .second, .val (.long B), .second, .val (.int M), .val (.long (B - S)), .second, .unset, .unset] [(.long B), (.long S)])) (fun t_ k_ => ?_) ?_
        · show Steps p.tables e below (T9.setTop (mkF m 79 #[.val (.long q0), .second, .val (.long q1), .second, .val (.int p2), .val (.long S), .second, .val (.long B), .second, .val (.int M), .unset, .unset, .unset, .unset] [(.int (lcmpW S (0 : Int64)))])) _
          refine XS.ifYes X9.here hx rfl (pc0 := 79) (pc' := 102) rfl (hb hby at_79) rfl ((if0 _ _).trans (flt (mt (lw_lt _ _).mp hc79)).2.1) (by decide) (by decide) ?_
          show Steps p.tables e below (T9.setTop (mkF m 102 #[.val (.long q0), .second, .val (.long q1), .second, .val (.int p2), .val (.long S), .second, .val (.long B), .second, .val (.int M), .unset, .unset, .unset, .unset] [])) _
          refine XS.lload X9.here hx rfl (hb hby at_102) rfl ?_
          show Steps p.tables e below (T9.setTop (mkF m 104 #[.val (.long q0), .second, .val (.long q1), .second, .val (.int p2), .val (.long S), .second, .val (.long B), .second, .val (.int M), .unset, .unset, .unset, .unset] [(.long B)])) _
          refine XS.lload X9.here hx rfl (hb hby at_104) rfl ?_
          show Steps p.tables e below (T9.setTop (mkF m 106 #[.val (.long q0), .second, .val (.long q1), .second, .val (.int p2), .val (.long S), .second, .val (.long B), .second, .val (.int M), .unset, .unset, .unset, .unset] [(.long S), (.long B)])) _
          refine XS.lsub X9.here hx rfl (hb hby at_106) rfl ?_
          show Steps p.tables e below (T9.setTop (mkF m 107 #[.val (.long q0), .second, .val (.long q1), .second, .val (.int p2), .val (.long S), .second, .val (.long B), .second, .val (.int M), .unset, .unset, .unset, .unset] [(.long (B - S))])) _
          refine XS.lstore X9.here hx rfl (hb hby at_107) rfl (l' := #[.val (.long q0), .second, .val (.long q1), .second, .val (.int p2), .val (.long S), .second, .val (.long B), .second, .val (.int M), .val (.long (B - S)), .second, .unset, .unset]) rfl ?_
          show Steps p.tables e below (T9.setTop (mkF m 109 #[.val (.long q0), .second, .val (.long q1), .second, .val (.int p2), .val (.long S), .second, .val (.long B), .second, .val (.int M), .val (.long (B - S)), .second, .unset, .unset] [])) _
          refine XS.lload X9.here hx rfl (hb hby at_109) rfl ?_
          show Steps p.tables e below (T9.setTop (mkF m 111 #[.val (.long q0), .second, .val (.long q1), .second, .val (.int p2), .val (.long S), .second, .val (.long B), .second, .val (.int M), .val (.long (B - S)), .second, .unset, .unset] [(.long S)])) _
          refine XS.lload X9.here hx rfl (hb hby at_111) rfl ?_
          show Steps p.tables e below (T9.setTop (mkF m 113 #[.val (.long q0), .second, .val (.long q1), .second, .val (.int p2), .val (.long S), .second, .val (.long B), .second, .val (.int M), .val (.long (B - S)), .second, .unset, .unset] [(.long B), (.long S)])) _
          exact k_
        obtain ⟨_, _, ⟨T16, L16, k16, n16⟩, -, X16, ⟨Lc16, hQ16, l16, y16, z16⟩, st16⟩ := Jvm.LawKit.callS X9 hx (y := (⟨"com/example/adfair/adfair/Limits", "longestEndingBy", "(JJ)J"⟩ : MethodName)) hown (mvT hZ (hw _ (List.mem_of_getElem? (i := 8) rfl))) (mvT hZ (hw _ (List.mem_of_getElem? (i := 9) rfl))) (mvT hZ (hw _ (List.mem_of_getElem? (i := 10) rfl))) (mvT hZ (hw _ (List.mem_of_getElem? (i := 11) rfl))) (by decide) (backOf (W := 0) (rm3 l Z a0 hw [] S B h0 n0 Z0) hZ (hw _ (List.mem_of_getElem? (i := 11) rfl)) (hw _ (List.mem_of_getElem? (i := 10) rfl)) (by decide) (by decide)) (g := (mkF m 113 #[.val (.long q0), .second, .val (.long q1), .second, .val (.int p2), .val (.long S), .second, .val (.long B), .second, .val (.int M), .val (.long (B - S)), .second, .unset, .unset] [(.long B), (.long S)])) rfl (by rw [hml]; rfl) (argsL := [(.long S), (.long B)]) (rest := []) (lenOf pd__28_JJ_29_J rfl) rfl (by show 2 * 0 + _ ≤ _; exact Nat.le_of_eq rfl) (hb hby at_113) (fun _ _ => ⟨rfl, e9q, (by decide : 0 + 0 ≤ _), (by decide : 0 + 0 ≤ _)⟩)
        dsimp only [Pt.U, Pt.locs, Pt.cells, Pt.slots] at X16 l16 y16 z16 st16 hQ16
        subst l16 y16 z16
        obtain ⟨rfl, N16q, e16q⟩ := hQ16
        have N16 := Fr.app N9 N16q
        refine own_go (B := T16.setTop (mkF m 116 #[.val (.long q0), .second, .val (.long q1), .second, .val (.int p2), .val (.long S), .second, .val (.long B), .second, .val (.int M), .val (.long (B - S)), .second, .unset, .unset] [(.long (own_le S B))])) (fun t_ k_ => st16 _ k_) ?_
        refine own_go (B := T16.setTop (mkF m 138 #[.val (.long q0), .second, .val (.long q1), .second, .val (.int p2), .val (.long S), .second, .val (.long B), .second, .val (.int M), .val (.long (B - S)), .second, .val (.long (own_le S B)), .second] [(.int (1 : Int32))])) (fun t_ k_ => ?_) ?_
        · show Steps p.tables e below (T16.setTop (mkF m 116 #[.val (.long q0), .second, .val (.long q1), .second, .val (.int p2), .val (.long S), .second, .val (.long B), .second, .val (.int M), .val (.long (B - S)), .second, .unset, .unset] [(.long (own_le S B))])) _
          refine XS.lstore X16.here hx rfl (hb hby at_116) rfl (l' := #[.val (.long q0), .second, .val (.long q1), .second, .val (.int p2), .val (.long S), .second, .val (.long B), .second, .val (.int M), .val (.long (B - S)), .second, .val (.long (own_le S B)), .second]) rfl ?_
          show Steps p.tables e below (T16.setTop (mkF m 118 #[.val (.long q0), .second, .val (.long q1), .second, .val (.int p2), .val (.long S), .second, .val (.long B), .second, .val (.int M), .val (.long (B - S)), .second, .val (.long (own_le S B)), .second] [])) _
          refine XS.lload X16.here hx rfl (hb hby at_118) rfl ?_
          show Steps p.tables e below (T16.setTop (mkF m 120 #[.val (.long q0), .second, .val (.long q1), .second, .val (.int p2), .val (.long S), .second, .val (.long B), .second, .val (.int M), .val (.long (B - S)), .second, .val (.long (own_le S B)), .second] [(.long (own_le S B))])) _
          refine XS.lload X16.here hx rfl (hb hby at_120) rfl ?_
          show Steps p.tables e below (T16.setTop (mkF m 122 #[.val (.long q0), .second, .val (.long q1), .second, .val (.int p2), .val (.long S), .second, .val (.long B), .second, .val (.int M), .val (.long (B - S)), .second, .val (.long (own_le S B)), .second] [(.long (B - S)), (.long (own_le S B))])) _
          refine XS.lcmp X16.here hx rfl (hb hby at_122) rfl ?_
          show Steps p.tables e below (T16.setTop (mkF m 123 #[.val (.long q0), .second, .val (.long q1), .second, .val (.int p2), .val (.long S), .second, .val (.long B), .second, .val (.int M), .val (.long (B - S)), .second, .val (.long (own_le S B)), .second] [(.int (lcmpW (own_le S B) (B - S)))])) _
          refine XS.ifNo X16.here hx rfl (hb hby at_123) rfl ((if0 _ _).trans (teq ((lw_eq _ _).mpr (own_c3 hSB hc64 (own_d2 hc79)))).2) ?_
          show Steps p.tables e below (T16.setTop (mkF m 126 #[.val (.long q0), .second, .val (.long q1), .second, .val (.int p2), .val (.long S), .second, .val (.long B), .second, .val (.int M), .val (.long (B - S)), .second, .val (.long (own_le S B)), .second] [])) _
          refine XS.lload X16.here hx rfl (hb hby at_126) rfl ?_
          show Steps p.tables e below (T16.setTop (mkF m 128 #[.val (.long q0), .second, .val (.long q1), .second, .val (.int p2), .val (.long S), .second, .val (.long B), .second, .val (.int M), .val (.long (B - S)), .second, .val (.long (own_le S B)), .second] [(.long (own_le S B))])) _
          refine XS.lconst X16.here hx rfl (hb hby at_128) ?_
          show Steps p.tables e below (T16.setTop (mkF m 129 #[.val (.long q0), .second, .val (.long q1), .second, .val (.int p2), .val (.long S), .second, .val (.long B), .second, .val (.int M), .val (.long (B - S)), .second, .val (.long (own_le S B)), .second] [(.long (0 : Int64)), (.long (own_le S B))])) _
          refine XS.lcmp X16.here hx rfl (hb hby at_129) rfl ?_
          show Steps p.tables e below (T16.setTop (mkF m 130 #[.val (.long q0), .second, .val (.long q1), .second, .val (.int p2), .val (.long S), .second, .val (.long B), .second, .val (.int M), .val (.long (B - S)), .second, .val (.long (own_le S B)), .second] [(.int (lcmpW (own_le S B) (0 : Int64)))])) _
          refine XS.ifNo X16.here hx rfl (hb hby at_130) rfl ((if0 _ _).trans (flt (mt (lw_lt _ _).mp (own_nn hSB))).1) ?_
          show Steps p.tables e below (T16.setTop (mkF m 133 #[.val (.long q0), .second, .val (.long q1), .second, .val (.int p2), .val (.long S), .second, .val (.long B), .second, .val (.int M), .val (.long (B - S)), .second, .val (.long (own_le S B)), .second] [])) _
          refine XS.iconst X16.here hx rfl (hb hby at_133) ?_
          show Steps p.tables e below (T16.setTop (mkF m 134 #[.val (.long q0), .second, .val (.long q1), .second, .val (.int p2), .val (.long S), .second, .val (.long B), .second, .val (.int M), .val (.long (B - S)), .second, .val (.long (own_le S B)), .second] [(.int (1 : Int32))])) _
          refine XS.goto X16.here hx rfl (pc0 := 134) (pc' := 138) rfl (hb hby at_134) (by decide) (by decide) ?_
          show Steps p.tables e below (T16.setTop (mkF m 138 #[.val (.long q0), .second, .val (.long q1), .second, .val (.int p2), .val (.long S), .second, .val (.long B), .second, .val (.int M), .val (.long (B - S)), .second, .val (.long (own_le S B)), .second] [(.int (1 : Int32))])) _
          exact k_
        obtain ⟨fs, hr, hrun, hended, hW, hsame⟩ := X16.leave (v := some (.int (1 : Int32))) (fun h => by rw [Bd.returns] at h; cases h)
        refine own_at ?_ (hG _ _ ⟨hrun, hended, _, _, rfl, ?_, ⟨_, rfl⟩, hW, hsame.mono (by decide) (by decide)⟩)
        · show Steps p.tables e below (T16.setTop (mkF m 138 #[.val (.long q0), .second, .val (.long q1), .second, .val (.int p2), .val (.long S), .second, .val (.long B), .second, .val (.int M), .val (.long (B - S)), .second, .val (.long (own_le S B)), .second] [(.int (1 : Int32))])) _
          exact retN X16 hx (t := .boolean) Bd.returns (by simp) (hb hby at_138) hr
        · show Q0 Z q0 q1 p2 h0 n0 _ T16.heap _
          rw [e16q]
          exact ⟨rfl, N16⟩
  refine own_go (B := T9.setTop (mkF m 23 #[.val (.long q0), .second, .val (.long q1), .second, .val (.int p2), .val (.long (own_min q0 q1)), .second, .val (.long (own_max q0 q1)), .second, .val (.int (p2 &&& (3 : Int32))), .unset, .unset, .unset, .unset] [(.int (1 : Int32)), (.int (p2 &&& (3 : Int32)))])) (fun t_ k_ => ?_) ?_
  · show Steps p.tables e below (T9.setTop (mkF m 14 #[.val (.long q0), .second, .val (.long q1), .second, .val (.int p2), .val (.long (own_min q0 q1)), .second, .val (.long (own_max q0 q1)), .second, .unset, .unset, .unset, .unset, .unset] [])) _
    refine XS.iload X9.here hx rfl (hb hby at_14) rfl ?_
    show Steps p.tables e below (T9.setTop (mkF m 16 #[.val (.long q0), .second, .val (.long q1), .second, .val (.int p2), .val (.long (own_min q0 q1)), .second, .val (.long (own_max q0 q1)), .second, .unset, .unset, .unset, .unset, .unset] [(.int p2)])) _
    refine XS.iconst X9.here hx rfl (hb hby at_16) ?_
    show Steps p.tables e below (T9.setTop (mkF m 17 #[.val (.long q0), .second, .val (.long q1), .second, .val (.int p2), .val (.long (own_min q0 q1)), .second, .val (.long (own_max q0 q1)), .second, .unset, .unset, .unset, .unset, .unset] [(.int (3 : Int32)), (.int p2)])) _
    refine XS.iand X9.here hx rfl (hb hby at_17) rfl ?_
    show Steps p.tables e below (T9.setTop (mkF m 18 #[.val (.long q0), .second, .val (.long q1), .second, .val (.int p2), .val (.long (own_min q0 q1)), .second, .val (.long (own_max q0 q1)), .second, .unset, .unset, .unset, .unset, .unset] [(.int (p2 &&& (3 : Int32)))])) _
    refine XS.istore X9.here hx rfl (hb hby at_18) rfl (l' := #[.val (.long q0), .second, .val (.long q1), .second, .val (.int p2), .val (.long (own_min q0 q1)), .second, .val (.long (own_max q0 q1)), .second, .val (.int (p2 &&& (3 : Int32))), .unset, .unset, .unset, .unset]) rfl ?_
    show Steps p.tables e below (T9.setTop (mkF m 20 #[.val (.long q0), .second, .val (.long q1), .second, .val (.int p2), .val (.long (own_min q0 q1)), .second, .val (.long (own_max q0 q1)), .second, .val (.int (p2 &&& (3 : Int32))), .unset, .unset, .unset, .unset] [])) _
    refine XS.iload X9.here hx rfl (hb hby at_20) rfl ?_
    show Steps p.tables e below (T9.setTop (mkF m 22 #[.val (.long q0), .second, .val (.long q1), .second, .val (.int p2), .val (.long (own_min q0 q1)), .second, .val (.long (own_max q0 q1)), .second, .val (.int (p2 &&& (3 : Int32))), .unset, .unset, .unset, .unset] [(.int (p2 &&& (3 : Int32)))])) _
    refine XS.iconst X9.here hx rfl (hb hby at_22) ?_
    show Steps p.tables e below (T9.setTop (mkF m 23 #[.val (.long q0), .second, .val (.long q1), .second, .val (.int p2), .val (.long (own_min q0 q1)), .second, .val (.long (own_max q0 q1)), .second, .val (.int (p2 &&& (3 : Int32))), .unset, .unset, .unset, .unset] [(.int (1 : Int32)), (.int (p2 &&& (3 : Int32)))])) _
    exact k_
  by_cases hc23 : (p2 &&& (3 : Int32)) = (1 : Int32)
  · refine own_go (B := T9.setTop (mkF m 58 #[.val (.long q0), .second, .val (.long q1), .second, .val (.int p2), .val (.long (own_min q0 q1)), .second, .val (.long (9223372036854775807 : Int64)), .second, .val (.int (p2 &&& (3 : Int32))), .unset, .unset, .unset, .unset] [])) (fun t_ k_ => ?_) ?_
    · show Steps p.tables e below (T9.setTop (mkF m 23 #[.val (.long q0), .second, .val (.long q1), .second, .val (.int p2), .val (.long (own_min q0 q1)), .second, .val (.long (own_max q0 q1)), .second, .val (.int (p2 &&& (3 : Int32))), .unset, .unset, .unset, .unset] [(.int (1 : Int32)), (.int (p2 &&& (3 : Int32)))])) _
      refine XS.icmpNo X9.here hx rfl (hb hby at_23) rfl (teq hc23).2 ?_
      show Steps p.tables e below (T9.setTop (mkF m 26 #[.val (.long q0), .second, .val (.long q1), .second, .val (.int p2), .val (.long (own_min q0 q1)), .second, .val (.long (own_max q0 q1)), .second, .val (.int (p2 &&& (3 : Int32))), .unset, .unset, .unset, .unset] [])) _
      refine X9.ldc2Long hx hown (mvT hZ (hw _ (List.mem_of_getElem? (i := 7) rfl))) (g := (mkF m 26 #[.val (.long q0), .second, .val (.long q1), .second, .val (.int p2), .val (.long (own_min q0 q1)), .second, .val (.long (own_max q0 q1)), .second, .val (.int (p2 &&& (3 : Int32))), .unset, .unset, .unset, .unset] [])) rfl (hb hby at_26) _ ?_
      show Steps p.tables e below (T9.setTop (mkF m 29 #[.val (.long q0), .second, .val (.long q1), .second, .val (.int p2), .val (.long (own_min q0 q1)), .second, .val (.long (own_max q0 q1)), .second, .val (.int (p2 &&& (3 : Int32))), .unset, .unset, .unset, .unset] [(.long (9223372036854775807 : Int64))])) _
      refine XS.lstore X9.here hx rfl (hb hby at_29) rfl (l' := #[.val (.long q0), .second, .val (.long q1), .second, .val (.int p2), .val (.long (own_min q0 q1)), .second, .val (.long (9223372036854775807 : Int64)), .second, .val (.int (p2 &&& (3 : Int32))), .unset, .unset, .unset, .unset]) rfl ?_
      show Steps p.tables e below (T9.setTop (mkF m 31 #[.val (.long q0), .second, .val (.long q1), .second, .val (.int p2), .val (.long (own_min q0 q1)), .second, .val (.long (9223372036854775807 : Int64)), .second, .val (.int (p2 &&& (3 : Int32))), .unset, .unset, .unset, .unset] [])) _
      refine XS.goto X9.here hx rfl (pc0 := 31) (pc' := 58) rfl (hb hby at_31) (by decide) (by decide) ?_
      show Steps p.tables e below (T9.setTop (mkF m 58 #[.val (.long q0), .second, .val (.long q1), .second, .val (.int p2), .val (.long (own_min q0 q1)), .second, .val (.long (9223372036854775807 : Int64)), .second, .val (.int (p2 &&& (3 : Int32))), .unset, .unset, .unset, .unset] [])) _
      exact k_
    exact K58 _ _ _ (by have := rng64 (own_min q0 q1); rw [own_M]; omega)
  · refine own_go (B := T9.setTop (mkF m 37 #[.val (.long q0), .second, .val (.long q1), .second, .val (.int p2), .val (.long (own_min q0 q1)), .second, .val (.long (own_max q0 q1)), .second, .val (.int (p2 &&& (3 : Int32))), .unset, .unset, .unset, .unset] [(.int (2 : Int32)), (.int (p2 &&& (3 : Int32)))])) (fun t_ k_ => ?_) ?_
    · show Steps p.tables e below (T9.setTop (mkF m 23 #[.val (.long q0), .second, .val (.long q1), .second, .val (.int p2), .val (.long (own_min q0 q1)), .second, .val (.long (own_max q0 q1)), .second, .val (.int (p2 &&& (3 : Int32))), .unset, .unset, .unset, .unset] [(.int (1 : Int32)), (.int (p2 &&& (3 : Int32)))])) _
      refine XS.icmpYes X9.here hx rfl (pc0 := 23) (pc' := 34) rfl (hb hby at_23) rfl (feq hc23).2 (by decide) (by decide) ?_
      show Steps p.tables e below (T9.setTop (mkF m 34 #[.val (.long q0), .second, .val (.long q1), .second, .val (.int p2), .val (.long (own_min q0 q1)), .second, .val (.long (own_max q0 q1)), .second, .val (.int (p2 &&& (3 : Int32))), .unset, .unset, .unset, .unset] [])) _
      refine XS.iload X9.here hx rfl (hb hby at_34) rfl ?_
      show Steps p.tables e below (T9.setTop (mkF m 36 #[.val (.long q0), .second, .val (.long q1), .second, .val (.int p2), .val (.long (own_min q0 q1)), .second, .val (.long (own_max q0 q1)), .second, .val (.int (p2 &&& (3 : Int32))), .unset, .unset, .unset, .unset] [(.int (p2 &&& (3 : Int32)))])) _
      refine XS.iconst X9.here hx rfl (hb hby at_36) ?_
      show Steps p.tables e below (T9.setTop (mkF m 37 #[.val (.long q0), .second, .val (.long q1), .second, .val (.int p2), .val (.long (own_min q0 q1)), .second, .val (.long (own_max q0 q1)), .second, .val (.int (p2 &&& (3 : Int32))), .unset, .unset, .unset, .unset] [(.int (2 : Int32)), (.int (p2 &&& (3 : Int32)))])) _
      exact k_
    by_cases hc37 : (p2 &&& (3 : Int32)) = (2 : Int32)
    · refine own_go (B := T9.setTop (mkF m 58 #[.val (.long q0), .second, .val (.long q1), .second, .val (.int p2), .val (.long (-9223372036854775808 : Int64)), .second, .val (.long (own_max q0 q1)), .second, .val (.int (p2 &&& (3 : Int32))), .unset, .unset, .unset, .unset] [])) (fun t_ k_ => ?_) ?_
      · show Steps p.tables e below (T9.setTop (mkF m 37 #[.val (.long q0), .second, .val (.long q1), .second, .val (.int p2), .val (.long (own_min q0 q1)), .second, .val (.long (own_max q0 q1)), .second, .val (.int (p2 &&& (3 : Int32))), .unset, .unset, .unset, .unset] [(.int (2 : Int32)), (.int (p2 &&& (3 : Int32)))])) _
        refine XS.icmpNo X9.here hx rfl (hb hby at_37) rfl (teq hc37).2 ?_
        show Steps p.tables e below (T9.setTop (mkF m 40 #[.val (.long q0), .second, .val (.long q1), .second, .val (.int p2), .val (.long (own_min q0 q1)), .second, .val (.long (own_max q0 q1)), .second, .val (.int (p2 &&& (3 : Int32))), .unset, .unset, .unset, .unset] [])) _
        refine X9.ldc2Long hx hown (mvT hZ (hw _ (List.mem_of_getElem? (i := 13) rfl))) (g := (mkF m 40 #[.val (.long q0), .second, .val (.long q1), .second, .val (.int p2), .val (.long (own_min q0 q1)), .second, .val (.long (own_max q0 q1)), .second, .val (.int (p2 &&& (3 : Int32))), .unset, .unset, .unset, .unset] [])) rfl (hb hby at_40) _ ?_
        show Steps p.tables e below (T9.setTop (mkF m 43 #[.val (.long q0), .second, .val (.long q1), .second, .val (.int p2), .val (.long (own_min q0 q1)), .second, .val (.long (own_max q0 q1)), .second, .val (.int (p2 &&& (3 : Int32))), .unset, .unset, .unset, .unset] [(.long (-9223372036854775808 : Int64))])) _
        refine XS.lstore X9.here hx rfl (hb hby at_43) rfl (l' := #[.val (.long q0), .second, .val (.long q1), .second, .val (.int p2), .val (.long (-9223372036854775808 : Int64)), .second, .val (.long (own_max q0 q1)), .second, .val (.int (p2 &&& (3 : Int32))), .unset, .unset, .unset, .unset]) rfl ?_
        show Steps p.tables e below (T9.setTop (mkF m 45 #[.val (.long q0), .second, .val (.long q1), .second, .val (.int p2), .val (.long (-9223372036854775808 : Int64)), .second, .val (.long (own_max q0 q1)), .second, .val (.int (p2 &&& (3 : Int32))), .unset, .unset, .unset, .unset] [])) _
        refine XS.goto X9.here hx rfl (pc0 := 45) (pc' := 58) rfl (hb hby at_45) (by decide) (by decide) ?_
        show Steps p.tables e below (T9.setTop (mkF m 58 #[.val (.long q0), .second, .val (.long q1), .second, .val (.int p2), .val (.long (-9223372036854775808 : Int64)), .second, .val (.long (own_max q0 q1)), .second, .val (.int (p2 &&& (3 : Int32))), .unset, .unset, .unset, .unset] [])) _
        exact k_
      exact K58 _ _ _ (by have := rng64 (own_max q0 q1); rw [own_m]; omega)
    · refine own_go (B := T9.setTop (mkF m 51 #[.val (.long q0), .second, .val (.long q1), .second, .val (.int p2), .val (.long (own_min q0 q1)), .second, .val (.long (own_max q0 q1)), .second, .val (.int (p2 &&& (3 : Int32))), .unset, .unset, .unset, .unset] [(.int (3 : Int32)), (.int (p2 &&& (3 : Int32)))])) (fun t_ k_ => ?_) ?_
      · show Steps p.tables e below (T9.setTop (mkF m 37 #[.val (.long q0), .second, .val (.long q1), .second, .val (.int p2), .val (.long (own_min q0 q1)), .second, .val (.long (own_max q0 q1)), .second, .val (.int (p2 &&& (3 : Int32))), .unset, .unset, .unset, .unset] [(.int (2 : Int32)), (.int (p2 &&& (3 : Int32)))])) _
        refine XS.icmpYes X9.here hx rfl (pc0 := 37) (pc' := 48) rfl (hb hby at_37) rfl (feq hc37).2 (by decide) (by decide) ?_
        show Steps p.tables e below (T9.setTop (mkF m 48 #[.val (.long q0), .second, .val (.long q1), .second, .val (.int p2), .val (.long (own_min q0 q1)), .second, .val (.long (own_max q0 q1)), .second, .val (.int (p2 &&& (3 : Int32))), .unset, .unset, .unset, .unset] [])) _
        refine XS.iload X9.here hx rfl (hb hby at_48) rfl ?_
        show Steps p.tables e below (T9.setTop (mkF m 50 #[.val (.long q0), .second, .val (.long q1), .second, .val (.int p2), .val (.long (own_min q0 q1)), .second, .val (.long (own_max q0 q1)), .second, .val (.int (p2 &&& (3 : Int32))), .unset, .unset, .unset, .unset] [(.int (p2 &&& (3 : Int32)))])) _
        refine XS.iconst X9.here hx rfl (hb hby at_50) ?_
        show Steps p.tables e below (T9.setTop (mkF m 51 #[.val (.long q0), .second, .val (.long q1), .second, .val (.int p2), .val (.long (own_min q0 q1)), .second, .val (.long (own_max q0 q1)), .second, .val (.int (p2 &&& (3 : Int32))), .unset, .unset, .unset, .unset] [(.int (3 : Int32)), (.int (p2 &&& (3 : Int32)))])) _
        exact k_
      by_cases hc51 : (p2 &&& (3 : Int32)) = (3 : Int32)
      · refine own_go (B := T9.setTop (mkF m 58 #[.val (.long q0), .second, .val (.long q1), .second, .val (.int p2), .val (.long (own_min q0 q1)), .second, .val (.long (own_min q0 q1)), .second, .val (.int (p2 &&& (3 : Int32))), .unset, .unset, .unset, .unset] [])) (fun t_ k_ => ?_) ?_
        · show Steps p.tables e below (T9.setTop (mkF m 51 #[.val (.long q0), .second, .val (.long q1), .second, .val (.int p2), .val (.long (own_min q0 q1)), .second, .val (.long (own_max q0 q1)), .second, .val (.int (p2 &&& (3 : Int32))), .unset, .unset, .unset, .unset] [(.int (3 : Int32)), (.int (p2 &&& (3 : Int32)))])) _
          refine XS.icmpNo X9.here hx rfl (hb hby at_51) rfl (teq hc51).2 ?_
          show Steps p.tables e below (T9.setTop (mkF m 54 #[.val (.long q0), .second, .val (.long q1), .second, .val (.int p2), .val (.long (own_min q0 q1)), .second, .val (.long (own_max q0 q1)), .second, .val (.int (p2 &&& (3 : Int32))), .unset, .unset, .unset, .unset] [])) _
          refine XS.lload X9.here hx rfl (hb hby at_54) rfl ?_
          show Steps p.tables e below (T9.setTop (mkF m 56 #[.val (.long q0), .second, .val (.long q1), .second, .val (.int p2), .val (.long (own_min q0 q1)), .second, .val (.long (own_max q0 q1)), .second, .val (.int (p2 &&& (3 : Int32))), .unset, .unset, .unset, .unset] [(.long (own_min q0 q1))])) _
          refine XS.lstore X9.here hx rfl (hb hby at_56) rfl (l' := #[.val (.long q0), .second, .val (.long q1), .second, .val (.int p2), .val (.long (own_min q0 q1)), .second, .val (.long (own_min q0 q1)), .second, .val (.int (p2 &&& (3 : Int32))), .unset, .unset, .unset, .unset]) rfl ?_
          show Steps p.tables e below (T9.setTop (mkF m 58 #[.val (.long q0), .second, .val (.long q1), .second, .val (.int p2), .val (.long (own_min q0 q1)), .second, .val (.long (own_min q0 q1)), .second, .val (.int (p2 &&& (3 : Int32))), .unset, .unset, .unset, .unset] [])) _
          exact k_
        exact K58 _ _ _ (Int.le_refl _)
      · refine own_go (B := T9.setTop (mkF m 58 #[.val (.long q0), .second, .val (.long q1), .second, .val (.int p2), .val (.long (own_min q0 q1)), .second, .val (.long (own_max q0 q1)), .second, .val (.int (p2 &&& (3 : Int32))), .unset, .unset, .unset, .unset] [])) (fun t_ k_ => ?_) ?_
        · show Steps p.tables e below (T9.setTop (mkF m 51 #[.val (.long q0), .second, .val (.long q1), .second, .val (.int p2), .val (.long (own_min q0 q1)), .second, .val (.long (own_max q0 q1)), .second, .val (.int (p2 &&& (3 : Int32))), .unset, .unset, .unset, .unset] [(.int (3 : Int32)), (.int (p2 &&& (3 : Int32)))])) _
          refine XS.icmpYes X9.here hx rfl (pc0 := 51) (pc' := 58) rfl (hb hby at_51) rfl (feq hc51).2 (by decide) (by decide) ?_
          show Steps p.tables e below (T9.setTop (mkF m 58 #[.val (.long q0), .second, .val (.long q1), .second, .val (.int p2), .val (.long (own_min q0 q1)), .second, .val (.long (own_max q0 q1)), .second, .val (.int (p2 &&& (3 : Int32))), .unset, .unset, .unset, .unset] [])) _
          exact k_
        exact K58 _ _ _ (own_mm q0 q1)
set_option maxRecDepth 65536 in
set_option maxHeartbeats 40000000 in
theorem comes_1 {Post : Tables → Env → Array Value → State → Outcome → State → Prop} (hpost : ∀ tb e args s v u, (limb_1_1.after args s (.returned v) u = true ∧ limb_1_2.after args s (.returned v) u = true ∧ True) → FrameEnd s (.returned v) u (Jvm.fieldLocs frame_1_writes args s ++ Jvm.arrayLocs frame_1_arrays args s ++ Jvm.staticLocs frame_1_statics s) 0 0 → Post tb e args s (.returned v) u) :
    ArmFor flags0 classFile x code maxLocals ret World_1 tables_1 room_1 Calls_1 rest_1 Pre_1 Post := by
  intro l hfl _ _ p e ha hc hk s m args below hf hA hF happ hP
  obtain ⟨hcalls, hrest, hpre⟩ := hP
  obtain ⟨-, -, -, hnamed, -, -, -, hat⟩ := (Spec.applies_iff hf).mp happ
  obtain ⟨hg, hn⟩ := and_e (Cond.before_iff.mp (show (Jvm.Cond.and given_1 narrow_1).before args s = true from hpre))
  obtain ⟨hcnt, gs0⟩ := and_e hg
  obtain ⟨ga0, gs1⟩ := and_e gs0
  obtain ⟨ga1, gs2⟩ := and_e gs1
  obtain ⟨w0, w1, w2, rfl⟩ : ∃ w0 w1 w2 : Value, args = #[w0, w1, w2] := by
    have hs : args.size = 3 := by simpa [Cond.value, given_1] using hcnt
    obtain ⟨L⟩ := args
    match L, hs with
    | [w0, w1, w2], _ => exact ⟨w0, w1, w2, rfl⟩
  have hw := fun d (hd : d ∈ tables_1) => atoms_spec (ws := Jvm.Cond.code x code maxLocals ret :: tables_1) hat d (List.mem_cons_of_mem _ hd)
  have hfit : Fit s := fun {y c} hc i hi => by
    obtain ⟨ha, rfl⟩ := Array.getElem?_eq_some_iff.mp hc
    have q := List.all_eq_true.mp ((Array.all_eq_true_iff_forall_mem.mp hF) _ (Array.getElem_mem ha)) i (List.mem_range.mpr hi)
    simpa [Array.getElem?_eq_getElem hi] using q
  obtain ⟨i0, ei0⟩ := isL_v ga0
  obtain rfl : w0 = (.long i0) := Option.some.inj ei0
  obtain ⟨i1, ei1⟩ := isL_v ga1
  obtain rfl : w1 = (.long i1) := Option.some.inj ei1
  obtain ⟨i2, ei2⟩ := is_v gs2
  obtain rfl : w2 = (.int i2) := Option.some.inj ei2
  obtain ⟨n, o, h1, h2, h3, _, L, rfl, ⟨rfl, N⟩, hq⟩ := rm0 l s _ hw tables_1 i0 i1 i2 s.heap s.heap.size (Nat.le_refl _)  p e ha hc hk s m _ below hf ((Spec.applies_iff_loose hf).mp happ).1 ⟨rfl, State.Warmed39.refl s, rfl⟩ trivial
  refine ⟨n, _, h1, h2, h3, hpost _ _ _ _ _ _ ⟨Cond.after_iff.mpr rfl, Cond.after_iff.mpr (eq_i res_at (Term.int_eval (1)) rfl), trivial⟩ ⟨hq.1, hq.2.1, (hq.2.2.sift fun y hy => Or.inr (N y hy)).mono (by decide) (by decide)⟩⟩
theorem main_1_1 : Claimed_1_1 := comes_1 fun _ _ _ _ _ _ h hF => ⟨h.1, hF⟩
theorem main_1_2 : Claimed_1_2 := comes_1 fun _ _ _ _ _ _ h hF => ⟨h.2.1, hF⟩
end Jvm.Pilot.@@N@@
namespace Jvm.Pilot.@@N@@
open Jvm Jvm.ClassFile Sem Op Lib Jvm.Free Jvm.Stand Jvm.Pilot.@@N@@.Jvm.D
/-! MADE BY PROGRAM (witnessworld.py) out of the Statement's table words and the real class files: 10 classes; the members and pool entries that the words name. The judged class is class 1, her method 1. -/
namespace start1
open Jvm.ClassFile
def u (s : String) : CpInfo := .utf8 (stringToUtf16 s)
/-- a pool by its gaps: so many unusable entries, then the entry; so many at the end -/
def gap : Nat → List CpInfo → List CpInfo
  | 0, r => r
  | n + 1, r => .unusable :: gap n r
def poolList (es : List (Nat × CpInfo)) (last : Nat) : List CpInfo := es.foldr (fun e r => gap e.1 (e.2 :: r)) (gap last [])
def pool (es : List (Nat × CpInfo)) (last : Nat) : Array CpInfo := ⟨poolList es last⟩
def fileOf (pool : Array CpInfo) (this : Nat) (attrs : Array Attribute := #[]) (ms : Array MethodInfo := #[]) (fl : Nat := 33) (sup : Nat := 0) (ifs : Array Nat := #[]) (fds : Array FieldInfo := #[]) : ClassFile where
  minorVersion := 0
  majorVersion := 65
  constantPool := pool
  accessFlags := fl
  thisClass := this
  superClass := sup
  interfaces := ifs
  fields := fds
  methods := ms
  attributes := attrs
def plain (name : String) (sup : Option ClassId) : Class where
  name := name
  kind := .ordinary
  loader := none
  accessFlags := 33
  super := sup
  interfaces := #[]
  cf := none
  fields := #[]
  methods := #[]
  instanceTypes := #[]
  staticTypes := #[]
  resolved := #[]
  callSites := []
  init := .initialized
  statics := none
  mirror := none

def pool0 : Array CpInfo := pool [(5, u "<init>"), (0, u "()V"), (1, .class_ 10), (1, u "java/lang/Object")] 113

def k0m0 : Method := { name := "<init>", desc := "()V", sig := { parameters := [], returnType := none }, accessFlags := 1, code := none }
/-- java/lang/Object -/
def k0 : Class := { plain "java/lang/Object" none with
  accessFlags := 33
  interfaces := #[]
  cf := some (fileOf pool0 8 #[] #[{ accessFlags := 1, nameIndex := 5, descriptorIndex := 6, attributes := #[] }] 33 0 #[] #[])
  fields := #[]
  methods := #[k0m0]
  instanceTypes := #[]
  staticTypes := #[]
  resolved := Array.replicate 124 none
  statics := none }

def pool1 : Array CpInfo := pool [(2, .class_ 4), (1, u "java/lang/Object"), (0, u "<init>"), (0, u "()V"), (0, .methodref 8 9), (0, .class_ 10), (0, .nameAndType 11 12), (0, u "java/lang/Math"), (0, u "min"), (0, u "(JJ)J"), (0, .methodref 8 14), (0, .nameAndType 15 12), (0, u "max"), (2, .long 9223372036854775807), (1, .long 9223372036854775808), (1, .methodref 23 24), (0, .class_ 25), (0, .nameAndType 26 12), (0, u "com/example/adfair/adfair/Limits"), (0, u "longestEndingBy"), (0, .class_ 28), (0, u "com/example/adfair/adfair/LimitsLongestEndingByPinLaw"), (2, u "law"), (0, u "(JJI)Z")] 3

def k1m0 : Method := { name := "<init>", desc := "()V", sig := { parameters := [], returnType := none }, accessFlags := 1, code := none }
def k1c1 : Code := { maxStack := 6, maxLocals := 14, code := code, exceptionTable := #[], attributes := #[] }
def k1m1 : Method := { name := "law", desc := "(JJI)Z", sig := { parameters := [.long, .long, .int], returnType := some .boolean }, accessFlags := 9, code := some k1c1 }
/-- com/example/adfair/adfair/LimitsLongestEndingByPinLaw -/
def k1 : Class := { plain "com/example/adfair/adfair/LimitsLongestEndingByPinLaw" (some 0) with
  accessFlags := 49
  interfaces := #[]
  cf := some (fileOf pool1 27 #[] #[{ accessFlags := 1, nameIndex := 5, descriptorIndex := 6, attributes := #[] }, { accessFlags := 9, nameIndex := 31, descriptorIndex := 32, attributes := #[] }] 49 2 #[] #[])
  fields := #[]
  methods := #[k1m0, k1m1]
  instanceTypes := #[]
  staticTypes := #[]
  resolved := Array.replicate 36 none
  statics := none }

def pool2 : Array CpInfo := pool [(1, .class_ 2), (0, u "java/lang/Math"), (1, .class_ 6), (1, u "java/lang/Object"), (0, u "<init>"), (0, u "()V"), (89, .class_ 100), (1, u "java/lang/Math$RandomNumberGeneratorHolder"), (20, u "(JJ)J"), (50, u "negativeZeroFloatBits"), (0, u "J"), (2, u "negativeZeroDoubleBits"), (21, u "max"), (2, u "min"), (43, u "$assertionsDisabled"), (0, u "Z"), (91, u "twoToTheDoubleScaleDown"), (0, u "D"), (4, u "twoToTheDoubleScaleUp"), (9, u "E"), (3, u "PI"), (2, u "TAU"), (2, u "DEGREES_TO_RADIANS"), (0, u "RADIANS_TO_DEGREES")] 94

def k2m0 : Method := { name := "<init>", desc := "()V", sig := { parameters := [], returnType := none }, accessFlags := 2, code := none }
def k2c1 : Code := { maxStack := 4, maxLocals := 4, code := jdk_29_method_66_code, exceptionTable := #[], attributes := #[] }
def k2m1 : Method := { name := "max", desc := "(JJ)J", sig := { parameters := [.long, .long], returnType := some .long }, accessFlags := 9, code := some k2c1 }
def k2c2 : Code := { maxStack := 4, maxLocals := 4, code := jdk_29_method_70_code, exceptionTable := #[], attributes := #[] }
def k2m2 : Method := { name := "min", desc := "(JJ)J", sig := { parameters := [.long, .long], returnType := some .long }, accessFlags := 9, code := some k2c2 }
/-- java/lang/Math -/
def k2 : Class := { plain "java/lang/Math" (some 0) with
  accessFlags := 49
  interfaces := #[]
  cf := some (fileOf pool2 1 #[.nestMembers #[98]] #[{ accessFlags := 2, nameIndex := 7, descriptorIndex := 8, attributes := #[] }, { accessFlags := 9, nameIndex := 198, descriptorIndex := 121, attributes := #[] }, { accessFlags := 9, nameIndex := 201, descriptorIndex := 121, attributes := #[] }] 49 4 #[] #[{ accessFlags := 25, nameIndex := 354, descriptorIndex := 339, attributes := #[] }, { accessFlags := 25, nameIndex := 358, descriptorIndex := 339, attributes := #[] }, { accessFlags := 25, nameIndex := 361, descriptorIndex := 339, attributes := #[] }, { accessFlags := 26, nameIndex := 364, descriptorIndex := 339, attributes := #[] }, { accessFlags := 26, nameIndex := 365, descriptorIndex := 339, attributes := #[] }, { accessFlags := 26, nameIndex := 172, descriptorIndex := 173, attributes := #[] }, { accessFlags := 26, nameIndex := 176, descriptorIndex := 173, attributes := #[] }, { accessFlags := 8, nameIndex := 344, descriptorIndex := 339, attributes := #[] }, { accessFlags := 8, nameIndex := 338, descriptorIndex := 339, attributes := #[] }, { accessFlags := 4120, nameIndex := 245, descriptorIndex := 246, attributes := #[] }])
  fields := #[{ name := "E", type := .double, accessFlags := 25, slot := 0, constantValue := 0 }, { name := "PI", type := .double, accessFlags := 25, slot := 1, constantValue := 0 }, { name := "TAU", type := .double, accessFlags := 25, slot := 2, constantValue := 0 }, { name := "DEGREES_TO_RADIANS", type := .double, accessFlags := 26, slot := 3, constantValue := 0 }, { name := "RADIANS_TO_DEGREES", type := .double, accessFlags := 26, slot := 4, constantValue := 0 }, { name := "negativeZeroFloatBits", type := .long, accessFlags := 26, slot := 5, constantValue := 0 }, { name := "negativeZeroDoubleBits", type := .long, accessFlags := 26, slot := 6, constantValue := 0 }, { name := "twoToTheDoubleScaleUp", type := .double, accessFlags := 8, slot := 7, constantValue := 0 }, { name := "twoToTheDoubleScaleDown", type := .double, accessFlags := 8, slot := 8, constantValue := 0 }, { name := "$assertionsDisabled", type := .boolean, accessFlags := 4120, slot := 9, constantValue := 0 }]
  methods := #[k2m0, k2m1, k2m2]
  instanceTypes := #[]
  staticTypes := #[.double, .double, .double, .double, .double, .long, .long, .double, .double, .boolean]
  resolved := Array.replicate 460 none
  statics := none }

def pool3 : Array CpInfo := pool [(2, .class_ 4), (1, u "java/lang/Object"), (0, u "<init>"), (0, u "()V"), (4, .class_ 13), (1, u "com/example/adfair/adfair/Limits"), (0, u "ends"), (0, u "Ljava/util/Map;"), (5, u "pointsByEnd"), (0, u "Ljava/util/TreeMap;"), (2, .long 9223372036854775807), (21, u "held"), (0, u "J"), (80, u "(JJ)J"), (7, u "longestEndingBy")] 40

def k3m0 : Method := { name := "<init>", desc := "()V", sig := { parameters := [], returnType := none }, accessFlags := 0, code := none }
def k3c1 : Code := { maxStack := 4, maxLocals := 6, code := prog_18_method_3_code, exceptionTable := #[], attributes := #[] }
def k3m1 : Method := { name := "longestEndingBy", desc := "(JJ)J", sig := { parameters := [.long, .long], returnType := some .long }, accessFlags := 8, code := some k3c1 }
/-- com/example/adfair/adfair/Limits -/
def k3 : Class := { plain "com/example/adfair/adfair/Limits" (some 0) with
  accessFlags := 32
  interfaces := #[]
  cf := some (fileOf pool3 11 #[] #[{ accessFlags := 0, nameIndex := 5, descriptorIndex := 6, attributes := #[] }, { accessFlags := 8, nameIndex := 137, descriptorIndex := 129, attributes := #[] }] 32 2 #[] #[{ accessFlags := 18, nameIndex := 14, descriptorIndex := 15, attributes := #[] }, { accessFlags := 18, nameIndex := 21, descriptorIndex := 22, attributes := #[] }, { accessFlags := 2, nameIndex := 47, descriptorIndex := 48, attributes := #[] }])
  fields := #[{ name := "ends", type := (.object "java/util/Map"), accessFlags := 18, slot := 0, constantValue := 0 }, { name := "pointsByEnd", type := (.object "java/util/TreeMap"), accessFlags := 18, slot := 1, constantValue := 0 }, { name := "held", type := .long, accessFlags := 2, slot := 2, constantValue := 0 }]
  methods := #[k3m0, k3m1]
  instanceTypes := #[(.object "java/util/Map"), (.object "java/util/TreeMap"), .long]
  staticTypes := #[]
  resolved := Array.replicate 178 none
  statics := none }

def pool4 : Array CpInfo := pool [(1, u "java/lang/Cloneable"), (0, .class_ 1), (0, u "java/lang/Object"), (0, .class_ 3)] 3

/-- java/lang/Cloneable -/
def k4 : Class := { plain "java/lang/Cloneable" (some 0) with
  accessFlags := 1537
  interfaces := #[]
  cf := some (fileOf pool4 2 #[] #[] 1537 4 #[] #[])
  fields := #[]
  methods := #[]
  instanceTypes := #[]
  staticTypes := #[]
  resolved := Array.replicate 8 none
  statics := none }

def pool5 : Array CpInfo := pool [(1, u "java/io/Serializable"), (0, .class_ 1), (0, u "java/lang/Object"), (0, .class_ 3)] 3

/-- java/io/Serializable -/
def k5 : Class := { plain "java/io/Serializable" (some 0) with
  accessFlags := 1537
  interfaces := #[]
  cf := some (fileOf pool5 2 #[] #[] 1537 4 #[] #[])
  fields := #[]
  methods := #[]
  instanceTypes := #[]
  staticTypes := #[]
  resolved := Array.replicate 8 none
  statics := none }

/-- the primitive byte -/
def k6 : Class := { plain "byte" none with kind := .primitive 'B', accessFlags := 0x411 }
/-- [B -/
def k7 : Class := { plain "[B" (some 0) with kind := .array 6 .byte, interfaces := #[4, 5], accessFlags := 1041 }

/-- the primitive int -/
def k8 : Class := { plain "int" none with kind := .primitive 'I', accessFlags := 0x411 }
/-- [I -/
def k9 : Class := { plain "[I" (some 0) with kind := .array 8 .int, interfaces := #[4, 5], accessFlags := 1041 }

def heap : Heap := #[]
def classes : Array Class := #[k0, k1, k2, k3, k4, k5, k6, k7, k8, k9]
def interned : List (Array UInt16 × Addr) := []
def slotsUsed : Nat := 0
def theMethod : MethodId := ⟨1, 1⟩
def args0 : Array Value := #[.long 5, .long 9, .int 0]
def aboutOver (below : List Frame) : State where
  vm := { classes := classes, interned := interned.toArray }
  heap := heap
  slotsUsed := slotsUsed
  threads := #[{ frames := .invoking theMethod args0 :: below }]
def below0 : List Frame := [.native { method := ⟨0, 0⟩, args := #[] }]
def about1 : State := aboutOver below0
def p0 : Program := .bare "" "" ""
def e0 : Env := launch0.env 0 0 0
theorem w_frames : about1.frames = Frame.invoking theMethod args0 :: below0 := rfl
set_option maxRecDepth 65536 in
theorem w_args : argsFit about1.vm theMethod args0 = true := by decide +kernel
set_option maxRecDepth 65536 in
theorem w_heap : heapFits about1 = true := by decide +kernel
set_option maxRecDepth 65536 in
theorem w_runnable : about1.curStatus? = some .runnable := by decide +kernel
set_option maxRecDepth 65536 in
theorem w_alone : about1.alone = true := by decide +kernel
set_option maxRecDepth 65536 in
theorem w_named : about1.methodNamed? x = some theMethod := by decide +kernel
set_option maxRecDepth 65536 in
theorem w_hears : about1.hears theMethod below0 = true := by decide +kernel
set_option maxRecDepth 65536 in
theorem w_ripe : about1.ripe theMethod args0 below0 = true := by decide +kernel
theorem w_running : about1.status = .running := rfl
set_option maxRecDepth 65536 in
theorem w_room : about1.hasRoom e0.platform room_1 = true :=
  launch0.hasRoom_least _ room_1 (by decide +kernel) (by decide +kernel) (by decide +kernel) (by decide +kernel) (by decide +kernel) (by decide +kernel)
theorem allAtoms_all (ts : List Jvm.Cond) (a : Array Jvm.Value) (st : Jvm.State) : (allAtoms ts).before a st = ts.all (fun c => c.before a st) := by
  induction ts with
  | nil => rfl
  | cons c t ih =>
    show (Jvm.Cond.and c (allAtoms t)).before a st = _
    rw [Jvm.Cond.before_and, ih, List.all_cons]
def words1 : List Jvm.Cond := Jvm.Cond.code x code maxLocals ret :: tables_1
/-- a 'code' word, met by the world's own term for the bytes: nothing is compared byte by byte -/
theorem code_word {y : MethodName} {bytes : ByteArray} {mx : Nat} {rt : Option FieldType} {a : Array Value} {s : State} {m : MethodId} {meth : Method} {c : Code} (h1 : s.methodNamed? y = some m) (h2 : s.vm.method? m = some meth) (h3 : meth.code = some c) (h4 : c.code = bytes)
    (h5 : (c.maxLocals == mx && c.exceptionTable.isEmpty && decide (c.maxStack ≤ mostOperands) && decide (meth.sig.returnType = rt) && !meth.locks && decide (parseMethodDescriptor y.desc = some meth.sig)) = true) : (Jvm.Cond.code y bytes mx rt).before a s = true := by
  simp only [Bool.and_eq_true, beq_iff_eq, Bool.not_eq_true', decide_eq_true_eq] at h5
  obtain ⟨⟨⟨⟨⟨g1, g2⟩, g3⟩, g4⟩, g5⟩, g6⟩ := h5
  simp [Cond.before, Cond.holds, Cond.value, h1, h2, h3, h4, g1, g2, g3, g4, g5, g6]
def isCode : Jvm.Cond → Bool
  | .code _ _ _ _ => true
  | _ => false
theorem all_split {L : List Jvm.Cond} {P : Jvm.Cond → Bool} (h1 : L.all (fun c => isCode c || P c) = true) (h2 : ∀ c ∈ L.filter isCode, P c = true) : L.all P = true := by
  refine List.all_eq_true.mpr fun c hc => ?_
  have h := List.all_eq_true.mp h1 c hc
  rcases Bool.eq_false_or_eq_true (isCode c) with hi | hi
  · exact h2 c (List.mem_filter.mpr ⟨hc, hi⟩)
  · simpa [hi] using h
set_option maxRecDepth 65536 in
theorem w_c0 : (Jvm.Cond.code x code maxLocals ret).before args0 about1 = true := code_word (m := ⟨1, 1⟩) (meth := k1m1) (c := k1c1) (by decide +kernel) rfl rfl rfl (by decide +kernel)
set_option maxRecDepth 65536 in
theorem w_c1 : (Jvm.Cond.code ({ cls := "java/lang/Math", name := "min", desc := "(JJ)J" } : Jvm.MethodName) jdk_29_method_70_code (4 : Nat) (Option.some Jvm.ClassFile.FieldType.long)).before args0 about1 = true := code_word (m := ⟨2, 2⟩) (meth := k2m2) (c := k2c2) (by decide +kernel) rfl rfl rfl (by decide +kernel)
set_option maxRecDepth 65536 in
theorem w_c2 : (Jvm.Cond.code ({ cls := "java/lang/Math", name := "max", desc := "(JJ)J" } : Jvm.MethodName) jdk_29_method_66_code (4 : Nat) (Option.some Jvm.ClassFile.FieldType.long)).before args0 about1 = true := code_word (m := ⟨2, 1⟩) (meth := k2m1) (c := k2c1) (by decide +kernel) rfl rfl rfl (by decide +kernel)
set_option maxRecDepth 65536 in
theorem w_c3 : (Jvm.Cond.code ({ cls := "com/example/adfair/adfair/Limits", name := "longestEndingBy", desc := "(JJ)J" } : Jvm.MethodName) prog_18_method_3_code (6 : Nat) (Option.some Jvm.ClassFile.FieldType.long)).before args0 about1 = true := code_word (m := ⟨3, 1⟩) (meth := k3m1) (c := k3c1) (by decide +kernel) rfl rfl rfl (by decide +kernel)
def codes1 : List Jvm.Cond := [Jvm.Cond.code x code maxLocals ret, Jvm.Cond.code ({ cls := "java/lang/Math", name := "min", desc := "(JJ)J" } : Jvm.MethodName) jdk_29_method_70_code (4 : Nat) (Option.some Jvm.ClassFile.FieldType.long), Jvm.Cond.code ({ cls := "java/lang/Math", name := "max", desc := "(JJ)J" } : Jvm.MethodName) jdk_29_method_66_code (4 : Nat) (Option.some Jvm.ClassFile.FieldType.long), Jvm.Cond.code ({ cls := "com/example/adfair/adfair/Limits", name := "longestEndingBy", desc := "(JJ)J" } : Jvm.MethodName) prog_18_method_3_code (6 : Nat) (Option.some Jvm.ClassFile.FieldType.long)]
set_option maxRecDepth 65536 in
theorem codes_eq : words1.filter isCode = codes1 := rfl
theorem w_codes : ∀ c ∈ words1.filter isCode, c.before args0 about1 = true := by
  rw [codes_eq]
  intro c hc
  simp only [codes1, List.mem_cons, List.not_mem_nil, or_false] at hc
  rcases hc with rfl | rfl | rfl | rfl
  · exact w_c0
  · exact w_c1
  · exact w_c2
  · exact w_c3
set_option maxRecDepth 65536 in
theorem w_t1 : words1.all (fun c => isCode c || c.before args0 about1) = true := by decide +kernel
theorem w_tables : (allAtoms (Jvm.Cond.code x code maxLocals ret :: tables_1)).before args0 about1 = true := by
  rw [allAtoms_all]
  show words1.all (fun c => c.before args0 about1) = true
  refine all_split ?_ w_codes
  rw [w_t1]
set_option maxRecDepth 65536 in
theorem w_case : (Jvm.Cond.and given_1 narrow_1).before args0 about1 = true := by decide +kernel
theorem w_applies : (headSpec (Jvm.Cond.code x code maxLocals ret :: tables_1) room_1).applies x e0.platform about1 = true :=
  (Spec.applies_iff w_frames).mpr ⟨w_running, w_runnable, w_alone, w_named, w_hears, w_ripe, w_room, w_tables⟩
theorem atStart : AtStart classFile x code maxLocals ret World_1 tables_1 room_1 Calls_1 rest_1 Pre_1 launch0 p0 e0 about1 theMethod args0 below0 :=
  ⟨lists_1, trivial, launch0.admits_env _ _ _, launch0.least_env, fairChoices_fair.cas, fairChoices_fair.clock, w_frames, w_args, w_heap, w_applies, trivial, trivial, w_case⟩
end start1
theorem witness_1 : WitnessClaimed_1 := ⟨start1.p0, start1.e0, start1.about1, start1.theMethod, start1.args0, start1.below0, start1.atStart⟩
end Jvm.Pilot.@@N@@
