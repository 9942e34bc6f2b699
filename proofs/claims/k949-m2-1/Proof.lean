import JvmDerived
import JvmDerived.Pilot.@@N@@Statement
import JvmDerived.Pilot.@@N@@Code
set_option linter.unusedVariables false
set_option linter.unusedSimpArgs false
namespace Jvm.RoadKit
open Sem ClassFile Op Lib Jvm.Stand Jvm.Free Jvm.LawKit
section New
variable {p : Program} {l : Launch} {e : Env} {R : Room} {s : State} {m : MethodId} {args : Array Value} {below : List Frame} {meth : Method} {c : Code} {T : State} {locs : List Loc} {cells slots : Nat}
theorem retI (X : Stand p l e R s m args below meth c T locs cells slots) (hx : p.tables.exec = Jvm.exec) {pc : Nat} {Ls : Array Slot} {z : Int32} {rest : List Value} (hret : meth.sig.returnType = some .int) (hd : decode c.code pc = .ok (.ireturn, 1)) {fs : List Frame}
    (hl : ∀ (f : JFrame) (acts : List Action), f.method = m → f.locked = none → f.entered = [] → (doReturn e (T.setTop f) acts (some (.int z))).1 = T.setFrames fs) : Steps p.tables e below (T.setTop (mkF m pc Ls (.int z :: rest))) (T.setFrames fs) := by
  have hm' : T.vm.method? m = some meth := X.method'
  have hn : narrow .int (.int z) = .int z := rfl
  show Steps p.tables e below (T.setTop { method := m, pc := pc, locals := Ls, stack := _ :: rest, locked := none }) _
  jvm_step X.here [X.here.top, hx, hd, hm', hret, hn]
  first | (intro acts; rw [hl _ acts rfl rfl rfl]) | rw [hl _ _ rfl rfl rfl]
  exact Steps.refl _
end New
/-- from the state A the run comes to an end of which G speaks -/
def own_R (tb : Tables) (e : Env) (below : List Frame) (G : State → Outcome → Prop) (A : State) : Prop := ∃ s₂ o, Steps tb e below A s₂ ∧ G s₂ o
theorem own_go {tb : Tables} {e : Env} {below : List Frame} {G : State → Outcome → Prop} {A B : State} (k : ∀ t, Steps tb e below B t → Steps tb e below A t) (h : own_R tb e below G B) : own_R tb e below G A := by
  obtain ⟨s₂, o, hs, hp⟩ := h
  exact ⟨s₂, o, k _ hs, hp⟩
theorem own_open {tb : Tables} {e : Env} {below : List Frame} {A : State} {P : State → Outcome → Prop} (h : ∀ G : State → Outcome → Prop, (∀ s₂ o, P s₂ o → G s₂ o) → own_R tb e below G A) : ∃ s₂ o, Steps tb e below A s₂ ∧ P s₂ o := h P fun _ _ q => q
theorem own_at {tb : Tables} {e : Env} {below : List Frame} {G : State → Outcome → Prop} {A : State} {s₂ : State} {o : Outcome} (h : Steps tb e below A s₂) (g : G s₂ o) : own_R tb e below G A := ⟨s₂, o, h, g⟩
end Jvm.RoadKit
namespace Jvm.Pilot.@@N@@
open Jvm Jvm.ClassFile Sem Op Lib Jvm.Free Jvm.Stand Jvm.LawKit Jvm.RoadKit Bundle Jvm.Pilot.@@N@@.Jvm.D
theorem pd__28_JJ_29_J : parseMethodDescriptor "(JJ)J" = some ⟨[.long, .long], some .long⟩ := by decide +kernel
theorem pd__28_J_29_J : parseMethodDescriptor "(J)J" = some ⟨[.long], some .long⟩ := by decide +kernel
/-- the JDK's floor division, as its code goes -/
def own_fd (x y : Int64) : Int64 := if x ^^^ y < 0 then (if x / y * y = x then x / y else x / y - 1) else x / y
theorem own_t36 : (3600 : Int64).toInt = 3600 := by decide
theorem own_fd_val (x : Int64) : (own_fd x 3600).toInt = x.toInt / 3600 := by
  have a := rng64 x
  have d := c_ldiv x 3600 3600 own_t36 (by decide)
  have s := c_xorSL x 3600
  have m := c_lmul (x / 3600) 3600
  have rm := rng64 (x / 3600 * 3600)
  have u := c_lsub (x / 3600) 1
  have ru := rng64 (x / 3600 - 1)
  have z : (0 : Int64).toInt = 0 := by decide
  have o : (1 : Int64).toInt = 1 := by decide
  rw [own_t36] at s m
  rw [o] at u
  unfold own_fd
  by_cases h1 : x ^^^ 3600 < 0
  · rw [if_pos h1]
    have h1' := Int64.lt_iff_toInt_lt.mp h1
    rw [z] at h1'
    have hn : x.toInt < 0 := by omega
    have d' := d.2 hn
    have m' : (x / 3600 * 3600).toInt = (x / 3600).toInt * 3600 := by omega
    have u' : (x / 3600 - 1).toInt = (x / 3600).toInt - 1 := by omega
    clear m u
    by_cases h2 : x / 3600 * 3600 = x
    · rw [if_pos h2]
      have h2' : (x / 3600 * 3600).toInt = x.toInt := by rw [h2]
      omega
    · rw [if_neg h2]
      have h2' : ¬ (x / 3600 * 3600).toInt = x.toInt := fun q => h2 (Int64.toInt_inj.mp q)
      omega
  · rw [if_neg h1]
    have h1' : ¬ (x ^^^ 3600).toInt < 0 := fun q => h1 (Int64.lt_iff_toInt_lt.mpr (by rw [z]; exact q))
    have hn : 0 ≤ x.toInt := by omega
    have d' := d.1 hn
    omega
theorem own_hr {x : Int64} (h : ¬ x < (-9223372036854774000 : Int64)) : (own_fd x 3600 * 3600).toInt = x.toInt / 3600 * 3600 := by
  have a := rng64 x
  have v := own_fd_val x
  have m := c_lmul (own_fd x 3600) 3600
  have rm := rng64 (own_fd x 3600 * 3600)
  rw [own_t36, v] at m
  have l : (-9223372036854774000 : Int64).toInt = -9223372036854774000 := by decide
  have h' : ¬ x.toInt < -9223372036854774000 := fun q => h (Int64.lt_iff_toInt_lt.mpr (by rw [l]; exact q))
  omega
theorem own_1 {x : Int64} (h : ¬ x < (-9223372036854774000 : Int64)) : ¬ x < own_fd x 3600 * 3600 := by
  intro q
  have q' := Int64.lt_iff_toInt_lt.mp q
  rw [own_hr h] at q'
  omega
theorem own_gap {x : Int64} (h : ¬ x < (-9223372036854774000 : Int64)) : (x - own_fd x 3600 * 3600).toInt = x.toInt % 3600 := by
  have v := own_hr h
  have u := c_lsub x (own_fd x 3600 * 3600)
  have r := rng64 (x - own_fd x 3600 * 3600)
  have a := rng64 x
  rw [v] at u
  omega
theorem own_2 {x : Int64} (h : ¬ x < (-9223372036854774000 : Int64)) : ¬ x - own_fd x 3600 * 3600 < (0 : Int64) := by
  intro q
  have q' := Int64.lt_iff_toInt_lt.mp q
  have z : (0 : Int64).toInt = 0 := by decide
  rw [own_gap h, z] at q'
  omega
theorem own_3 {x : Int64} (h : ¬ x < (-9223372036854774000 : Int64)) : x - own_fd x 3600 * 3600 < (3600 : Int64) := by
  rw [Int64.lt_iff_toInt_lt, own_gap h, own_t36]
  omega
theorem own_4 {x : Int64} (h : ¬ x < (-9223372036854774000 : Int64)) : (own_fd x 3600 * 3600) - (own_fd x 3600 * 3600) / 3600 * 3600 = (0 : Int64) := by
  have v := own_hr h
  have r := c_lrem (own_fd x 3600 * 3600) 3600 3600 own_t36
  have z : (0 : Int64).toInt = 0 := by decide
  apply Int64.toInt_inj.mp
  rw [z]
  rw [v] at r
  by_cases hs : 0 ≤ x.toInt / 3600 * 3600
  · rw [r.1 hs]; omega
  · rw [r.2 (by omega)]; omega
theorem d2_0 : decode jdk_29_method_49_code 0 = .ok (.lload_n 0, 1) := by decide +kernel
theorem d2_1 : decode jdk_29_method_49_code 1 = .ok (.lload_n 2, 1) := by decide +kernel
theorem d2_2 : decode jdk_29_method_49_code 2 = .ok (.ldiv, 1) := by decide +kernel
theorem d2_3 : decode jdk_29_method_49_code 3 = .ok (.lstore 4, 2) := by decide +kernel
theorem d2_5 : decode jdk_29_method_49_code 5 = .ok (.lload_n 0, 1) := by decide +kernel
theorem d2_6 : decode jdk_29_method_49_code 6 = .ok (.lload_n 2, 1) := by decide +kernel
theorem d2_7 : decode jdk_29_method_49_code 7 = .ok (.lxor, 1) := by decide +kernel
theorem d2_8 : decode jdk_29_method_49_code 8 = .ok (.lconst 0, 1) := by decide +kernel
theorem d2_9 : decode jdk_29_method_49_code 9 = .ok (.lcmp, 1) := by decide +kernel
theorem d2_10 : decode jdk_29_method_49_code 10 = .ok (.ifCond .ge 17, 3) := by decide +kernel
theorem d2_13 : decode jdk_29_method_49_code 13 = .ok (.lload 4, 2) := by decide +kernel
theorem d2_15 : decode jdk_29_method_49_code 15 = .ok (.lload_n 2, 1) := by decide +kernel
theorem d2_16 : decode jdk_29_method_49_code 16 = .ok (.lmul, 1) := by decide +kernel
theorem d2_17 : decode jdk_29_method_49_code 17 = .ok (.lload_n 0, 1) := by decide +kernel
theorem d2_18 : decode jdk_29_method_49_code 18 = .ok (.lcmp, 1) := by decide +kernel
theorem d2_19 : decode jdk_29_method_49_code 19 = .ok (.ifCond .eq 8, 3) := by decide +kernel
theorem d2_22 : decode jdk_29_method_49_code 22 = .ok (.lload 4, 2) := by decide +kernel
theorem d2_24 : decode jdk_29_method_49_code 24 = .ok (.lconst 1, 1) := by decide +kernel
theorem d2_25 : decode jdk_29_method_49_code 25 = .ok (.lsub, 1) := by decide +kernel
theorem d2_26 : decode jdk_29_method_49_code 26 = .ok (.lreturn, 1) := by decide +kernel
theorem d2_27 : decode jdk_29_method_49_code 27 = .ok (.lload 4, 2) := by decide +kernel
theorem d2_29 : decode jdk_29_method_49_code 29 = .ok (.lreturn, 1) := by decide +kernel
theorem ef_rm2 (m : MethodId) (x0 : Int64) (x1 : Int64) : entryFrame m #[(.long x0), (.long x1)] 6 = mkF m 0 #[.val (.long x0), .second, .val (.long x1), .second, .unset, .unset] [] := by first | (simp [entryFrame, mkF, argsToLocals, Value.category]; done) | rfl
def Q2 (Z : State) (q0 : Int64) (q1 : Int64) (h0 : Heap) (n0 : Nat) (v : Option Value) (h : Heap) (L : List Loc) : Prop := v = some (.long (own_fd q0 q1)) ∧ Fr n0 L ∧ h = h0
set_option maxRecDepth 65536 in
set_option maxHeartbeats 40000000 in
theorem rm2 (l : Launch) (Z : State) (a0 : Array Value) (hw : ∀ d ∈ tables_1, d.before a0 Z = true) (ws : List Jvm.Cond) (q0 : Int64) (q1 : Int64) (h0 : Heap) (n0 : Nat) (Z0 : n0 ≤ h0.size) (hnz : q1 ≠ 0) :
    MetFree l (⟨"java/lang/Math", "floorDiv", "(JJ)J"⟩ : MethodName) (head1 (Jvm.Cond.code (⟨"java/lang/Math", "floorDiv", "(JJ)J"⟩ : MethodName) jdk_29_method_49_code 6 (some .long) :: ws) ({ frames := 0, cells := 0, slots := 0, locals := 0 } : Room)) (fun a U => a = #[(.long q0), (.long q1)] ∧ Z.Warmed39 U.vm ∧ U.heap = h0) (fun _ _ _ _ _ => True) (fun _ U o U' => ∃ v L, o = .returned v ∧ Q2 Z q0 q1 h0 n0 v U'.heap L ∧ FrameEnd U o U' L ({ frames := 0, cells := 0, slots := 0, locals := 0 } : Room).cells ({ frames := 0, cells := 0, slots := 0, locals := 0 } : Room).slots) := by
  refine MetFree.of_bodySF (Jvm.Free.JP.mathPlain rfl (by decide +kernel)) hisR ?_
  intro p e s m args below meth c s₁ Bd hml0 hP hK
  obtain ⟨rfl, hZ, hh⟩ := hP
  have hx := Bd.exec
  have hby := Bd.bytes
  have hml : c.maxLocals = 6 := hml0
  have hown : s.vm.findClass "java/lang/Math" = some m.cls := findClass_of_methodNamed Bd.named
  have hnm := (name_of_methodNamed Bd.named Bd.method).1
  have X0 : Stand p l e ({ frames := 0, cells := 0, slots := 0, locals := 0 } : Room) s m #[(.long q0), (.long q1)] below meth c s₁ [] 0 0 := Stand.of_body Bd
  have e0 : s₁.heap = h0 := by rw [← hh, Bd.state]; rfl
  have N0 := Fr.nil n0
  refine own_open fun G hG => ?_
  refine own_go (B := s₁.setTop (mkF m 0 #[.val (.long q0), .second, .val (.long q1), .second, .unset, .unset] [])) (fun t_ k_ => castTop (ef_rm2 m q0 q1) k_) ?_
  refine own_go (B := s₁.setTop (mkF m 10 #[.val (.long q0), .second, .val (.long q1), .second, .val (.long (q0 / q1)), .second] [(.int (lcmpW (q0 ^^^ q1) (0 : Int64)))])) (fun t_ k_ => ?_) ?_
  · show Steps p.tables e below (s₁.setTop (mkF m 0 #[.val (.long q0), .second, .val (.long q1), .second, .unset, .unset] [])) _
    refine XS.lloadN X0.here hx rfl (hb hby d2_0) rfl ?_
    show Steps p.tables e below (s₁.setTop (mkF m 1 #[.val (.long q0), .second, .val (.long q1), .second, .unset, .unset] [(.long q0)])) _
    refine XS.lloadN X0.here hx rfl (hb hby d2_1) rfl ?_
    show Steps p.tables e below (s₁.setTop (mkF m 2 #[.val (.long q0), .second, .val (.long q1), .second, .unset, .unset] [(.long q1), (.long q0)])) _
    refine XS.ldiv X0.here hx rfl (hb hby d2_2) rfl hnz ?_
    show Steps p.tables e below (s₁.setTop (mkF m 3 #[.val (.long q0), .second, .val (.long q1), .second, .unset, .unset] [(.long (q0 / q1))])) _
    refine XS.lstore X0.here hx rfl (hb hby d2_3) rfl (l' := #[.val (.long q0), .second, .val (.long q1), .second, .val (.long (q0 / q1)), .second]) rfl ?_
    show Steps p.tables e below (s₁.setTop (mkF m 5 #[.val (.long q0), .second, .val (.long q1), .second, .val (.long (q0 / q1)), .second] [])) _
    refine XS.lloadN X0.here hx rfl (hb hby d2_5) rfl ?_
    show Steps p.tables e below (s₁.setTop (mkF m 6 #[.val (.long q0), .second, .val (.long q1), .second, .val (.long (q0 / q1)), .second] [(.long q0)])) _
    refine XS.lloadN X0.here hx rfl (hb hby d2_6) rfl ?_
    show Steps p.tables e below (s₁.setTop (mkF m 7 #[.val (.long q0), .second, .val (.long q1), .second, .val (.long (q0 / q1)), .second] [(.long q1), (.long q0)])) _
    refine XS.lxor X0.here hx rfl (hb hby d2_7) rfl ?_
    show Steps p.tables e below (s₁.setTop (mkF m 8 #[.val (.long q0), .second, .val (.long q1), .second, .val (.long (q0 / q1)), .second] [(.long (q0 ^^^ q1))])) _
    refine XS.lconst X0.here hx rfl (hb hby d2_8) ?_
    show Steps p.tables e below (s₁.setTop (mkF m 9 #[.val (.long q0), .second, .val (.long q1), .second, .val (.long (q0 / q1)), .second] [(.long (0 : Int64)), (.long (q0 ^^^ q1))])) _
    refine XS.lcmp X0.here hx rfl (hb hby d2_9) rfl ?_
    show Steps p.tables e below (s₁.setTop (mkF m 10 #[.val (.long q0), .second, .val (.long q1), .second, .val (.long (q0 / q1)), .second] [(.int (lcmpW (q0 ^^^ q1) (0 : Int64)))])) _
    exact k_
  by_cases hc10 : (q0 ^^^ q1) < (0 : Int64)
  · refine own_go (B := s₁.setTop (mkF m 19 #[.val (.long q0), .second, .val (.long q1), .second, .val (.long (q0 / q1)), .second] [(.int (lcmpW ((q0 / q1) * q1) q0))])) (fun t_ k_ => ?_) ?_
    · show Steps p.tables e below (s₁.setTop (mkF m 10 #[.val (.long q0), .second, .val (.long q1), .second, .val (.long (q0 / q1)), .second] [(.int (lcmpW (q0 ^^^ q1) (0 : Int64)))])) _
      refine XS.ifNo X0.here hx rfl (hb hby d2_10) rfl ((if0 _ _).trans (tlt ((lw_lt _ _).mpr hc10)).2.1) ?_
      show Steps p.tables e below (s₁.setTop (mkF m 13 #[.val (.long q0), .second, .val (.long q1), .second, .val (.long (q0 / q1)), .second] [])) _
      refine XS.lload X0.here hx rfl (hb hby d2_13) rfl ?_
      show Steps p.tables e below (s₁.setTop (mkF m 15 #[.val (.long q0), .second, .val (.long q1), .second, .val (.long (q0 / q1)), .second] [(.long (q0 / q1))])) _
      refine XS.lloadN X0.here hx rfl (hb hby d2_15) rfl ?_
      show Steps p.tables e below (s₁.setTop (mkF m 16 #[.val (.long q0), .second, .val (.long q1), .second, .val (.long (q0 / q1)), .second] [(.long q1), (.long (q0 / q1))])) _
      refine XS.lmul X0.here hx rfl (hb hby d2_16) rfl ?_
      show Steps p.tables e below (s₁.setTop (mkF m 17 #[.val (.long q0), .second, .val (.long q1), .second, .val (.long (q0 / q1)), .second] [(.long ((q0 / q1) * q1))])) _
      refine XS.lloadN X0.here hx rfl (hb hby d2_17) rfl ?_
      show Steps p.tables e below (s₁.setTop (mkF m 18 #[.val (.long q0), .second, .val (.long q1), .second, .val (.long (q0 / q1)), .second] [(.long q0), (.long ((q0 / q1) * q1))])) _
      refine XS.lcmp X0.here hx rfl (hb hby d2_18) rfl ?_
      show Steps p.tables e below (s₁.setTop (mkF m 19 #[.val (.long q0), .second, .val (.long q1), .second, .val (.long (q0 / q1)), .second] [(.int (lcmpW ((q0 / q1) * q1) q0))])) _
      exact k_
    by_cases hc19 : ((q0 / q1) * q1) = q0
    · refine own_go (B := s₁.setTop (mkF m 29 #[.val (.long q0), .second, .val (.long q1), .second, .val (.long (q0 / q1)), .second] [(.long (q0 / q1))])) (fun t_ k_ => ?_) ?_
      · show Steps p.tables e below (s₁.setTop (mkF m 19 #[.val (.long q0), .second, .val (.long q1), .second, .val (.long (q0 / q1)), .second] [(.int (lcmpW ((q0 / q1) * q1) q0))])) _
        refine XS.ifYes X0.here hx rfl (pc0 := 19) (pc' := 27) rfl (hb hby d2_19) rfl ((if0 _ _).trans (teq ((lw_eq _ _).mpr hc19)).1) (by decide) (by decide) ?_
        show Steps p.tables e below (s₁.setTop (mkF m 27 #[.val (.long q0), .second, .val (.long q1), .second, .val (.long (q0 / q1)), .second] [])) _
        refine XS.lload X0.here hx rfl (hb hby d2_27) rfl ?_
        show Steps p.tables e below (s₁.setTop (mkF m 29 #[.val (.long q0), .second, .val (.long q1), .second, .val (.long (q0 / q1)), .second] [(.long (q0 / q1))])) _
        exact k_
      obtain ⟨fs, hr, hrun, hended, hW, hsame⟩ := X0.leave (v := some (.long (q0 / q1))) (fun h => by rw [Bd.returns] at h; cases h)
      refine own_at ?_ (hG _ _ ⟨hrun, hended, _, _, rfl, ?_, ⟨_, rfl⟩, hW, hsame.mono (by decide) (by decide)⟩)
      · show Steps p.tables e below (s₁.setTop (mkF m 29 #[.val (.long q0), .second, .val (.long q1), .second, .val (.long (q0 / q1)), .second] [(.long (q0 / q1))])) _
        exact X0.lreturnOut hx Bd.returns (hb hby d2_29) hr
      · show Q2 Z q0 q1 h0 n0 _ s₁.heap _
        rw [e0]
        exact ⟨by unfold own_fd; rw [if_pos hc10, if_pos hc19], N0, rfl⟩
    · refine own_go (B := s₁.setTop (mkF m 26 #[.val (.long q0), .second, .val (.long q1), .second, .val (.long (q0 / q1)), .second] [(.long ((q0 / q1) - (1 : Int64)))])) (fun t_ k_ => ?_) ?_
      · show Steps p.tables e below (s₁.setTop (mkF m 19 #[.val (.long q0), .second, .val (.long q1), .second, .val (.long (q0 / q1)), .second] [(.int (lcmpW ((q0 / q1) * q1) q0))])) _
        refine XS.ifNo X0.here hx rfl (hb hby d2_19) rfl ((if0 _ _).trans (feq (mt (lw_eq _ _).mp hc19)).1) ?_
        show Steps p.tables e below (s₁.setTop (mkF m 22 #[.val (.long q0), .second, .val (.long q1), .second, .val (.long (q0 / q1)), .second] [])) _
        refine XS.lload X0.here hx rfl (hb hby d2_22) rfl ?_
        show Steps p.tables e below (s₁.setTop (mkF m 24 #[.val (.long q0), .second, .val (.long q1), .second, .val (.long (q0 / q1)), .second] [(.long (q0 / q1))])) _
        refine XS.lconst X0.here hx rfl (hb hby d2_24) ?_
        show Steps p.tables e below (s₁.setTop (mkF m 25 #[.val (.long q0), .second, .val (.long q1), .second, .val (.long (q0 / q1)), .second] [(.long (1 : Int64)), (.long (q0 / q1))])) _
        refine XS.lsub X0.here hx rfl (hb hby d2_25) rfl ?_
        show Steps p.tables e below (s₁.setTop (mkF m 26 #[.val (.long q0), .second, .val (.long q1), .second, .val (.long (q0 / q1)), .second] [(.long ((q0 / q1) - (1 : Int64)))])) _
        exact k_
      obtain ⟨fs, hr, hrun, hended, hW, hsame⟩ := X0.leave (v := some (.long ((q0 / q1) - (1 : Int64)))) (fun h => by rw [Bd.returns] at h; cases h)
      refine own_at ?_ (hG _ _ ⟨hrun, hended, _, _, rfl, ?_, ⟨_, rfl⟩, hW, hsame.mono (by decide) (by decide)⟩)
      · show Steps p.tables e below (s₁.setTop (mkF m 26 #[.val (.long q0), .second, .val (.long q1), .second, .val (.long (q0 / q1)), .second] [(.long ((q0 / q1) - (1 : Int64)))])) _
        exact X0.lreturnOut hx Bd.returns (hb hby d2_26) hr
      · show Q2 Z q0 q1 h0 n0 _ s₁.heap _
        rw [e0]
        exact ⟨by unfold own_fd; rw [if_pos hc10, if_neg hc19], N0, rfl⟩
  · refine own_go (B := s₁.setTop (mkF m 29 #[.val (.long q0), .second, .val (.long q1), .second, .val (.long (q0 / q1)), .second] [(.long (q0 / q1))])) (fun t_ k_ => ?_) ?_
    · show Steps p.tables e below (s₁.setTop (mkF m 10 #[.val (.long q0), .second, .val (.long q1), .second, .val (.long (q0 / q1)), .second] [(.int (lcmpW (q0 ^^^ q1) (0 : Int64)))])) _
      refine XS.ifYes X0.here hx rfl (pc0 := 10) (pc' := 27) rfl (hb hby d2_10) rfl ((if0 _ _).trans (flt (mt (lw_lt _ _).mp hc10)).2.1) (by decide) (by decide) ?_
      show Steps p.tables e below (s₁.setTop (mkF m 27 #[.val (.long q0), .second, .val (.long q1), .second, .val (.long (q0 / q1)), .second] [])) _
      refine XS.lload X0.here hx rfl (hb hby d2_27) rfl ?_
      show Steps p.tables e below (s₁.setTop (mkF m 29 #[.val (.long q0), .second, .val (.long q1), .second, .val (.long (q0 / q1)), .second] [(.long (q0 / q1))])) _
      exact k_
    obtain ⟨fs, hr, hrun, hended, hW, hsame⟩ := X0.leave (v := some (.long (q0 / q1))) (fun h => by rw [Bd.returns] at h; cases h)
    refine own_at ?_ (hG _ _ ⟨hrun, hended, _, _, rfl, ?_, ⟨_, rfl⟩, hW, hsame.mono (by decide) (by decide)⟩)
    · show Steps p.tables e below (s₁.setTop (mkF m 29 #[.val (.long q0), .second, .val (.long q1), .second, .val (.long (q0 / q1)), .second] [(.long (q0 / q1))])) _
      exact X0.lreturnOut hx Bd.returns (hb hby d2_29) hr
    · show Q2 Z q0 q1 h0 n0 _ s₁.heap _
      rw [e0]
      exact ⟨by unfold own_fd; rw [if_neg hc10], N0, rfl⟩
theorem d1_0 : decode prog_51_method_9_code 0 = .ok (.lload_n 0, 1) := by decide +kernel
theorem d1_1 : decode prog_51_method_9_code 1 = .ok (.ldc2_w 45, 3) := by decide +kernel
theorem d1_4 : decode prog_51_method_9_code 4 = .ok (.invokestatic 96, 3) := by decide +kernel
theorem d1_7 : decode prog_51_method_9_code 7 = .ok (.ldc2_w 45, 3) := by decide +kernel
theorem d1_10 : decode prog_51_method_9_code 10 = .ok (.lmul, 1) := by decide +kernel
theorem d1_11 : decode prog_51_method_9_code 11 = .ok (.lreturn, 1) := by decide +kernel
theorem pn_1 : plainName "com/example/tallyline/tallyline/Times" = true := by first | (simp [plainName, overriddenIn]; done) | decide +kernel
theorem ef_rm1 (m : MethodId) (x0 : Int64) : entryFrame m #[(.long x0)] 2 = mkF m 0 #[.val (.long x0), .second] [] := by first | (simp [entryFrame, mkF, argsToLocals, Value.category]; done) | rfl
def Q1 (Z : State) (q0 : Int64) (h0 : Heap) (n0 : Nat) (v : Option Value) (h : Heap) (L : List Loc) : Prop := v = some (.long ((own_fd q0 3600) * 3600)) ∧ Fr n0 L ∧ h = h0
set_option maxRecDepth 65536 in
set_option maxHeartbeats 40000000 in
theorem rm1 (l : Launch) (Z : State) (a0 : Array Value) (hw : ∀ d ∈ tables_1, d.before a0 Z = true) (ws : List Jvm.Cond) (q0 : Int64) (h0 : Heap) (n0 : Nat) (Z0 : n0 ≤ h0.size) :
    MetFree l (⟨"com/example/tallyline/tallyline/Times", "hourOf", "(J)J"⟩ : MethodName) (head1 (Jvm.Cond.code (⟨"com/example/tallyline/tallyline/Times", "hourOf", "(J)J"⟩ : MethodName) prog_51_method_9_code 2 (some .long) :: ws) ({ frames := 1, cells := 0, slots := 0, locals := 17 } : Room)) (fun a U => a = #[(.long q0)] ∧ Z.Warmed39 U.vm ∧ U.heap = h0) (fun _ _ _ _ _ => True) (fun _ U o U' => ∃ v L, o = .returned v ∧ Q1 Z q0 h0 n0 v U'.heap L ∧ FrameEnd U o U' L ({ frames := 1, cells := 0, slots := 0, locals := 17 } : Room).cells ({ frames := 1, cells := 0, slots := 0, locals := 17 } : Room).slots) := by
  refine MetFree.of_bodySF (plainFor_of_name pn_1) hisR ?_
  intro p e s m args below meth c s₁ Bd hml0 hP hK
  obtain ⟨rfl, hZ, hh⟩ := hP
  have hx := Bd.exec
  have hby := Bd.bytes
  have hml : c.maxLocals = 2 := hml0
  have hown : s.vm.findClass "com/example/tallyline/tallyline/Times" = some m.cls := findClass_of_methodNamed Bd.named
  have hnm := (name_of_methodNamed Bd.named Bd.method).1
  have X0 : Stand p l e ({ frames := 1, cells := 0, slots := 0, locals := 17 } : Room) s m #[(.long q0)] below meth c s₁ [] 0 0 := Stand.of_body Bd
  have e0 : s₁.heap = h0 := by rw [← hh, Bd.state]; rfl
  have N0 := Fr.nil n0
  refine own_open fun G hG => ?_
  refine own_go (B := s₁.setTop (mkF m 0 #[.val (.long q0), .second] [])) (fun t_ k_ => castTop (ef_rm1 m q0) k_) ?_
  refine own_go (B := s₁.setTop (mkF m 4 #[.val (.long q0), .second] [(.long (3600 : Int64)), (.long q0)])) (fun t_ k_ => ?_) ?_
  · show Steps p.tables e below (s₁.setTop (mkF m 0 #[.val (.long q0), .second] [])) _
    refine XS.lloadN X0.here hx rfl (hb hby d1_0) rfl ?_
    show Steps p.tables e below (s₁.setTop (mkF m 1 #[.val (.long q0), .second] [(.long q0)])) _
    refine X0.ldc2Long hx hown (mvT hZ (hw _ (List.mem_of_getElem? (i := 5) rfl))) (g := (mkF m 1 #[.val (.long q0), .second] [(.long q0)])) rfl (hb hby d1_1) _ ?_
    show Steps p.tables e below (s₁.setTop (mkF m 4 #[.val (.long q0), .second] [(.long (3600 : Int64)), (.long q0)])) _
    exact k_
  obtain ⟨_, _, ⟨T4, L4, k4, n4⟩, -, X4, ⟨Lc4, hQ4, l4, y4, z4⟩, st4⟩ := Jvm.LawKit.callS X0 hx (y := (⟨"java/lang/Math", "floorDiv", "(JJ)J"⟩ : MethodName)) hown (mvT hZ (hw _ (List.mem_of_getElem? (i := 6) rfl))) (mvT hZ (hw _ (List.mem_of_getElem? (i := 7) rfl))) (mvT hZ (hw _ (List.mem_of_getElem? (i := 8) rfl))) (mvT hZ (hw _ (List.mem_of_getElem? (i := 9) rfl))) (by decide) (backOf (W := 0) (rm2 l Z a0 hw [] q0 (3600 : Int64) h0 n0 Z0 (by decide)) hZ (hw _ (List.mem_of_getElem? (i := 9) rfl)) (hw _ (List.mem_of_getElem? (i := 8) rfl)) (by decide) (by decide)) (g := (mkF m 4 #[.val (.long q0), .second] [(.long (3600 : Int64)), (.long q0)])) rfl (by rw [hml]; rfl) (argsL := [(.long q0), (.long (3600 : Int64))]) (rest := []) (lenOf pd__28_JJ_29_J rfl) rfl (by show 2 * 0 + _ ≤ _; exact Nat.le_of_eq rfl) (hb hby d1_4) (fun _ _ => ⟨rfl, e0, (by decide : 0 + 0 ≤ _), (by decide : 0 + 0 ≤ _)⟩)
  dsimp only [Pt.U, Pt.locs, Pt.cells, Pt.slots] at X4 l4 y4 z4 st4 hQ4
  subst l4 y4 z4
  obtain ⟨rfl, N4q, e4q⟩ := hQ4
  have N4 := Fr.app N0 N4q
  refine own_go (B := T4.setTop (mkF m 7 #[.val (.long q0), .second] [(.long (own_fd q0 (3600 : Int64)))])) (fun t_ k_ => st4 _ k_) ?_
  refine own_go (B := T4.setTop (mkF m 11 #[.val (.long q0), .second] [(.long ((own_fd q0 (3600 : Int64)) * (3600 : Int64)))])) (fun t_ k_ => ?_) ?_
  · show Steps p.tables e below (T4.setTop (mkF m 7 #[.val (.long q0), .second] [(.long (own_fd q0 (3600 : Int64)))])) _
    refine X4.ldc2Long hx hown (mvT hZ (hw _ (List.mem_of_getElem? (i := 5) rfl))) (g := (mkF m 7 #[.val (.long q0), .second] [(.long (own_fd q0 (3600 : Int64)))])) rfl (hb hby d1_7) _ ?_
    show Steps p.tables e below (T4.setTop (mkF m 10 #[.val (.long q0), .second] [(.long (3600 : Int64)), (.long (own_fd q0 (3600 : Int64)))])) _
    refine XS.lmul X4.here hx rfl (hb hby d1_10) rfl ?_
    show Steps p.tables e below (T4.setTop (mkF m 11 #[.val (.long q0), .second] [(.long ((own_fd q0 (3600 : Int64)) * (3600 : Int64)))])) _
    exact k_
  obtain ⟨fs, hr, hrun, hended, hW, hsame⟩ := X4.leave (v := some (.long ((own_fd q0 (3600 : Int64)) * (3600 : Int64)))) (fun h => by rw [Bd.returns] at h; cases h)
  refine own_at ?_ (hG _ _ ⟨hrun, hended, _, _, rfl, ?_, ⟨_, rfl⟩, hW, hsame.mono (by decide) (by decide)⟩)
  · show Steps p.tables e below (T4.setTop (mkF m 11 #[.val (.long q0), .second] [(.long ((own_fd q0 (3600 : Int64)) * (3600 : Int64)))])) _
    exact X4.lreturnOut hx Bd.returns (hb hby d1_11) hr
  · show Q1 Z q0 h0 n0 _ T4.heap _
    rw [e4q]
    exact ⟨rfl, N4, rfl⟩
theorem pn_0 : plainName "com/example/tallyline/tallyline/TimesHourOfPinLaw" = true := by first | (simp [plainName, overriddenIn]; done) | decide +kernel
theorem ef_rm0 (m : MethodId) (x0 : Int64) : entryFrame m #[(.long x0)] maxLocals = mkF m 0 #[.val (.long x0), .second, .unset, .unset, .unset, .unset] [] := by first | (simp [entryFrame, mkF, argsToLocals, Value.category, maxLocals]; done) | rfl
def Q0 (Z : State) (q0 : Int64) (h0 : Heap) (n0 : Nat) (v : Option Value) (h : Heap) (L : List Loc) : Prop := v = some (.int 1) ∧ Fr n0 L
set_option maxRecDepth 65536 in
set_option maxHeartbeats 40000000 in
theorem rm0 (l : Launch) (Z : State) (a0 : Array Value) (hw : ∀ d ∈ tables_1, d.before a0 Z = true) (ws : List Jvm.Cond) (q0 : Int64) (h0 : Heap) (n0 : Nat) (Z0 : n0 ≤ h0.size) :
    MetFree l x (head1 (Jvm.Cond.code x code maxLocals ret :: ws) room_1) (fun a U => a = #[(.long q0)] ∧ Z.Warmed39 U.vm ∧ U.heap = h0) (fun _ _ _ _ _ => True) (fun _ U o U' => ∃ v L, o = .returned v ∧ Q0 Z q0 h0 n0 v U'.heap L ∧ FrameEnd U o U' L room_1.cells room_1.slots) := by
  refine MetFree.of_bodySF (plainFor_of_name pn_0) hisR ?_
  intro p e s m args below meth c s₁ Bd hml0 hP hK
  obtain ⟨rfl, hZ, hh⟩ := hP
  have hx := Bd.exec
  have hby := Bd.bytes
  have hml : c.maxLocals = 6 := hml0
  have hown : s.vm.findClass "com/example/tallyline/tallyline/TimesHourOfPinLaw" = some m.cls := findClass_of_methodNamed Bd.named
  have hnm := (name_of_methodNamed Bd.named Bd.method).1
  have X0 : Stand p l e room_1 s m #[(.long q0)] below meth c s₁ [] 0 0 := Stand.of_body Bd
  have e0 : s₁.heap = h0 := by rw [← hh, Bd.state]; rfl
  have N0 := Fr.nil n0
  refine own_open fun G hG => ?_
  refine own_go (B := s₁.setTop (mkF m 0 #[.val (.long q0), .second, .unset, .unset, .unset, .unset] [])) (fun t_ k_ => castTop (ef_rm0 m q0) k_) ?_
  refine own_go (B := s₁.setTop (mkF m 5 #[.val (.long q0), .second, .unset, .unset, .unset, .unset] [(.int (lcmpW q0 (-9223372036854774000 : Int64)))])) (fun t_ k_ => ?_) ?_
  · show Steps p.tables e below (s₁.setTop (mkF m 0 #[.val (.long q0), .second, .unset, .unset, .unset, .unset] [])) _
    refine XS.lloadN X0.here hx rfl (hb hby at_0) rfl ?_
    show Steps p.tables e below (s₁.setTop (mkF m 1 #[.val (.long q0), .second, .unset, .unset, .unset, .unset] [(.long q0)])) _
    refine X0.ldc2Long hx hown (mvT hZ (hw _ (List.mem_of_getElem? (i := 0) rfl))) (g := (mkF m 1 #[.val (.long q0), .second, .unset, .unset, .unset, .unset] [(.long q0)])) rfl (hb hby at_1) _ ?_
    show Steps p.tables e below (s₁.setTop (mkF m 4 #[.val (.long q0), .second, .unset, .unset, .unset, .unset] [(.long (-9223372036854774000 : Int64)), (.long q0)])) _
    refine XS.lcmp X0.here hx rfl (hb hby at_4) rfl ?_
    show Steps p.tables e below (s₁.setTop (mkF m 5 #[.val (.long q0), .second, .unset, .unset, .unset, .unset] [(.int (lcmpW q0 (-9223372036854774000 : Int64)))])) _
    exact k_
  by_cases hc5 : q0 < (-9223372036854774000 : Int64)
  · refine own_go (B := s₁.setTop (mkF m 9 #[.val (.long q0), .second, .unset, .unset, .unset, .unset] [(.int (1 : Int32))])) (fun t_ k_ => ?_) ?_
    · show Steps p.tables e below (s₁.setTop (mkF m 5 #[.val (.long q0), .second, .unset, .unset, .unset, .unset] [(.int (lcmpW q0 (-9223372036854774000 : Int64)))])) _
      refine XS.ifNo X0.here hx rfl (hb hby at_5) rfl ((if0 _ _).trans (tlt ((lw_lt _ _).mpr hc5)).2.1) ?_
      show Steps p.tables e below (s₁.setTop (mkF m 8 #[.val (.long q0), .second, .unset, .unset, .unset, .unset] [])) _
      refine XS.iconst X0.here hx rfl (hb hby at_8) ?_
      show Steps p.tables e below (s₁.setTop (mkF m 9 #[.val (.long q0), .second, .unset, .unset, .unset, .unset] [(.int (1 : Int32))])) _
      exact k_
    obtain ⟨fs, hr, hrun, hended, hW, hsame⟩ := X0.leave (v := some (.int (1 : Int32))) (fun h => by rw [Bd.returns] at h; cases h)
    refine own_at ?_ (hG _ _ ⟨hrun, hended, _, _, rfl, ?_, ⟨_, rfl⟩, hW, hsame.mono (by decide) (by decide)⟩)
    · show Steps p.tables e below (s₁.setTop (mkF m 9 #[.val (.long q0), .second, .unset, .unset, .unset, .unset] [(.int (1 : Int32))])) _
      exact retN X0 hx (t := .boolean) Bd.returns (by simp) (hb hby at_9) hr
    · show Q0 Z q0 h0 n0 _ s₁.heap _
      rw [e0]
      exact ⟨rfl, N0⟩
  · refine own_go (B := s₁.setTop (mkF m 11 #[.val (.long q0), .second, .unset, .unset, .unset, .unset] [(.long q0)])) (fun t_ k_ => ?_) ?_
    · show Steps p.tables e below (s₁.setTop (mkF m 5 #[.val (.long q0), .second, .unset, .unset, .unset, .unset] [(.int (lcmpW q0 (-9223372036854774000 : Int64)))])) _
      refine XS.ifYes X0.here hx rfl (pc0 := 5) (pc' := 10) rfl (hb hby at_5) rfl ((if0 _ _).trans (flt (mt (lw_lt _ _).mp hc5)).2.1) (by decide) (by decide) ?_
      show Steps p.tables e below (s₁.setTop (mkF m 10 #[.val (.long q0), .second, .unset, .unset, .unset, .unset] [])) _
      refine XS.lloadN X0.here hx rfl (hb hby at_10) rfl ?_
      show Steps p.tables e below (s₁.setTop (mkF m 11 #[.val (.long q0), .second, .unset, .unset, .unset, .unset] [(.long q0)])) _
      exact k_
    obtain ⟨_, _, ⟨T7, L7, k7, n7⟩, -, X7, ⟨Lc7, hQ7, l7, y7, z7⟩, st7⟩ := Jvm.LawKit.callS X0 hx (y := (⟨"com/example/tallyline/tallyline/Times", "hourOf", "(J)J"⟩ : MethodName)) hown (mvT hZ (hw _ (List.mem_of_getElem? (i := 1) rfl))) (mvT hZ (hw _ (List.mem_of_getElem? (i := 2) rfl))) (mvT hZ (hw _ (List.mem_of_getElem? (i := 3) rfl))) (mvT hZ (hw _ (List.mem_of_getElem? (i := 4) rfl))) (by decide) (backOf (W := 0) (rm1 l Z a0 hw [] q0 h0 n0 Z0) hZ (hw _ (List.mem_of_getElem? (i := 4) rfl)) (hw _ (List.mem_of_getElem? (i := 3) rfl)) (by decide) (by decide)) (g := (mkF m 11 #[.val (.long q0), .second, .unset, .unset, .unset, .unset] [(.long q0)])) rfl (by rw [hml]; rfl) (argsL := [(.long q0)]) (rest := []) (lenOf pd__28_J_29_J rfl) rfl (by show 2 * 0 + _ ≤ _; exact Nat.le_of_eq rfl) (hb hby at_11) (fun _ _ => ⟨rfl, e0, (by decide : 0 + 0 ≤ _), (by decide : 0 + 0 ≤ _)⟩)
    dsimp only [Pt.U, Pt.locs, Pt.cells, Pt.slots] at X7 l7 y7 z7 st7 hQ7
    subst l7 y7 z7
    obtain ⟨rfl, N7q, e7q⟩ := hQ7
    have N7 := Fr.app N0 N7q
    refine own_go (B := T7.setTop (mkF m 14 #[.val (.long q0), .second, .unset, .unset, .unset, .unset] [(.long ((own_fd q0 (3600 : Int64)) * (3600 : Int64)))])) (fun t_ k_ => st7 _ k_) ?_
    refine own_go (B := T7.setTop (mkF m 61 #[.val (.long q0), .second, .val (.long ((own_fd q0 (3600 : Int64)) * (3600 : Int64))), .second, .val (.long (q0 - ((own_fd q0 (3600 : Int64)) * (3600 : Int64)))), .second] [(.int (1 : Int32))])) (fun t_ k_ => ?_) ?_
    · show Steps p.tables e below (T7.setTop (mkF m 14 #[.val (.long q0), .second, .unset, .unset, .unset, .unset] [(.long ((own_fd q0 (3600 : Int64)) * (3600 : Int64)))])) _
      refine XS.lstoreN X7.here hx rfl (hb hby at_14) rfl (l' := #[.val (.long q0), .second, .val (.long ((own_fd q0 (3600 : Int64)) * (3600 : Int64))), .second, .unset, .unset]) rfl ?_
      show Steps p.tables e below (T7.setTop (mkF m 15 #[.val (.long q0), .second, .val (.long ((own_fd q0 (3600 : Int64)) * (3600 : Int64))), .second, .unset, .unset] [])) _
      refine XS.lloadN X7.here hx rfl (hb hby at_15) rfl ?_
      show Steps p.tables e below (T7.setTop (mkF m 16 #[.val (.long q0), .second, .val (.long ((own_fd q0 (3600 : Int64)) * (3600 : Int64))), .second, .unset, .unset] [(.long ((own_fd q0 (3600 : Int64)) * (3600 : Int64)))])) _
      refine XS.lloadN X7.here hx rfl (hb hby at_16) rfl ?_
      show Steps p.tables e below (T7.setTop (mkF m 17 #[.val (.long q0), .second, .val (.long ((own_fd q0 (3600 : Int64)) * (3600 : Int64))), .second, .unset, .unset] [(.long q0), (.long ((own_fd q0 (3600 : Int64)) * (3600 : Int64)))])) _
      refine XS.lcmp X7.here hx rfl (hb hby at_17) rfl ?_
      show Steps p.tables e below (T7.setTop (mkF m 18 #[.val (.long q0), .second, .val (.long ((own_fd q0 (3600 : Int64)) * (3600 : Int64))), .second, .unset, .unset] [(.int (lcmpW ((own_fd q0 (3600 : Int64)) * (3600 : Int64)) q0))])) _
      refine XS.ifYes X7.here hx rfl (pc0 := 18) (pc' := 23) rfl (hb hby at_18) rfl ((if0 _ _).trans (flt (mt (lw_gt _ _).mp (own_1 hc5))).2.2.2) (by decide) (by decide) ?_
      show Steps p.tables e below (T7.setTop (mkF m 23 #[.val (.long q0), .second, .val (.long ((own_fd q0 (3600 : Int64)) * (3600 : Int64))), .second, .unset, .unset] [])) _
      refine XS.lloadN X7.here hx rfl (hb hby at_23) rfl ?_
      show Steps p.tables e below (T7.setTop (mkF m 24 #[.val (.long q0), .second, .val (.long ((own_fd q0 (3600 : Int64)) * (3600 : Int64))), .second, .unset, .unset] [(.long q0)])) _
      refine XS.lloadN X7.here hx rfl (hb hby at_24) rfl ?_
      show Steps p.tables e below (T7.setTop (mkF m 25 #[.val (.long q0), .second, .val (.long ((own_fd q0 (3600 : Int64)) * (3600 : Int64))), .second, .unset, .unset] [(.long ((own_fd q0 (3600 : Int64)) * (3600 : Int64))), (.long q0)])) _
      refine XS.lsub X7.here hx rfl (hb hby at_25) rfl ?_
      show Steps p.tables e below (T7.setTop (mkF m 26 #[.val (.long q0), .second, .val (.long ((own_fd q0 (3600 : Int64)) * (3600 : Int64))), .second, .unset, .unset] [(.long (q0 - ((own_fd q0 (3600 : Int64)) * (3600 : Int64))))])) _
      refine XS.lstore X7.here hx rfl (hb hby at_26) rfl (l' := #[.val (.long q0), .second, .val (.long ((own_fd q0 (3600 : Int64)) * (3600 : Int64))), .second, .val (.long (q0 - ((own_fd q0 (3600 : Int64)) * (3600 : Int64)))), .second]) rfl ?_
      show Steps p.tables e below (T7.setTop (mkF m 28 #[.val (.long q0), .second, .val (.long ((own_fd q0 (3600 : Int64)) * (3600 : Int64))), .second, .val (.long (q0 - ((own_fd q0 (3600 : Int64)) * (3600 : Int64)))), .second] [])) _
      refine XS.lload X7.here hx rfl (hb hby at_28) rfl ?_
      show Steps p.tables e below (T7.setTop (mkF m 30 #[.val (.long q0), .second, .val (.long ((own_fd q0 (3600 : Int64)) * (3600 : Int64))), .second, .val (.long (q0 - ((own_fd q0 (3600 : Int64)) * (3600 : Int64)))), .second] [(.long (q0 - ((own_fd q0 (3600 : Int64)) * (3600 : Int64))))])) _
      refine XS.lconst X7.here hx rfl (hb hby at_30) ?_
      show Steps p.tables e below (T7.setTop (mkF m 31 #[.val (.long q0), .second, .val (.long ((own_fd q0 (3600 : Int64)) * (3600 : Int64))), .second, .val (.long (q0 - ((own_fd q0 (3600 : Int64)) * (3600 : Int64)))), .second] [(.long (0 : Int64)), (.long (q0 - ((own_fd q0 (3600 : Int64)) * (3600 : Int64))))])) _
      refine XS.lcmp X7.here hx rfl (hb hby at_31) rfl ?_
      show Steps p.tables e below (T7.setTop (mkF m 32 #[.val (.long q0), .second, .val (.long ((own_fd q0 (3600 : Int64)) * (3600 : Int64))), .second, .val (.long (q0 - ((own_fd q0 (3600 : Int64)) * (3600 : Int64)))), .second] [(.int (lcmpW (q0 - ((own_fd q0 (3600 : Int64)) * (3600 : Int64))) (0 : Int64)))])) _
      refine XS.ifNo X7.here hx rfl (hb hby at_32) rfl ((if0 _ _).trans (flt (mt (lw_lt _ _).mp (own_2 hc5))).1) ?_
      show Steps p.tables e below (T7.setTop (mkF m 35 #[.val (.long q0), .second, .val (.long ((own_fd q0 (3600 : Int64)) * (3600 : Int64))), .second, .val (.long (q0 - ((own_fd q0 (3600 : Int64)) * (3600 : Int64)))), .second] [])) _
      refine XS.lload X7.here hx rfl (hb hby at_35) rfl ?_
      show Steps p.tables e below (T7.setTop (mkF m 37 #[.val (.long q0), .second, .val (.long ((own_fd q0 (3600 : Int64)) * (3600 : Int64))), .second, .val (.long (q0 - ((own_fd q0 (3600 : Int64)) * (3600 : Int64)))), .second] [(.long (q0 - ((own_fd q0 (3600 : Int64)) * (3600 : Int64))))])) _
      refine X7.ldc2Long hx hown (mvT hZ (hw _ (List.mem_of_getElem? (i := 10) rfl))) (g := (mkF m 37 #[.val (.long q0), .second, .val (.long ((own_fd q0 (3600 : Int64)) * (3600 : Int64))), .second, .val (.long (q0 - ((own_fd q0 (3600 : Int64)) * (3600 : Int64)))), .second] [(.long (q0 - ((own_fd q0 (3600 : Int64)) * (3600 : Int64))))])) rfl (hb hby at_37) _ ?_
      show Steps p.tables e below (T7.setTop (mkF m 40 #[.val (.long q0), .second, .val (.long ((own_fd q0 (3600 : Int64)) * (3600 : Int64))), .second, .val (.long (q0 - ((own_fd q0 (3600 : Int64)) * (3600 : Int64)))), .second] [(.long (3600 : Int64)), (.long (q0 - ((own_fd q0 (3600 : Int64)) * (3600 : Int64))))])) _
      refine XS.lcmp X7.here hx rfl (hb hby at_40) rfl ?_
      show Steps p.tables e below (T7.setTop (mkF m 41 #[.val (.long q0), .second, .val (.long ((own_fd q0 (3600 : Int64)) * (3600 : Int64))), .second, .val (.long (q0 - ((own_fd q0 (3600 : Int64)) * (3600 : Int64)))), .second] [(.int (lcmpW (q0 - ((own_fd q0 (3600 : Int64)) * (3600 : Int64))) (3600 : Int64)))])) _
      refine XS.ifYes X7.here hx rfl (pc0 := 41) (pc' := 46) rfl (hb hby at_41) rfl ((if0 _ _).trans (tlt ((lw_lt _ _).mpr (own_3 hc5))).1) (by decide) (by decide) ?_
      show Steps p.tables e below (T7.setTop (mkF m 46 #[.val (.long q0), .second, .val (.long ((own_fd q0 (3600 : Int64)) * (3600 : Int64))), .second, .val (.long (q0 - ((own_fd q0 (3600 : Int64)) * (3600 : Int64)))), .second] [])) _
      refine XS.lloadN X7.here hx rfl (hb hby at_46) rfl ?_
      show Steps p.tables e below (T7.setTop (mkF m 47 #[.val (.long q0), .second, .val (.long ((own_fd q0 (3600 : Int64)) * (3600 : Int64))), .second, .val (.long (q0 - ((own_fd q0 (3600 : Int64)) * (3600 : Int64)))), .second] [(.long ((own_fd q0 (3600 : Int64)) * (3600 : Int64)))])) _
      refine X7.ldc2Long hx hown (mvT hZ (hw _ (List.mem_of_getElem? (i := 10) rfl))) (g := (mkF m 47 #[.val (.long q0), .second, .val (.long ((own_fd q0 (3600 : Int64)) * (3600 : Int64))), .second, .val (.long (q0 - ((own_fd q0 (3600 : Int64)) * (3600 : Int64)))), .second] [(.long ((own_fd q0 (3600 : Int64)) * (3600 : Int64)))])) rfl (hb hby at_47) _ ?_
      show Steps p.tables e below (T7.setTop (mkF m 50 #[.val (.long q0), .second, .val (.long ((own_fd q0 (3600 : Int64)) * (3600 : Int64))), .second, .val (.long (q0 - ((own_fd q0 (3600 : Int64)) * (3600 : Int64)))), .second] [(.long (3600 : Int64)), (.long ((own_fd q0 (3600 : Int64)) * (3600 : Int64)))])) _
      refine XS.lrem X7.here hx rfl (hb hby at_50) rfl (by decide) ?_
      show Steps p.tables e below (T7.setTop (mkF m 51 #[.val (.long q0), .second, .val (.long ((own_fd q0 (3600 : Int64)) * (3600 : Int64))), .second, .val (.long (q0 - ((own_fd q0 (3600 : Int64)) * (3600 : Int64)))), .second] [(.long (((own_fd q0 (3600 : Int64)) * (3600 : Int64)) - (((own_fd q0 (3600 : Int64)) * (3600 : Int64)) / (3600 : Int64)) * (3600 : Int64)))])) _
      refine XS.lconst X7.here hx rfl (hb hby at_51) ?_
      show Steps p.tables e below (T7.setTop (mkF m 52 #[.val (.long q0), .second, .val (.long ((own_fd q0 (3600 : Int64)) * (3600 : Int64))), .second, .val (.long (q0 - ((own_fd q0 (3600 : Int64)) * (3600 : Int64)))), .second] [(.long (0 : Int64)), (.long (((own_fd q0 (3600 : Int64)) * (3600 : Int64)) - (((own_fd q0 (3600 : Int64)) * (3600 : Int64)) / (3600 : Int64)) * (3600 : Int64)))])) _
      refine XS.lcmp X7.here hx rfl (hb hby at_52) rfl ?_
      show Steps p.tables e below (T7.setTop (mkF m 53 #[.val (.long q0), .second, .val (.long ((own_fd q0 (3600 : Int64)) * (3600 : Int64))), .second, .val (.long (q0 - ((own_fd q0 (3600 : Int64)) * (3600 : Int64)))), .second] [(.int (lcmpW (((own_fd q0 (3600 : Int64)) * (3600 : Int64)) - (((own_fd q0 (3600 : Int64)) * (3600 : Int64)) / (3600 : Int64)) * (3600 : Int64)) (0 : Int64)))])) _
      refine XS.ifNo X7.here hx rfl (hb hby at_53) rfl ((if0 _ _).trans (teq ((lw_eq _ _).mpr (own_4 hc5))).2) ?_
      show Steps p.tables e below (T7.setTop (mkF m 56 #[.val (.long q0), .second, .val (.long ((own_fd q0 (3600 : Int64)) * (3600 : Int64))), .second, .val (.long (q0 - ((own_fd q0 (3600 : Int64)) * (3600 : Int64)))), .second] [])) _
      refine XS.iconst X7.here hx rfl (hb hby at_56) ?_
      show Steps p.tables e below (T7.setTop (mkF m 57 #[.val (.long q0), .second, .val (.long ((own_fd q0 (3600 : Int64)) * (3600 : Int64))), .second, .val (.long (q0 - ((own_fd q0 (3600 : Int64)) * (3600 : Int64)))), .second] [(.int (1 : Int32))])) _
      refine XS.goto X7.here hx rfl (pc0 := 57) (pc' := 61) rfl (hb hby at_57) (by decide) (by decide) ?_
      show Steps p.tables e below (T7.setTop (mkF m 61 #[.val (.long q0), .second, .val (.long ((own_fd q0 (3600 : Int64)) * (3600 : Int64))), .second, .val (.long (q0 - ((own_fd q0 (3600 : Int64)) * (3600 : Int64)))), .second] [(.int (1 : Int32))])) _
      exact k_
    obtain ⟨fs, hr, hrun, hended, hW, hsame⟩ := X7.leave (v := some (.int (1 : Int32))) (fun h => by rw [Bd.returns] at h; cases h)
    refine own_at ?_ (hG _ _ ⟨hrun, hended, _, _, rfl, ?_, ⟨_, rfl⟩, hW, hsame.mono (by decide) (by decide)⟩)
    · show Steps p.tables e below (T7.setTop (mkF m 61 #[.val (.long q0), .second, .val (.long ((own_fd q0 (3600 : Int64)) * (3600 : Int64))), .second, .val (.long (q0 - ((own_fd q0 (3600 : Int64)) * (3600 : Int64)))), .second] [(.int (1 : Int32))])) _
      exact retN X7 hx (t := .boolean) Bd.returns (by simp) (hb hby at_61) hr
    · show Q0 Z q0 h0 n0 _ T7.heap _
      rw [e7q]
      exact ⟨rfl, N7⟩
set_option maxRecDepth 65536 in
set_option maxHeartbeats 40000000 in
theorem comes_1 {Post : Tables → Env → Array Value → State → Outcome → State → Prop} (hpost : ∀ tb e args s v u, (limb_1_1.after args s (.returned v) u = true ∧ limb_1_2.after args s (.returned v) u = true ∧ True) → FrameEnd s (.returned v) u (Jvm.fieldLocs frame_1_writes args s ++ Jvm.arrayLocs frame_1_arrays args s ++ Jvm.staticLocs frame_1_statics s) 0 0 → Post tb e args s (.returned v) u) :
    ArmFor flags0 classFile x code maxLocals ret World_1 tables_1 room_1 Calls_1 rest_1 Pre_1 Post := by
  intro l hfl _ _ p e ha hc hk s m args below hf hA hF happ hP
  obtain ⟨hcalls, hrest, hpre⟩ := hP
  obtain ⟨-, -, -, hnamed, -, -, -, hat⟩ := (Spec.applies_iff hf).mp happ
  obtain ⟨hg, hn⟩ := and_e (Cond.before_iff.mp (show (Jvm.Cond.and given_1 narrow_1).before args s = true from hpre))
  obtain ⟨hcnt, gs0⟩ := and_e hg
  obtain ⟨w0, rfl⟩ : ∃ w0 : Value, args = #[w0] := by
    have hs : args.size = 1 := by simpa [Cond.value, given_1] using hcnt
    obtain ⟨L⟩ := args
    match L, hs with
    | [w0], _ => exact ⟨w0, rfl⟩
  have hw := fun d (hd : d ∈ tables_1) => atoms_spec (ws := Jvm.Cond.code x code maxLocals ret :: tables_1) hat d (List.mem_cons_of_mem _ hd)
  have hfit : Fit s := fun {y c} hc i hi => by
    obtain ⟨ha, rfl⟩ := Array.getElem?_eq_some_iff.mp hc
    have q := List.all_eq_true.mp ((Array.all_eq_true_iff_forall_mem.mp hF) _ (Array.getElem_mem ha)) i (List.mem_range.mpr hi)
    simpa [Array.getElem?_eq_getElem hi] using q
  obtain ⟨i0, ei0⟩ := isL_v gs0
  obtain rfl : w0 = (.long i0) := Option.some.inj ei0
  obtain ⟨n, o, h1, h2, h3, _, L, rfl, ⟨rfl, N⟩, hq⟩ := rm0 l s _ hw tables_1 i0 s.heap s.heap.size (Nat.le_refl _)  p e ha hc hk s m _ below hf ((Spec.applies_iff_loose hf).mp happ).1 ⟨rfl, State.Warmed39.refl s, rfl⟩ trivial
  refine ⟨n, _, h1, h2, h3, hpost _ _ _ _ _ _ ⟨Cond.after_iff.mpr rfl, Cond.after_iff.mpr (eq_i res_at (Term.int_eval (1)) rfl), trivial⟩ ⟨hq.1, hq.2.1, (hq.2.2.sift fun y hy => Or.inr (N y hy)).mono (by decide) (by decide)⟩⟩
theorem main_1_1 : Claimed_1_1 := comes_1 fun _ _ _ _ _ _ h hF => ⟨h.1, hF⟩
theorem main_1_2 : Claimed_1_2 := comes_1 fun _ _ _ _ _ _ h hF => ⟨h.2.1, hF⟩
end Jvm.Pilot.@@N@@
namespace Jvm.Pilot.@@N@@
open Jvm Jvm.ClassFile Sem Op Lib Jvm.Free Jvm.Stand Jvm.Pilot.@@N@@.Jvm.D
/-! MADE BY PROGRAM (witnessworld.py) out of the Statement's table words and the real class files: 10 classes; the members and pool entries that the words name. The judged class is class 1, her method 1. -/
namespace start1
open Jvm.ClassFile
def u (s : String) : CpInfo := .utf8 (stringToUtf16 s)
/-- a pool by its gaps: so many unusable entries, then the entry; so many at the end -/
def gap : Nat → List CpInfo → List CpInfo
  | 0, r => r
  | n + 1, r => .unusable :: gap n r
def poolList (es : List (Nat × CpInfo)) (last : Nat) : List CpInfo := es.foldr (fun e r => gap e.1 (e.2 :: r)) (gap last [])
def pool (es : List (Nat × CpInfo)) (last : Nat) : Array CpInfo := ⟨poolList es last⟩
def fileOf (pool : Array CpInfo) (this : Nat) (attrs : Array Attribute := #[]) (ms : Array MethodInfo := #[]) (fl : Nat := 33) (sup : Nat := 0) (ifs : Array Nat := #[]) (fds : Array FieldInfo := #[]) : ClassFile where
  minorVersion := 0
  majorVersion := 65
  constantPool := pool
  accessFlags := fl
  thisClass := this
  superClass := sup
  interfaces := ifs
  fields := fds
  methods := ms
  attributes := attrs
def plain (name : String) (sup : Option ClassId) : Class where
  name := name
  kind := .ordinary
  loader := none
  accessFlags := 33
  super := sup
  interfaces := #[]
  cf := none
  fields := #[]
  methods := #[]
  instanceTypes := #[]
  staticTypes := #[]
  resolved := #[]
  callSites := []
  init := .initialized
  statics := none
  mirror := none

def pool0 : Array CpInfo := pool [(5, u "<init>"), (0, u "()V"), (1, .class_ 10), (1, u "java/lang/Object")] 113

def k0m0 : Method := { name := "<init>", desc := "()V", sig := { parameters := [], returnType := none }, accessFlags := 1, code := none }
/-- java/lang/Object -/
def k0 : Class := { plain "java/lang/Object" none with
  accessFlags := 33
  interfaces := #[]
  cf := some (fileOf pool0 8 #[] #[{ accessFlags := 1, nameIndex := 5, descriptorIndex := 6, attributes := #[] }] 33 0 #[] #[])
  fields := #[]
  methods := #[k0m0]
  instanceTypes := #[]
  staticTypes := #[]
  resolved := Array.replicate 124 none
  statics := none }

def pool1 : Array CpInfo := pool [(2, .class_ 4), (1, u "java/lang/Object"), (0, u "<init>"), (0, u "()V"), (0, .class_ 8), (0, u "com/example/tallyline/tallyline/TimesHourOfPinLaw"), (0, .long 9223372036854777616), (1, .methodref 12 13), (0, .class_ 14), (0, .nameAndType 15 16), (0, u "com/example/tallyline/tallyline/Times"), (0, u "hourOf"), (0, u "(J)J"), (0, .long 3600), (1, u "LOWEST_HOUR_START"), (0, u "J"), (3, u "law"), (0, u "(J)Z")] 3

def k1m0 : Method := { name := "<init>", desc := "()V", sig := { parameters := [], returnType := none }, accessFlags := 1, code := none }
def k1c1 : Code := { maxStack := 4, maxLocals := 6, code := code, exceptionTable := #[], attributes := #[] }
def k1m1 : Method := { name := "law", desc := "(J)Z", sig := { parameters := [.long], returnType := some .boolean }, accessFlags := 9, code := some k1c1 }
/-- com/example/tallyline/tallyline/TimesHourOfPinLaw -/
def k1 : Class := { plain "com/example/tallyline/tallyline/TimesHourOfPinLaw" (some 0) with
  accessFlags := 49
  interfaces := #[]
  cf := some (fileOf pool1 7 #[] #[{ accessFlags := 1, nameIndex := 5, descriptorIndex := 6, attributes := #[] }, { accessFlags := 9, nameIndex := 24, descriptorIndex := 25, attributes := #[] }] 49 2 #[] #[{ accessFlags := 26, nameIndex := 19, descriptorIndex := 20, attributes := #[] }])
  fields := #[{ name := "LOWEST_HOUR_START", type := .long, accessFlags := 26, slot := 0, constantValue := 0 }]
  methods := #[k1m0, k1m1]
  instanceTypes := #[]
  staticTypes := #[.long]
  resolved := Array.replicate 29 none
  statics := none }

def pool2 : Array CpInfo := pool [(1, .class_ 2), (0, u "com/example/tallyline/tallyline/Times"), (1, .class_ 6), (1, u "java/lang/Object"), (0, u "<init>"), (0, u "()V"), (36, .long 3600), (43, .class_ 91), (1, u "com/example/tallyline/tallyline/Times$CalendarDate"), (4, .methodref 97 98), (0, .class_ 99), (0, .nameAndType 100 101), (0, u "java/lang/Math"), (0, u "floorDiv"), (0, u "(JJ)J"), (30, u "DAYS_BEFORE_1970"), (0, u "J"), (2, u "DAYS_BEFORE_MONTH"), (0, u "[I"), (18, u "DAYS_IN_MONTH"), (13, u "SECONDS_PER_HOUR"), (1, u "HOURS_PER_DAY"), (0, u "I"), (1, u "DAYS_PER_MONTH"), (1, u "SECONDS_PER_MINUTE"), (1, u "MINUTES_PER_HOUR"), (0, u "SECONDS_PER_DAY"), (0, u "MONTHS_PER_YEAR"), (1, u "DAYS_PER_CYCLE"), (0, u "SHAPE"), (0, u "Ljava/lang/String;"), (9, u "(J)J"), (1, u "hourOf"), (5, .class_ 204), (0, u "com/example/tallyline/tallyline/Times$Formatter")] 25

def k2m0 : Method := { name := "<init>", desc := "()V", sig := { parameters := [], returnType := none }, accessFlags := 2, code := none }
def k2c1 : Code := { maxStack := 4, maxLocals := 2, code := prog_51_method_9_code, exceptionTable := #[], attributes := #[] }
def k2m1 : Method := { name := "hourOf", desc := "(J)J", sig := { parameters := [.long], returnType := some .long }, accessFlags := 8, code := some k2c1 }
/-- com/example/tallyline/tallyline/Times -/
def k2 : Class := { plain "com/example/tallyline/tallyline/Times" (some 0) with
  accessFlags := 48
  interfaces := #[]
  cf := some (fileOf pool2 1 #[.nestMembers #[89, 203]] #[{ accessFlags := 2, nameIndex := 7, descriptorIndex := 8, attributes := #[] }, { accessFlags := 8, nameIndex := 197, descriptorIndex := 195, attributes := #[] }] 48 4 #[] #[{ accessFlags := 24, nameIndex := 170, descriptorIndex := 133, attributes := #[] }, { accessFlags := 24, nameIndex := 172, descriptorIndex := 173, attributes := #[] }, { accessFlags := 24, nameIndex := 175, descriptorIndex := 173, attributes := #[] }, { accessFlags := 26, nameIndex := 177, descriptorIndex := 173, attributes := #[] }, { accessFlags := 26, nameIndex := 179, descriptorIndex := 173, attributes := #[] }, { accessFlags := 26, nameIndex := 180, descriptorIndex := 133, attributes := #[] }, { accessFlags := 26, nameIndex := 181, descriptorIndex := 173, attributes := #[] }, { accessFlags := 26, nameIndex := 156, descriptorIndex := 137, attributes := #[] }, { accessFlags := 26, nameIndex := 136, descriptorIndex := 137, attributes := #[] }, { accessFlags := 26, nameIndex := 183, descriptorIndex := 133, attributes := #[] }, { accessFlags := 26, nameIndex := 132, descriptorIndex := 133, attributes := #[] }, { accessFlags := 26, nameIndex := 184, descriptorIndex := 185, attributes := #[] }])
  fields := #[{ name := "SECONDS_PER_HOUR", type := .long, accessFlags := 24, slot := 0, constantValue := 0 }, { name := "HOURS_PER_DAY", type := .int, accessFlags := 24, slot := 1, constantValue := 0 }, { name := "DAYS_PER_MONTH", type := .int, accessFlags := 24, slot := 2, constantValue := 0 }, { name := "SECONDS_PER_MINUTE", type := .int, accessFlags := 26, slot := 3, constantValue := 0 }, { name := "MINUTES_PER_HOUR", type := .int, accessFlags := 26, slot := 4, constantValue := 0 }, { name := "SECONDS_PER_DAY", type := .long, accessFlags := 26, slot := 5, constantValue := 0 }, { name := "MONTHS_PER_YEAR", type := .int, accessFlags := 26, slot := 6, constantValue := 0 }, { name := "DAYS_IN_MONTH", type := (.array .int), accessFlags := 26, slot := 7, constantValue := 0 }, { name := "DAYS_BEFORE_MONTH", type := (.array .int), accessFlags := 26, slot := 8, constantValue := 0 }, { name := "DAYS_PER_CYCLE", type := .long, accessFlags := 26, slot := 9, constantValue := 0 }, { name := "DAYS_BEFORE_1970", type := .long, accessFlags := 26, slot := 10, constantValue := 0 }, { name := "SHAPE", type := (.object "java/lang/String"), accessFlags := 26, slot := 11, constantValue := 0 }]
  methods := #[k2m0, k2m1]
  instanceTypes := #[]
  staticTypes := #[.long, .int, .int, .int, .int, .long, .int, (.array .int), (.array .int), .long, .long, (.object "java/lang/String")]
  resolved := Array.replicate 230 none
  statics := none }

def pool3 : Array CpInfo := pool [(1, .class_ 2), (0, u "java/lang/Math"), (1, .class_ 6), (1, u "java/lang/Object"), (0, u "<init>"), (0, u "()V"), (89, .class_ 100), (1, u "java/lang/Math$RandomNumberGeneratorHolder"), (20, u "(JJ)J"), (23, u "floorDiv"), (26, u "negativeZeroFloatBits"), (0, u "J"), (2, u "negativeZeroDoubleBits"), (68, u "$assertionsDisabled"), (0, u "Z"), (91, u "twoToTheDoubleScaleDown"), (0, u "D"), (4, u "twoToTheDoubleScaleUp"), (9, u "E"), (3, u "PI"), (2, u "TAU"), (2, u "DEGREES_TO_RADIANS"), (0, u "RADIANS_TO_DEGREES")] 94

def k3m0 : Method := { name := "<init>", desc := "()V", sig := { parameters := [], returnType := none }, accessFlags := 2, code := none }
def k3c1 : Code := { maxStack := 4, maxLocals := 6, code := jdk_29_method_49_code, exceptionTable := #[], attributes := #[] }
def k3m1 : Method := { name := "floorDiv", desc := "(JJ)J", sig := { parameters := [.long, .long], returnType := some .long }, accessFlags := 9, code := some k3c1 }
/-- java/lang/Math -/
def k3 : Class := { plain "java/lang/Math" (some 0) with
  accessFlags := 49
  interfaces := #[]
  cf := some (fileOf pool3 1 #[.nestMembers #[98]] #[{ accessFlags := 2, nameIndex := 7, descriptorIndex := 8, attributes := #[] }, { accessFlags := 9, nameIndex := 145, descriptorIndex := 121, attributes := #[] }] 49 4 #[] #[{ accessFlags := 25, nameIndex := 354, descriptorIndex := 339, attributes := #[] }, { accessFlags := 25, nameIndex := 358, descriptorIndex := 339, attributes := #[] }, { accessFlags := 25, nameIndex := 361, descriptorIndex := 339, attributes := #[] }, { accessFlags := 26, nameIndex := 364, descriptorIndex := 339, attributes := #[] }, { accessFlags := 26, nameIndex := 365, descriptorIndex := 339, attributes := #[] }, { accessFlags := 26, nameIndex := 172, descriptorIndex := 173, attributes := #[] }, { accessFlags := 26, nameIndex := 176, descriptorIndex := 173, attributes := #[] }, { accessFlags := 8, nameIndex := 344, descriptorIndex := 339, attributes := #[] }, { accessFlags := 8, nameIndex := 338, descriptorIndex := 339, attributes := #[] }, { accessFlags := 4120, nameIndex := 245, descriptorIndex := 246, attributes := #[] }])
  fields := #[{ name := "E", type := .double, accessFlags := 25, slot := 0, constantValue := 0 }, { name := "PI", type := .double, accessFlags := 25, slot := 1, constantValue := 0 }, { name := "TAU", type := .double, accessFlags := 25, slot := 2, constantValue := 0 }, { name := "DEGREES_TO_RADIANS", type := .double, accessFlags := 26, slot := 3, constantValue := 0 }, { name := "RADIANS_TO_DEGREES", type := .double, accessFlags := 26, slot := 4, constantValue := 0 }, { name := "negativeZeroFloatBits", type := .long, accessFlags := 26, slot := 5, constantValue := 0 }, { name := "negativeZeroDoubleBits", type := .long, accessFlags := 26, slot := 6, constantValue := 0 }, { name := "twoToTheDoubleScaleUp", type := .double, accessFlags := 8, slot := 7, constantValue := 0 }, { name := "twoToTheDoubleScaleDown", type := .double, accessFlags := 8, slot := 8, constantValue := 0 }, { name := "$assertionsDisabled", type := .boolean, accessFlags := 4120, slot := 9, constantValue := 0 }]
  methods := #[k3m0, k3m1]
  instanceTypes := #[]
  staticTypes := #[.double, .double, .double, .double, .double, .long, .long, .double, .double, .boolean]
  resolved := Array.replicate 460 none
  statics := none }

def pool4 : Array CpInfo := pool [(1, u "java/lang/Cloneable"), (0, .class_ 1), (0, u "java/lang/Object"), (0, .class_ 3)] 3

/-- java/lang/Cloneable -/
def k4 : Class := { plain "java/lang/Cloneable" (some 0) with
  accessFlags := 1537
  interfaces := #[]
  cf := some (fileOf pool4 2 #[] #[] 1537 4 #[] #[])
  fields := #[]
  methods := #[]
  instanceTypes := #[]
  staticTypes := #[]
  resolved := Array.replicate 8 none
  statics := none }

def pool5 : Array CpInfo := pool [(1, u "java/io/Serializable"), (0, .class_ 1), (0, u "java/lang/Object"), (0, .class_ 3)] 3

/-- java/io/Serializable -/
def k5 : Class := { plain "java/io/Serializable" (some 0) with
  accessFlags := 1537
  interfaces := #[]
  cf := some (fileOf pool5 2 #[] #[] 1537 4 #[] #[])
  fields := #[]
  methods := #[]
  instanceTypes := #[]
  staticTypes := #[]
  resolved := Array.replicate 8 none
  statics := none }

/-- the primitive byte -/
def k6 : Class := { plain "byte" none with kind := .primitive 'B', accessFlags := 0x411 }
/-- [B -/
def k7 : Class := { plain "[B" (some 0) with kind := .array 6 .byte, interfaces := #[4, 5], accessFlags := 1041 }

/-- the primitive int -/
def k8 : Class := { plain "int" none with kind := .primitive 'I', accessFlags := 0x411 }
/-- [I -/
def k9 : Class := { plain "[I" (some 0) with kind := .array 8 .int, interfaces := #[4, 5], accessFlags := 1041 }

def heap : Heap := #[]
def classes : Array Class := #[k0, k1, k2, k3, k4, k5, k6, k7, k8, k9]
def interned : List (Array UInt16 × Addr) := []
def slotsUsed : Nat := 0
def theMethod : MethodId := ⟨1, 1⟩
def args0 : Array Value := #[.long 7205]
def aboutOver (below : List Frame) : State where
  vm := { classes := classes, interned := interned.toArray }
  heap := heap
  slotsUsed := slotsUsed
  threads := #[{ frames := .invoking theMethod args0 :: below }]
def below0 : List Frame := [.native { method := ⟨0, 0⟩, args := #[] }]
def about1 : State := aboutOver below0
def p0 : Program := .bare "" "" ""
def e0 : Env := launch0.env 0 0 0
theorem w_frames : about1.frames = Frame.invoking theMethod args0 :: below0 := rfl
set_option maxRecDepth 65536 in
theorem w_args : argsFit about1.vm theMethod args0 = true := by decide +kernel
set_option maxRecDepth 65536 in
theorem w_heap : heapFits about1 = true := by decide +kernel
set_option maxRecDepth 65536 in
theorem w_runnable : about1.curStatus? = some .runnable := by decide +kernel
set_option maxRecDepth 65536 in
theorem w_alone : about1.alone = true := by decide +kernel
set_option maxRecDepth 65536 in
theorem w_named : about1.methodNamed? x = some theMethod := by decide +kernel
set_option maxRecDepth 65536 in
theorem w_hears : about1.hears theMethod below0 = true := by decide +kernel
set_option maxRecDepth 65536 in
theorem w_ripe : about1.ripe theMethod args0 below0 = true := by decide +kernel
theorem w_running : about1.status = .running := rfl
set_option maxRecDepth 65536 in
theorem w_room : about1.hasRoom e0.platform room_1 = true :=
  launch0.hasRoom_least _ room_1 (by decide +kernel) (by decide +kernel) (by decide +kernel) (by decide +kernel) (by decide +kernel) (by decide +kernel)
theorem allAtoms_all (ts : List Jvm.Cond) (a : Array Jvm.Value) (st : Jvm.State) : (allAtoms ts).before a st = ts.all (fun c => c.before a st) := by
  induction ts with
  | nil => rfl
  | cons c t ih =>
    show (Jvm.Cond.and c (allAtoms t)).before a st = _
    rw [Jvm.Cond.before_and, ih, List.all_cons]
def words1 : List Jvm.Cond := Jvm.Cond.code x code maxLocals ret :: tables_1
/-- a 'code' word, met by the world's own term for the bytes: nothing is compared byte by byte -/
theorem code_word {y : MethodName} {bytes : ByteArray} {mx : Nat} {rt : Option FieldType} {a : Array Value} {s : State} {m : MethodId} {meth : Method} {c : Code} (h1 : s.methodNamed? y = some m) (h2 : s.vm.method? m = some meth) (h3 : meth.code = some c) (h4 : c.code = bytes)
    (h5 : (c.maxLocals == mx && c.exceptionTable.isEmpty && decide (c.maxStack ≤ mostOperands) && decide (meth.sig.returnType = rt) && !meth.locks && decide (parseMethodDescriptor y.desc = some meth.sig)) = true) : (Jvm.Cond.code y bytes mx rt).before a s = true := by
  simp only [Bool.and_eq_true, beq_iff_eq, Bool.not_eq_true', decide_eq_true_eq] at h5
  obtain ⟨⟨⟨⟨⟨g1, g2⟩, g3⟩, g4⟩, g5⟩, g6⟩ := h5
  simp [Cond.before, Cond.holds, Cond.value, h1, h2, h3, h4, g1, g2, g3, g4, g5, g6]
def isCode : Jvm.Cond → Bool
  | .code _ _ _ _ => true
  | _ => false
theorem all_split {L : List Jvm.Cond} {P : Jvm.Cond → Bool} (h1 : L.all (fun c => isCode c || P c) = true) (h2 : ∀ c ∈ L.filter isCode, P c = true) : L.all P = true := by
  refine List.all_eq_true.mpr fun c hc => ?_
  have h := List.all_eq_true.mp h1 c hc
  rcases Bool.eq_false_or_eq_true (isCode c) with hi | hi
  · exact h2 c (List.mem_filter.mpr ⟨hc, hi⟩)
  · simpa [hi] using h
set_option maxRecDepth 65536 in
theorem w_c0 : (Jvm.Cond.code x code maxLocals ret).before args0 about1 = true := code_word (m := ⟨1, 1⟩) (meth := k1m1) (c := k1c1) (by decide +kernel) rfl rfl rfl (by decide +kernel)
set_option maxRecDepth 65536 in
theorem w_c1 : (Jvm.Cond.code ({ cls := "com/example/tallyline/tallyline/Times", name := "hourOf", desc := "(J)J" } : Jvm.MethodName) prog_51_method_9_code (2 : Nat) (Option.some Jvm.ClassFile.FieldType.long)).before args0 about1 = true := code_word (m := ⟨2, 1⟩) (meth := k2m1) (c := k2c1) (by decide +kernel) rfl rfl rfl (by decide +kernel)
set_option maxRecDepth 65536 in
theorem w_c2 : (Jvm.Cond.code ({ cls := "java/lang/Math", name := "floorDiv", desc := "(JJ)J" } : Jvm.MethodName) jdk_29_method_49_code (6 : Nat) (Option.some Jvm.ClassFile.FieldType.long)).before args0 about1 = true := code_word (m := ⟨3, 1⟩) (meth := k3m1) (c := k3c1) (by decide +kernel) rfl rfl rfl (by decide +kernel)
def codes1 : List Jvm.Cond := [Jvm.Cond.code x code maxLocals ret, Jvm.Cond.code ({ cls := "com/example/tallyline/tallyline/Times", name := "hourOf", desc := "(J)J" } : Jvm.MethodName) prog_51_method_9_code (2 : Nat) (Option.some Jvm.ClassFile.FieldType.long), Jvm.Cond.code ({ cls := "java/lang/Math", name := "floorDiv", desc := "(JJ)J" } : Jvm.MethodName) jdk_29_method_49_code (6 : Nat) (Option.some Jvm.ClassFile.FieldType.long)]
set_option maxRecDepth 65536 in
theorem codes_eq : words1.filter isCode = codes1 := rfl
theorem w_codes : ∀ c ∈ words1.filter isCode, c.before args0 about1 = true := by
  rw [codes_eq]
  intro c hc
  simp only [codes1, List.mem_cons, List.not_mem_nil, or_false] at hc
  rcases hc with rfl | rfl | rfl
  · exact w_c0
  · exact w_c1
  · exact w_c2
set_option maxRecDepth 65536 in
theorem w_t1 : words1.all (fun c => isCode c || c.before args0 about1) = true := by decide +kernel
theorem w_tables : (allAtoms (Jvm.Cond.code x code maxLocals ret :: tables_1)).before args0 about1 = true := by
  rw [allAtoms_all]
  show words1.all (fun c => c.before args0 about1) = true
  refine all_split ?_ w_codes
  rw [w_t1]
set_option maxRecDepth 65536 in
theorem w_case : (Jvm.Cond.and given_1 narrow_1).before args0 about1 = true := by decide +kernel
theorem w_applies : (headSpec (Jvm.Cond.code x code maxLocals ret :: tables_1) room_1).applies x e0.platform about1 = true :=
  (Spec.applies_iff w_frames).mpr ⟨w_running, w_runnable, w_alone, w_named, w_hears, w_ripe, w_room, w_tables⟩
theorem atStart : AtStart classFile x code maxLocals ret World_1 tables_1 room_1 Calls_1 rest_1 Pre_1 launch0 p0 e0 about1 theMethod args0 below0 :=
  ⟨lists_1, trivial, launch0.admits_env _ _ _, launch0.least_env, fairChoices_fair.cas, fairChoices_fair.clock, w_frames, w_args, w_heap, w_applies, trivial, trivial, w_case⟩
end start1
theorem witness_1 : WitnessClaimed_1 := ⟨start1.p0, start1.e0, start1.about1, start1.theMethod, start1.args0, start1.below0, start1.atStart⟩
end Jvm.Pilot.@@N@@
