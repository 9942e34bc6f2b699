import JvmDerived
import JvmDerived.Pilot.@@N@@Statement
import JvmDerived.Pilot.@@N@@Code
set_option linter.unusedVariables false
set_option linter.unusedSimpArgs false
namespace Jvm.RoadKit
open Sem ClassFile Op Lib Jvm.Stand Jvm.Free Jvm.LawKit
section New
variable {p : Program} {l : Launch} {e : Env} {R : Room} {s : State} {m : MethodId} {args : Array Value} {below : List Frame} {meth : Method} {c : Code} {T : State} {locs : List Loc} {cells slots : Nat}
theorem retI (X : Stand p l e R s m args below meth c T locs cells slots) (hx : p.tables.exec = Jvm.exec) {pc : Nat} {Ls : Array Slot} {z : Int32} {rest : List Value} (hret : meth.sig.returnType = some .int) (hd : decode c.code pc = .ok (.ireturn, 1)) {fs : List Frame}
    (hl : ∀ (f : JFrame) (acts : List Action), f.method = m → f.locked = none → f.entered = [] → (doReturn e (T.setTop f) acts (some (.int z))).1 = T.setFrames fs) : Steps p.tables e below (T.setTop (mkF m pc Ls (.int z :: rest))) (T.setFrames fs) := by
  have hm' : T.vm.method? m = some meth := X.method'
  have hn : narrow .int (.int z) = .int z := rfl
  show Steps p.tables e below (T.setTop { method := m, pc := pc, locals := Ls, stack := _ :: rest, locked := none }) _
  jvm_step X.here [X.here.top, hx, hd, hm', hret, hn]
  first | (intro acts; rw [hl _ acts rfl rfl rfl]) | rw [hl _ _ rfl rfl rfl]
  exact Steps.refl _
end New
/-- from the state A the run comes to an end of which G speaks -/
def own_R (tb : Tables) (e : Env) (below : List Frame) (G : State → Outcome → Prop) (A : State) : Prop := ∃ s₂ o, Steps tb e below A s₂ ∧ G s₂ o
theorem own_go {tb : Tables} {e : Env} {below : List Frame} {G : State → Outcome → Prop} {A B : State} (k : ∀ t, Steps tb e below B t → Steps tb e below A t) (h : own_R tb e below G B) : own_R tb e below G A := by
  obtain ⟨s₂, o, hs, hp⟩ := h
  exact ⟨s₂, o, k _ hs, hp⟩
theorem own_open {tb : Tables} {e : Env} {below : List Frame} {A : State} {P : State → Outcome → Prop} (h : ∀ G : State → Outcome → Prop, (∀ s₂ o, P s₂ o → G s₂ o) → own_R tb e below G A) : ∃ s₂ o, Steps tb e below A s₂ ∧ P s₂ o := h P fun _ _ q => q
theorem own_at {tb : Tables} {e : Env} {below : List Frame} {G : State → Outcome → Prop} {A : State} {s₂ : State} {o : Outcome} (h : Steps tb e below A s₂) (g : G s₂ o) : own_R tb e below G A := ⟨s₂, o, h, g⟩
end Jvm.RoadKit
namespace Jvm.Pilot.@@N@@
open Jvm Jvm.ClassFile Sem Op Lib Jvm.Free Jvm.Stand Jvm.LawKit Jvm.RoadKit Bundle Jvm.Pilot.@@N@@.Jvm.D
theorem pd__28__29_V : parseMethodDescriptor "()V" = some ⟨[], none⟩ := by decide +kernel
theorem pd__28_Ljava_2f_util_2f_List_3b__5b_I_29_V : parseMethodDescriptor "(Ljava/util/List;[I)V" = some ⟨[(.object "java/util/List"), (.array .int)], none⟩ := by decide +kernel
theorem pd__28_I_29_I : parseMethodDescriptor "(I)I" = some ⟨[.int], some .int⟩ := by decide +kernel
def own_of (a b c d k : Int32) : Int32 := if k < 0 then 0 else if k = 0 then a else if k = 1 then b else if k = 2 then c else d
theorem own_nat {c : Int32} {n : Nat} (h0 : 0 ≤ c.toInt) (h1 : c.toInt < n) : ∃ k : Fin n, c = Int32.ofNat k.val := by
  refine ⟨⟨c.toInt.toNat, by omega⟩, ?_⟩
  have h : ((c.toInt.toNat : Nat) : Int) = c.toInt := Int.toNat_of_nonneg h0
  show c = Int32.ofNat c.toInt.toNat
  rw [← Int32.ofInt_eq_ofNat, h, Int32.ofInt_toInt]
theorem own_four {p : Int32} (h0 : ¬ p < 0) (h1 : p < 4) : p = 0 ∨ p = 1 ∨ p = 2 ∨ p = 3 := by
  have h0' : 0 ≤ p.toInt := by
    have z : (0 : Int32).toInt = 0 := by decide
    have : ¬ p.toInt < (0 : Int32).toInt := fun q => h0 (Int32.lt_iff_toInt_lt.mpr q)
    omega
  have h1' : p.toInt < (4 : Nat) := by
    have z : (4 : Int32).toInt = 4 := by decide
    have := Int32.lt_iff_toInt_lt.mp h1
    omega
  obtain ⟨k, rfl⟩ := own_nat h0' h1'
  match k with
  | ⟨0, _⟩ => exact Or.inl rfl
  | ⟨1, _⟩ => exact Or.inr (Or.inl rfl)
  | ⟨2, _⟩ => exact Or.inr (Or.inr (Or.inl rfl))
  | ⟨3, _⟩ => exact Or.inr (Or.inr (Or.inr rfl))
theorem own_getD {a b c d p : Int32} (h0 : ¬ p < 0) (h1 : p < 4) : ([.int a, .int b, .int c, .int d] : List Value).getD p.toNatClampNeg (.int (0 : Int32)) = .int (own_of a b c d p) := by
  rcases own_four h0 h1 with rfl | rfl | rfl | rfl <;> rfl
theorem own_key (x : Int32) : ¬ ((x &&& 2147483647) - (x &&& 2147483647) / 4 * 4) < (0 : Int32) ∧ ((x &&& 2147483647) - (x &&& 2147483647) / 4 * 4) < (4 : Int32) := by
  have a := c_and x 2147483647 (by decide)
  have t := rem_toInt (x &&& 2147483647) 4
  have f : (4 : Int32).toInt = 4 := by decide
  have z : (0 : Int32).toInt = 0 := by decide
  rw [f, Int.tmod_eq_emod_of_nonneg a.1] at t
  rw [Int32.lt_iff_toInt_lt, Int32.lt_iff_toInt_lt, f, z, t]
  omega
theorem d3_0 : decode jdk_22_method_1_code 0 = .ok (.aload_n 0, 1) := by decide +kernel
theorem d3_1 : decode jdk_22_method_1_code 1 = .ok (.invokespecial 1, 3) := by decide +kernel
theorem d3_4 : decode jdk_22_method_1_code 4 = .ok (.return_, 1) := by decide +kernel
theorem pn_3 : plainName "java/util/AbstractCollection" = true := by first | (simp [plainName, overriddenIn]; done) | decide +kernel
theorem ef_rm3 (m : MethodId) (x0 : Addr) : entryFrame m #[(.ref x0)] 1 = mkF m 0 #[.val (.ref x0)] [] := by first | (simp [entryFrame, mkF, argsToLocals, Value.category]; done) | rfl
def Q3 (Z : State) (r0 : Addr) (h0 : Heap) (n0 : Nat) (v : Option Value) (h : Heap) (L : List Loc) : Prop := v = none ∧ Fr n0 L ∧ h = h0
set_option maxRecDepth 65536 in
set_option maxHeartbeats 40000000 in
theorem rm3 (l : Launch) (Z : State) (a0 : Array Value) (hw : ∀ d ∈ tables_1, d.before a0 Z = true) (ws : List Jvm.Cond) (r0 : Addr) (h0 : Heap) (n0 : Nat) (Z0 : n0 ≤ h0.size) :
    MetFree l (⟨"java/util/AbstractCollection", "<init>", "()V"⟩ : MethodName) (head1 (Jvm.Cond.code (⟨"java/util/AbstractCollection", "<init>", "()V"⟩ : MethodName) jdk_22_method_1_code 1 none :: ws) ({ frames := 1, cells := 0, slots := 0, locals := 12 } : Room)) (fun a U => a = #[(.ref r0)] ∧ Z.Warmed39 U.vm ∧ U.heap = h0) (fun _ _ _ _ _ => True) (fun _ U o U' => ∃ v L, o = .returned v ∧ Q3 Z r0 h0 n0 v U'.heap L ∧ FrameEnd U o U' L ({ frames := 1, cells := 0, slots := 0, locals := 12 } : Room).cells ({ frames := 1, cells := 0, slots := 0, locals := 12 } : Room).slots) := by
  refine MetFree.of_bodySF (plainFor_of_name pn_3) hisR ?_
  intro p e s m args below meth c s₁ Bd hml0 hP hK
  obtain ⟨rfl, hZ, hh⟩ := hP
  have hx := Bd.exec
  have hby := Bd.bytes
  have hml : c.maxLocals = 1 := hml0
  have hown : s.vm.findClass "java/util/AbstractCollection" = some m.cls := findClass_of_methodNamed Bd.named
  have hnm := (name_of_methodNamed Bd.named Bd.method).1
  have X0 : Stand p l e ({ frames := 1, cells := 0, slots := 0, locals := 12 } : Room) s m #[(.ref r0)] below meth c s₁ [] 0 0 := Stand.of_body Bd
  have e0 : s₁.heap = h0 := by rw [← hh, Bd.state]; rfl
  have N0 := Fr.nil n0
  refine own_open fun G hG => ?_
  refine own_go (B := s₁.setTop (mkF m 0 #[.val (.ref r0)] [])) (fun t_ k_ => castTop (ef_rm3 m r0) k_) ?_
  refine own_go (B := s₁.setTop (mkF m 1 #[.val (.ref r0)] [(.ref r0)])) (fun t_ k_ => ?_) ?_
  · show Steps p.tables e below (s₁.setTop (mkF m 0 #[.val (.ref r0)] [])) _
    refine XS.aloadN X0.here hx rfl (hb hby d3_0) rfl rfl ?_
    show Steps p.tables e below (s₁.setTop (mkF m 1 #[.val (.ref r0)] [(.ref r0)])) _
    exact k_
  obtain ⟨T1, X1, e1, st1⟩ := initO X0 hx hZ hown (hw _ (List.mem_of_getElem? (i := 19) rfl)) (hw _ (List.mem_of_getElem? (i := 20) rfl)) (hw _ (List.mem_of_getElem? (i := 21) rfl)) e0 (g := (mkF m 1 #[.val (.ref r0)] [(.ref r0)])) rfl (by rw [hml]; rfl) rfl (hb hby d3_1) (by decide) (W := 0) (by show 2 * 0 + _ ≤ _; exact Nat.le_of_eq rfl) (by decide)
  refine own_go (B := T1.setTop (mkF m 4 #[.val (.ref r0)] [])) (fun t_ k_ => st1 _ k_) ?_
  obtain ⟨fs, hr, hrun, hended, hW, hsame⟩ := X1.leave (v := none) (fun _ => rfl)
  refine own_at ?_ (hG _ _ ⟨hrun, hended, _, _, rfl, ?_, ⟨_, rfl⟩, hW, hsame.mono (by decide) (by decide)⟩)
  · show Steps p.tables e below (T1.setTop (mkF m 4 #[.val (.ref r0)] [])) _
    exact X1.returnOut hx Bd.returns (hb hby d3_4) hr
  · show Q3 Z r0 h0 n0 _ T1.heap _
    rw [e1]
    exact ⟨rfl, N0, rfl⟩
theorem d6_0 : decode jdk_30_method_1_code 0 = .ok (.aload_n 0, 1) := by decide +kernel
theorem d6_1 : decode jdk_30_method_1_code 1 = .ok (.invokespecial 1, 3) := by decide +kernel
theorem d6_4 : decode jdk_30_method_1_code 4 = .ok (.return_, 1) := by decide +kernel
theorem pn_6 : plainName "java/lang/Record" = true := by first | (simp [plainName, overriddenIn]; done) | decide +kernel
theorem ef_rm6 (m : MethodId) (x0 : Addr) : entryFrame m #[(.ref x0)] 1 = mkF m 0 #[.val (.ref x0)] [] := by first | (simp [entryFrame, mkF, argsToLocals, Value.category]; done) | rfl
def Q6 (Z : State) (r0 : Addr) (h0 : Heap) (n0 : Nat) (v : Option Value) (h : Heap) (L : List Loc) : Prop := v = none ∧ Fr n0 L ∧ h = h0
set_option maxRecDepth 65536 in
set_option maxHeartbeats 40000000 in
theorem rm6 (l : Launch) (Z : State) (a0 : Array Value) (hw : ∀ d ∈ tables_1, d.before a0 Z = true) (ws : List Jvm.Cond) (r0 : Addr) (h0 : Heap) (n0 : Nat) (Z0 : n0 ≤ h0.size) :
    MetFree l (⟨"java/lang/Record", "<init>", "()V"⟩ : MethodName) (head1 (Jvm.Cond.code (⟨"java/lang/Record", "<init>", "()V"⟩ : MethodName) jdk_30_method_1_code 1 none :: ws) ({ frames := 1, cells := 0, slots := 0, locals := 12 } : Room)) (fun a U => a = #[(.ref r0)] ∧ Z.Warmed39 U.vm ∧ U.heap = h0) (fun _ _ _ _ _ => True) (fun _ U o U' => ∃ v L, o = .returned v ∧ Q6 Z r0 h0 n0 v U'.heap L ∧ FrameEnd U o U' L ({ frames := 1, cells := 0, slots := 0, locals := 12 } : Room).cells ({ frames := 1, cells := 0, slots := 0, locals := 12 } : Room).slots) := by
  refine MetFree.of_bodySF (plainFor_of_name pn_6) hisR ?_
  intro p e s m args below meth c s₁ Bd hml0 hP hK
  obtain ⟨rfl, hZ, hh⟩ := hP
  have hx := Bd.exec
  have hby := Bd.bytes
  have hml : c.maxLocals = 1 := hml0
  have hown : s.vm.findClass "java/lang/Record" = some m.cls := findClass_of_methodNamed Bd.named
  have hnm := (name_of_methodNamed Bd.named Bd.method).1
  have X0 : Stand p l e ({ frames := 1, cells := 0, slots := 0, locals := 12 } : Room) s m #[(.ref r0)] below meth c s₁ [] 0 0 := Stand.of_body Bd
  have e0 : s₁.heap = h0 := by rw [← hh, Bd.state]; rfl
  have N0 := Fr.nil n0
  refine own_open fun G hG => ?_
  refine own_go (B := s₁.setTop (mkF m 0 #[.val (.ref r0)] [])) (fun t_ k_ => castTop (ef_rm6 m r0) k_) ?_
  refine own_go (B := s₁.setTop (mkF m 1 #[.val (.ref r0)] [(.ref r0)])) (fun t_ k_ => ?_) ?_
  · show Steps p.tables e below (s₁.setTop (mkF m 0 #[.val (.ref r0)] [])) _
    refine XS.aloadN X0.here hx rfl (hb hby d6_0) rfl rfl ?_
    show Steps p.tables e below (s₁.setTop (mkF m 1 #[.val (.ref r0)] [(.ref r0)])) _
    exact k_
  obtain ⟨T3, X3, e3, st3⟩ := initO X0 hx hZ hown (hw _ (List.mem_of_getElem? (i := 38) rfl)) (hw _ (List.mem_of_getElem? (i := 20) rfl)) (hw _ (List.mem_of_getElem? (i := 21) rfl)) e0 (g := (mkF m 1 #[.val (.ref r0)] [(.ref r0)])) rfl (by rw [hml]; rfl) rfl (hb hby d6_1) (by decide) (W := 0) (by show 2 * 0 + _ ≤ _; exact Nat.le_of_eq rfl) (by decide)
  refine own_go (B := T3.setTop (mkF m 4 #[.val (.ref r0)] [])) (fun t_ k_ => st3 _ k_) ?_
  obtain ⟨fs, hr, hrun, hended, hW, hsame⟩ := X3.leave (v := none) (fun _ => rfl)
  refine own_at ?_ (hG _ _ ⟨hrun, hended, _, _, rfl, ?_, ⟨_, rfl⟩, hW, hsame.mono (by decide) (by decide)⟩)
  · show Steps p.tables e below (T3.setTop (mkF m 4 #[.val (.ref r0)] [])) _
    exact X3.returnOut hx Bd.returns (hb hby d6_4) hr
  · show Q6 Z r0 h0 n0 _ T3.heap _
    rw [e3]
    exact ⟨rfl, N0, rfl⟩
theorem d2_0 : decode jdk_39_method_1_code 0 = .ok (.aload_n 0, 1) := by decide +kernel
theorem d2_1 : decode jdk_39_method_1_code 1 = .ok (.invokespecial 1, 3) := by decide +kernel
theorem d2_4 : decode jdk_39_method_1_code 4 = .ok (.aload_n 0, 1) := by decide +kernel
theorem d2_5 : decode jdk_39_method_1_code 5 = .ok (.iconst 0, 1) := by decide +kernel
theorem d2_6 : decode jdk_39_method_1_code 6 = .ok (.putfield 7, 3) := by decide +kernel
theorem d2_9 : decode jdk_39_method_1_code 9 = .ok (.return_, 1) := by decide +kernel
theorem pn_2 : plainName "java/util/AbstractList" = true := by first | (simp [plainName, overriddenIn]; done) | decide +kernel
theorem ef_rm2 (m : MethodId) (x0 : Addr) : entryFrame m #[(.ref x0)] 1 = mkF m 0 #[.val (.ref x0)] [] := by first | (simp [entryFrame, mkF, argsToLocals, Value.category]; done) | rfl
def Q2 (Z : State) (r0 : Addr) (h0 : Heap) (n0 : Nat) (v : Option Value) (h : Heap) (L : List Loc) : Prop := v = none ∧ Fr n0 L ∧ Keep h0 h [r0] ∧ Fld Z h r0 "java/util/ArrayList" "elementData" "[Ljava/lang/Object;" .null
set_option maxRecDepth 65536 in
set_option maxHeartbeats 40000000 in
theorem rm2 (l : Launch) (Z : State) (a0 : Array Value) (hw : ∀ d ∈ tables_1, d.before a0 Z = true) (ws : List Jvm.Cond) (r0 : Addr) (h0 : Heap) (n0 : Nat) (Z0 : n0 ≤ h0.size) (F1 : Fld Z h0 r0 "java/util/AbstractList" "modCount" "I" (.int (0 : Int32))) (F2 : Fld Z h0 r0 "java/util/ArrayList" "elementData" "[Ljava/lang/Object;" .null) (E1 : Exa Z h0 r0 "java/util/ArrayList") (g_r0 : n0 ≤ r0) :
    MetFree l (⟨"java/util/AbstractList", "<init>", "()V"⟩ : MethodName) (head1 (Jvm.Cond.code (⟨"java/util/AbstractList", "<init>", "()V"⟩ : MethodName) jdk_39_method_1_code 1 none :: ws) ({ frames := 2, cells := 0, slots := 0, locals := 24 } : Room)) (fun a U => a = #[(.ref r0)] ∧ Z.Warmed39 U.vm ∧ U.heap = h0) (fun _ _ _ _ _ => True) (fun _ U o U' => ∃ v L, o = .returned v ∧ Q2 Z r0 h0 n0 v U'.heap L ∧ FrameEnd U o U' L ({ frames := 2, cells := 0, slots := 0, locals := 24 } : Room).cells ({ frames := 2, cells := 0, slots := 0, locals := 24 } : Room).slots) := by
  refine MetFree.of_bodySF (plainFor_of_name pn_2) hisR ?_
  intro p e s m args below meth c s₁ Bd hml0 hP hK
  obtain ⟨rfl, hZ, hh⟩ := hP
  have hx := Bd.exec
  have hby := Bd.bytes
  have hml : c.maxLocals = 1 := hml0
  have hown : s.vm.findClass "java/util/AbstractList" = some m.cls := findClass_of_methodNamed Bd.named
  have hnm := (name_of_methodNamed Bd.named Bd.method).1
  have X0 : Stand p l e ({ frames := 2, cells := 0, slots := 0, locals := 24 } : Room) s m #[(.ref r0)] below meth c s₁ [] 0 0 := Stand.of_body Bd
  have e0 : s₁.heap = h0 := by rw [← hh, Bd.state]; rfl
  have N0 := Fr.nil n0
  refine own_open fun G hG => ?_
  refine own_go (B := s₁.setTop (mkF m 0 #[.val (.ref r0)] [])) (fun t_ k_ => castTop (ef_rm2 m r0) k_) ?_
  have K0 : Keep h0 h0 [r0] := Keep.refl h0 _
  refine own_go (B := s₁.setTop (mkF m 1 #[.val (.ref r0)] [(.ref r0)])) (fun t_ k_ => ?_) ?_
  · show Steps p.tables e below (s₁.setTop (mkF m 0 #[.val (.ref r0)] [])) _
    refine XS.aloadN X0.here hx rfl (hb hby d2_0) rfl rfl ?_
    show Steps p.tables e below (s₁.setTop (mkF m 1 #[.val (.ref r0)] [(.ref r0)])) _
    exact k_
  obtain ⟨_, _, ⟨T5, L5, k5, n5⟩, -, X5, ⟨Lc5, hQ5, l5, y5, z5⟩, st5⟩ := X0.specialBack hx (y := (⟨"java/util/AbstractCollection", "<init>", "()V"⟩ : MethodName)) rfl hown (mvT hZ (hw _ (List.mem_of_getElem? (i := 13) rfl))) (mvT hZ (hw _ (List.mem_of_getElem? (i := 14) rfl))) (mvT hZ (hw _ (List.mem_of_getElem? (i := 18) rfl))) (by decide) (backOf (W := 0) (rm3 l Z a0 hw [] r0 h0 n0 Z0) hZ (hw _ (List.mem_of_getElem? (i := 18) rfl)) (hw _ (List.mem_of_getElem? (i := 17) rfl)) (by decide) (by decide)) (g := (mkF m 1 #[.val (.ref r0)] [(.ref r0)])) rfl (by rw [hml]; rfl) (Steps.refl _) (a := r0) (argsL := []) (rest := []) (lenOf pd__28__29_V rfl) rfl (by show 2 * 0 + _ ≤ _; exact Nat.le_of_eq rfl) (hb hby d2_1) (fun _ _ => ⟨rfl, e0, (by decide : 0 + 0 ≤ _), (by decide : 0 + 0 ≤ _)⟩)
  dsimp only [Pt.U, Pt.locs, Pt.cells, Pt.slots] at X5 l5 y5 z5 st5 hQ5
  subst l5 y5 z5
  obtain ⟨rfl, N5q, e5q⟩ := hQ5
  have N5 := Fr.app N0 N5q
  refine own_go (B := T5.setTop (mkF m 4 #[.val (.ref r0)] [])) (fun t_ k_ => st5.trans k_) ?_
  refine own_go (B := T5.setTop (mkF m 6 #[.val (.ref r0)] [(.int (0 : Int32)), (.ref r0)])) (fun t_ k_ => ?_) ?_
  · show Steps p.tables e below (T5.setTop (mkF m 4 #[.val (.ref r0)] [])) _
    refine XS.aloadN X5.here hx rfl (hb hby d2_4) rfl rfl ?_
    show Steps p.tables e below (T5.setTop (mkF m 5 #[.val (.ref r0)] [(.ref r0)])) _
    refine XS.iconst X5.here hx rfl (hb hby d2_5) ?_
    show Steps p.tables e below (T5.setTop (mkF m 6 #[.val (.ref r0)] [(.int (0 : Int32)), (.ref r0)])) _
    exact k_
  obtain ⟨T6, h6, X6, e6, W6, st6⟩ := putF X5 hx hZ hown (host := "") (Or.inl (hw _ (List.mem_of_getElem? (i := 22) rfl))) Via.refl e5q F1 E1 (Or.inl (hw _ (List.mem_of_getElem? (i := 23) rfl))) (hw _ (List.mem_of_getElem? (i := 2) rfl)) (ty := .int) (by decide) rfl rfl (g := (mkF m 6 #[.val (.ref r0)] [(.int (0 : Int32)), (.ref r0)])) rfl rfl (hb hby d2_6)
  have f7 : Fld Z h6 r0 "java/util/AbstractList" "modCount" "I" (.int (0 : Int32)) := F1.same W6
  have f8 : Fld Z h6 r0 "java/util/ArrayList" "elementData" "[Ljava/lang/Object;" .null := F2.other W6 (Or.inr (slot_ne (Or.inl (hw _ (List.mem_of_getElem? (i := 26) rfl))) (Or.inl (hw _ (List.mem_of_getElem? (i := 23) rfl))) (by decide) (t := (.array (.object "java/lang/Object"))) (t' := .int) (by decide) (by decide)))
  have f9 : Exa Z h6 r0 "java/util/ArrayList" := E1.wr W6
  have f10 : Keep h0 h6 [r0] := K0.wr W6 (Or.inl (List.mem_of_getElem? (i := 0) rfl))
  have Z6 : n0 ≤ h6.size := Nat.le_trans Z0 (Keep.of_wr W6).1
  have N6 := Fr.snoc X6 N5 g_r0
  refine own_go (B := T6.setTop (mkF m 9 #[.val (.ref r0)] [])) (fun t_ k_ => st6 _ k_) ?_
  obtain ⟨fs, hr, hrun, hended, hW, hsame⟩ := X6.leave (v := none) (fun _ => rfl)
  refine own_at ?_ (hG _ _ ⟨hrun, hended, _, _, rfl, ?_, ⟨_, rfl⟩, hW, hsame.mono (by decide) (by decide)⟩)
  · show Steps p.tables e below (T6.setTop (mkF m 9 #[.val (.ref r0)] [])) _
    exact X6.returnOut hx Bd.returns (hb hby d2_9) hr
  · show Q2 Z r0 h0 n0 _ T6.heap _
    rw [e6]
    exact ⟨rfl, N6, f10, f8⟩
theorem d1_0 : decode jdk_38_method_2_code 0 = .ok (.aload_n 0, 1) := by decide +kernel
theorem d1_1 : decode jdk_38_method_2_code 1 = .ok (.invokespecial 1, 3) := by decide +kernel
theorem d1_4 : decode jdk_38_method_2_code 4 = .ok (.aload_n 0, 1) := by decide +kernel
theorem d1_5 : decode jdk_38_method_2_code 5 = .ok (.getstatic 39, 3) := by decide +kernel
theorem d1_8 : decode jdk_38_method_2_code 8 = .ok (.putfield 9, 3) := by decide +kernel
theorem d1_11 : decode jdk_38_method_2_code 11 = .ok (.return_, 1) := by decide +kernel
theorem pn_1 : plainName "java/util/ArrayList" = true := by first | (simp [plainName, overriddenIn]; done) | decide +kernel
theorem ef_rm1 (m : MethodId) (x0 : Addr) : entryFrame m #[(.ref x0)] 1 = mkF m 0 #[.val (.ref x0)] [] := by first | (simp [entryFrame, mkF, argsToLocals, Value.category]; done) | rfl
def Q1 (Z : State) (r0 : Addr) (w0 : Addr) (h0 : Heap) (n0 : Nat) (v : Option Value) (h : Heap) (L : List Loc) : Prop := v = none ∧ Fr n0 L ∧ Keep h0 h [r0]
set_option maxRecDepth 65536 in
set_option maxHeartbeats 40000000 in
theorem rm1 (l : Launch) (Z : State) (a0 : Array Value) (hw : ∀ d ∈ tables_1, d.before a0 Z = true) (ws : List Jvm.Cond) (r0 : Addr) (w0 : Addr) (h0 : Heap) (n0 : Nat) (Z0 : n0 ≤ h0.size) (F1 : Fld Z h0 r0 "java/util/AbstractList" "modCount" "I" (.int (0 : Int32))) (F2 : Fld Z h0 r0 "java/util/ArrayList" "elementData" "[Ljava/lang/Object;" .null) (E1 : Exa Z h0 r0 "java/util/ArrayList") (g_r0 : n0 ≤ r0) (O0 : Old Z n0 h0) (S0 : Sta Z Z.heap "java/util/ArrayList" "DEFAULTCAPACITY_EMPTY_ELEMENTDATA" "[Ljava/lang/Object;" (.ref w0)) :
    MetFree l (⟨"java/util/ArrayList", "<init>", "()V"⟩ : MethodName) (head1 (Jvm.Cond.code (⟨"java/util/ArrayList", "<init>", "()V"⟩ : MethodName) jdk_38_method_2_code 1 none :: ws) ({ frames := 3, cells := 0, slots := 0, locals := 36 } : Room)) (fun a U => a = #[(.ref r0)] ∧ Z.Warmed39 U.vm ∧ U.heap = h0) (fun _ _ _ _ _ => True) (fun _ U o U' => ∃ v L, o = .returned v ∧ Q1 Z r0 w0 h0 n0 v U'.heap L ∧ FrameEnd U o U' L ({ frames := 3, cells := 0, slots := 0, locals := 36 } : Room).cells ({ frames := 3, cells := 0, slots := 0, locals := 36 } : Room).slots) := by
  refine MetFree.of_bodySF (plainFor_of_name pn_1) hisR ?_
  intro p e s m args below meth c s₁ Bd hml0 hP hK
  obtain ⟨rfl, hZ, hh⟩ := hP
  have hx := Bd.exec
  have hby := Bd.bytes
  have hml : c.maxLocals = 1 := hml0
  have hown : s.vm.findClass "java/util/ArrayList" = some m.cls := findClass_of_methodNamed Bd.named
  have hnm := (name_of_methodNamed Bd.named Bd.method).1
  have X0 : Stand p l e ({ frames := 3, cells := 0, slots := 0, locals := 36 } : Room) s m #[(.ref r0)] below meth c s₁ [] 0 0 := Stand.of_body Bd
  have e0 : s₁.heap = h0 := by rw [← hh, Bd.state]; rfl
  have N0 := Fr.nil n0
  refine own_open fun G hG => ?_
  refine own_go (B := s₁.setTop (mkF m 0 #[.val (.ref r0)] [])) (fun t_ k_ => castTop (ef_rm1 m r0) k_) ?_
  have K0 : Keep h0 h0 [r0] := Keep.refl h0 _
  refine own_go (B := s₁.setTop (mkF m 1 #[.val (.ref r0)] [(.ref r0)])) (fun t_ k_ => ?_) ?_
  · show Steps p.tables e below (s₁.setTop (mkF m 0 #[.val (.ref r0)] [])) _
    refine XS.aloadN X0.here hx rfl (hb hby d1_0) rfl rfl ?_
    show Steps p.tables e below (s₁.setTop (mkF m 1 #[.val (.ref r0)] [(.ref r0)])) _
    exact k_
  obtain ⟨_, _, ⟨T12, L12, k12, n12⟩, -, X12, ⟨Lc12, hQ12, l12, y12, z12⟩, st12⟩ := X0.specialBack hx (y := (⟨"java/util/AbstractList", "<init>", "()V"⟩ : MethodName)) rfl hown (mvT hZ (hw _ (List.mem_of_getElem? (i := 7) rfl))) (mvT hZ (hw _ (List.mem_of_getElem? (i := 8) rfl))) (mvT hZ (hw _ (List.mem_of_getElem? (i := 12) rfl))) (by decide) (backOf (W := 0) (rm2 l Z a0 hw [] r0 h0 n0 Z0 F1 F2 E1 g_r0) hZ (hw _ (List.mem_of_getElem? (i := 12) rfl)) (hw _ (List.mem_of_getElem? (i := 11) rfl)) (by decide) (by decide)) (g := (mkF m 1 #[.val (.ref r0)] [(.ref r0)])) rfl (by rw [hml]; rfl) (Steps.refl _) (a := r0) (argsL := []) (rest := []) (lenOf pd__28__29_V rfl) rfl (by show 2 * 0 + _ ≤ _; exact Nat.le_of_eq rfl) (hb hby d1_1) (fun _ _ => ⟨rfl, e0, (by decide : 0 + 0 ≤ _), (by decide : 0 + 0 ≤ _)⟩)
  dsimp only [Pt.U, Pt.locs, Pt.cells, Pt.slots] at X12 l12 y12 z12 st12 hQ12
  subst l12 y12 z12
  obtain ⟨rfl, N12q, K12, u12_0⟩ := hQ12
  have N12 := Fr.app N0 N12q
  have f13 : Exa Z T12.heap r0 "java/util/ArrayList" := E1.keep K12
  have f14 : Keep h0 T12.heap [r0] := K0.trans K12 (allS (Or.inl (List.mem_of_getElem? (i := 0) rfl)) all0)
  have f15 : Old Z n0 T12.heap := O0.keep K12 (allS g_r0 all0)
  have Z12 : n0 ≤ T12.heap.size := Nat.le_trans Z0 K12.1
  refine own_go (B := T12.setTop (mkF m 4 #[.val (.ref r0)] [])) (fun t_ k_ => st12.trans k_) ?_
  refine own_go (B := T12.setTop (mkF m 5 #[.val (.ref r0)] [(.ref r0)])) (fun t_ k_ => ?_) ?_
  · show Steps p.tables e below (T12.setTop (mkF m 4 #[.val (.ref r0)] [])) _
    refine XS.aloadN X12.here hx rfl (hb hby d1_4) rfl rfl ?_
    show Steps p.tables e below (T12.setTop (mkF m 5 #[.val (.ref r0)] [(.ref r0)])) _
    exact k_
  obtain ⟨T16, X16, e16, st16⟩ := getS2 X12 hx hZ hown (host := "") (Or.inl (hw _ (List.mem_of_getElem? (i := 24) rfl))) Via.refl rfl (S0.ext f15.2) (g := (mkF m 5 #[.val (.ref r0)] [(.ref r0)])) rfl (hb hby d1_5)
  refine own_go (B := T16.setTop (mkF m 8 #[.val (.ref r0)] [(.ref w0), (.ref r0)])) (fun t_ k_ => st16 _ k_) ?_
  obtain ⟨T17, h17, X17, e17, W17, st17⟩ := putF X16 hx hZ hown (host := "") (Or.inl (hw _ (List.mem_of_getElem? (i := 25) rfl))) Via.refl e16 u12_0 f13 (Or.inl (hw _ (List.mem_of_getElem? (i := 26) rfl))) (hw _ (List.mem_of_getElem? (i := 2) rfl)) (ty := (.array (.object "java/lang/Object"))) (by decide) rfl rfl (g := (mkF m 8 #[.val (.ref r0)] [(.ref w0), (.ref r0)])) rfl rfl (hb hby d1_8)
  have f18 : Exa Z h17 r0 "java/util/ArrayList" := f13.wr W17
  have f19 : Keep h0 h17 [r0] := f14.wr W17 (Or.inl (List.mem_of_getElem? (i := 0) rfl))
  have f20 : Old Z n0 h17 := f15.wr W17 g_r0
  have f21 : Fld Z h17 r0 "java/util/ArrayList" "elementData" "[Ljava/lang/Object;" (.ref w0) := u12_0.same W17
  have Z17 : n0 ≤ h17.size := Nat.le_trans Z12 (Keep.of_wr W17).1
  have N17 := Fr.snoc X17 N12 g_r0
  refine own_go (B := T17.setTop (mkF m 11 #[.val (.ref r0)] [])) (fun t_ k_ => st17 _ k_) ?_
  obtain ⟨fs, hr, hrun, hended, hW, hsame⟩ := X17.leave (v := none) (fun _ => rfl)
  refine own_at ?_ (hG _ _ ⟨hrun, hended, _, _, rfl, ?_, ⟨_, rfl⟩, hW, hsame.mono (by decide) (by decide)⟩)
  · show Steps p.tables e below (T17.setTop (mkF m 11 #[.val (.ref r0)] [])) _
    exact X17.returnOut hx Bd.returns (hb hby d1_11) hr
  · show Q1 Z r0 w0 h0 n0 _ T17.heap _
    rw [e17]
    exact ⟨rfl, N17, f19⟩
theorem d5_0 : decode prog_109_method_1_code 0 = .ok (.aload_n 0, 1) := by decide +kernel
theorem d5_1 : decode prog_109_method_1_code 1 = .ok (.invokespecial 1, 3) := by decide +kernel
theorem d5_4 : decode prog_109_method_1_code 4 = .ok (.aload_n 0, 1) := by decide +kernel
theorem d5_5 : decode prog_109_method_1_code 5 = .ok (.aload_n 1, 1) := by decide +kernel
theorem d5_6 : decode prog_109_method_1_code 6 = .ok (.putfield 7, 3) := by decide +kernel
theorem d5_9 : decode prog_109_method_1_code 9 = .ok (.aload_n 0, 1) := by decide +kernel
theorem d5_10 : decode prog_109_method_1_code 10 = .ok (.aload_n 2, 1) := by decide +kernel
theorem d5_11 : decode prog_109_method_1_code 11 = .ok (.putfield 13, 3) := by decide +kernel
theorem d5_14 : decode prog_109_method_1_code 14 = .ok (.return_, 1) := by decide +kernel
theorem pn_5 : plainName "com/example/costline/costline/LedgerOutline$Batches" = true := by first | (simp [plainName, overriddenIn]; done) | decide +kernel
theorem ef_rm5 (m : MethodId) (x0 : Addr) (x1 : Addr) (x2 : Addr) : entryFrame m #[(.ref x0), (.ref x1), (.ref x2)] 3 = mkF m 0 #[.val (.ref x0), .val (.ref x1), .val (.ref x2)] [] := by first | (simp [entryFrame, mkF, argsToLocals, Value.category]; done) | rfl
def Q5 (Z : State) (r0 : Addr) (r1 : Addr) (r2 : Addr) (h0 : Heap) (n0 : Nat) (v : Option Value) (h : Heap) (L : List Loc) : Prop := v = none ∧ Fr n0 L ∧ Keep h0 h [r0] ∧ Fld Z h r0 "com/example/costline/costline/LedgerOutline$Batches" "ofKey" "[I" (.ref r2)
set_option maxRecDepth 65536 in
set_option maxHeartbeats 40000000 in
theorem rm5 (l : Launch) (Z : State) (a0 : Array Value) (hw : ∀ d ∈ tables_1, d.before a0 Z = true) (ws : List Jvm.Cond) (r0 : Addr) (r1 : Addr) (r2 : Addr) (h0 : Heap) (n0 : Nat) (Z0 : n0 ≤ h0.size) (F1 : Fld Z h0 r0 "com/example/costline/costline/LedgerOutline$Batches" "items" "Ljava/util/List;" .null) (F2 : Fld Z h0 r0 "com/example/costline/costline/LedgerOutline$Batches" "ofKey" "[I" .null) (E1 : Exa Z h0 r0 "com/example/costline/costline/LedgerOutline$Batches") (g_r0 : n0 ≤ r0) :
    MetFree l (⟨"com/example/costline/costline/LedgerOutline$Batches", "<init>", "(Ljava/util/List;[I)V"⟩ : MethodName) (head1 (Jvm.Cond.code (⟨"com/example/costline/costline/LedgerOutline$Batches", "<init>", "(Ljava/util/List;[I)V"⟩ : MethodName) prog_109_method_1_code 3 none :: ws) ({ frames := 2, cells := 0, slots := 0, locals := 24 } : Room)) (fun a U => a = #[(.ref r0), (.ref r1), (.ref r2)] ∧ Z.Warmed39 U.vm ∧ U.heap = h0) (fun _ _ _ _ _ => True) (fun _ U o U' => ∃ v L, o = .returned v ∧ Q5 Z r0 r1 r2 h0 n0 v U'.heap L ∧ FrameEnd U o U' L ({ frames := 2, cells := 0, slots := 0, locals := 24 } : Room).cells ({ frames := 2, cells := 0, slots := 0, locals := 24 } : Room).slots) := by
  refine MetFree.of_bodySF (plainFor_of_name pn_5) hisR ?_
  intro p e s m args below meth c s₁ Bd hml0 hP hK
  obtain ⟨rfl, hZ, hh⟩ := hP
  have hx := Bd.exec
  have hby := Bd.bytes
  have hml : c.maxLocals = 3 := hml0
  have hown : s.vm.findClass "com/example/costline/costline/LedgerOutline$Batches" = some m.cls := findClass_of_methodNamed Bd.named
  have hnm := (name_of_methodNamed Bd.named Bd.method).1
  have X0 : Stand p l e ({ frames := 2, cells := 0, slots := 0, locals := 24 } : Room) s m #[(.ref r0), (.ref r1), (.ref r2)] below meth c s₁ [] 0 0 := Stand.of_body Bd
  have e0 : s₁.heap = h0 := by rw [← hh, Bd.state]; rfl
  have N0 := Fr.nil n0
  refine own_open fun G hG => ?_
  refine own_go (B := s₁.setTop (mkF m 0 #[.val (.ref r0), .val (.ref r1), .val (.ref r2)] [])) (fun t_ k_ => castTop (ef_rm5 m r0 r1 r2) k_) ?_
  have K0 : Keep h0 h0 [r0] := Keep.refl h0 _
  refine own_go (B := s₁.setTop (mkF m 1 #[.val (.ref r0), .val (.ref r1), .val (.ref r2)] [(.ref r0)])) (fun t_ k_ => ?_) ?_
  · show Steps p.tables e below (s₁.setTop (mkF m 0 #[.val (.ref r0), .val (.ref r1), .val (.ref r2)] [])) _
    refine XS.aloadN X0.here hx rfl (hb hby d5_0) rfl rfl ?_
    show Steps p.tables e below (s₁.setTop (mkF m 1 #[.val (.ref r0), .val (.ref r1), .val (.ref r2)] [(.ref r0)])) _
    exact k_
  obtain ⟨_, _, ⟨T23, L23, k23, n23⟩, -, X23, ⟨Lc23, hQ23, l23, y23, z23⟩, st23⟩ := X0.specialBack hx (y := (⟨"java/lang/Record", "<init>", "()V"⟩ : MethodName)) rfl hown (mvT hZ (hw _ (List.mem_of_getElem? (i := 33) rfl))) (mvT hZ (hw _ (List.mem_of_getElem? (i := 34) rfl))) (mvT hZ (hw _ (List.mem_of_getElem? (i := 37) rfl))) (by decide) (backOf (W := 0) (rm6 l Z a0 hw [] r0 h0 n0 Z0) hZ (hw _ (List.mem_of_getElem? (i := 37) rfl)) (hw _ (List.mem_of_getElem? (i := 36) rfl)) (by decide) (by decide)) (g := (mkF m 1 #[.val (.ref r0), .val (.ref r1), .val (.ref r2)] [(.ref r0)])) rfl (by rw [hml]; rfl) (Steps.refl _) (a := r0) (argsL := []) (rest := []) (lenOf pd__28__29_V rfl) rfl (by show 2 * 0 + _ ≤ _; exact Nat.le_of_eq rfl) (hb hby d5_1) (fun _ _ => ⟨rfl, e0, (by decide : 0 + 0 ≤ _), (by decide : 0 + 0 ≤ _)⟩)
  dsimp only [Pt.U, Pt.locs, Pt.cells, Pt.slots] at X23 l23 y23 z23 st23 hQ23
  subst l23 y23 z23
  obtain ⟨rfl, N23q, e23q⟩ := hQ23
  have N23 := Fr.app N0 N23q
  refine own_go (B := T23.setTop (mkF m 4 #[.val (.ref r0), .val (.ref r1), .val (.ref r2)] [])) (fun t_ k_ => st23.trans k_) ?_
  refine own_go (B := T23.setTop (mkF m 6 #[.val (.ref r0), .val (.ref r1), .val (.ref r2)] [(.ref r1), (.ref r0)])) (fun t_ k_ => ?_) ?_
  · show Steps p.tables e below (T23.setTop (mkF m 4 #[.val (.ref r0), .val (.ref r1), .val (.ref r2)] [])) _
    refine XS.aloadN X23.here hx rfl (hb hby d5_4) rfl rfl ?_
    show Steps p.tables e below (T23.setTop (mkF m 5 #[.val (.ref r0), .val (.ref r1), .val (.ref r2)] [(.ref r0)])) _
    refine XS.aloadN X23.here hx rfl (hb hby d5_5) rfl rfl ?_
    show Steps p.tables e below (T23.setTop (mkF m 6 #[.val (.ref r0), .val (.ref r1), .val (.ref r2)] [(.ref r1), (.ref r0)])) _
    exact k_
  obtain ⟨T24, h24, X24, e24, W24, st24⟩ := putF X23 hx hZ hown (host := "") (Or.inl (hw _ (List.mem_of_getElem? (i := 39) rfl))) Via.refl e23q F1 E1 (Or.inr ⟨(hw _ (List.mem_of_getElem? (i := 40) rfl)), rfl, hnm⟩) (hw _ (List.mem_of_getElem? (i := 28) rfl)) (ty := (.object "java/util/List")) (by decide) rfl rfl (g := (mkF m 6 #[.val (.ref r0), .val (.ref r1), .val (.ref r2)] [(.ref r1), (.ref r0)])) rfl rfl (hb hby d5_6)
  have f25 : Fld Z h24 r0 "com/example/costline/costline/LedgerOutline$Batches" "items" "Ljava/util/List;" (.ref r1) := F1.same W24
  have f26 : Fld Z h24 r0 "com/example/costline/costline/LedgerOutline$Batches" "ofKey" "[I" .null := F2.other W24 (Or.inr (slot_ne (Or.inr (hw _ (List.mem_of_getElem? (i := 42) rfl))) (Or.inr (hw _ (List.mem_of_getElem? (i := 40) rfl))) (by decide) (t := (.array .int)) (t' := (.object "java/util/List")) (by decide) (by decide)))
  have f27 : Exa Z h24 r0 "com/example/costline/costline/LedgerOutline$Batches" := E1.wr W24
  have f28 : Keep h0 h24 [r0] := K0.wr W24 (Or.inl (List.mem_of_getElem? (i := 0) rfl))
  have Z24 : n0 ≤ h24.size := Nat.le_trans Z0 (Keep.of_wr W24).1
  have N24 := Fr.snoc X24 N23 g_r0
  refine own_go (B := T24.setTop (mkF m 9 #[.val (.ref r0), .val (.ref r1), .val (.ref r2)] [])) (fun t_ k_ => st24 _ k_) ?_
  refine own_go (B := T24.setTop (mkF m 11 #[.val (.ref r0), .val (.ref r1), .val (.ref r2)] [(.ref r2), (.ref r0)])) (fun t_ k_ => ?_) ?_
  · show Steps p.tables e below (T24.setTop (mkF m 9 #[.val (.ref r0), .val (.ref r1), .val (.ref r2)] [])) _
    refine XS.aloadN X24.here hx rfl (hb hby d5_9) rfl rfl ?_
    show Steps p.tables e below (T24.setTop (mkF m 10 #[.val (.ref r0), .val (.ref r1), .val (.ref r2)] [(.ref r0)])) _
    refine XS.aloadN X24.here hx rfl (hb hby d5_10) rfl rfl ?_
    show Steps p.tables e below (T24.setTop (mkF m 11 #[.val (.ref r0), .val (.ref r1), .val (.ref r2)] [(.ref r2), (.ref r0)])) _
    exact k_
  obtain ⟨T29, h29, X29, e29, W29, st29⟩ := putF X24 hx hZ hown (host := "") (Or.inl (hw _ (List.mem_of_getElem? (i := 41) rfl))) Via.refl e24 f26 f27 (Or.inr ⟨(hw _ (List.mem_of_getElem? (i := 42) rfl)), rfl, hnm⟩) (hw _ (List.mem_of_getElem? (i := 28) rfl)) (ty := (.array .int)) (by decide) rfl rfl (g := (mkF m 11 #[.val (.ref r0), .val (.ref r1), .val (.ref r2)] [(.ref r2), (.ref r0)])) rfl rfl (hb hby d5_11)
  have f30 : Fld Z h29 r0 "com/example/costline/costline/LedgerOutline$Batches" "items" "Ljava/util/List;" (.ref r1) := f25.other W29 (Or.inr (slot_ne (Or.inr (hw _ (List.mem_of_getElem? (i := 40) rfl))) (Or.inr (hw _ (List.mem_of_getElem? (i := 42) rfl))) (by decide) (t := (.object "java/util/List")) (t' := (.array .int)) (by decide) (by decide)))
  have f31 : Fld Z h29 r0 "com/example/costline/costline/LedgerOutline$Batches" "ofKey" "[I" (.ref r2) := f26.same W29
  have f32 : Exa Z h29 r0 "com/example/costline/costline/LedgerOutline$Batches" := f27.wr W29
  have f33 : Keep h0 h29 [r0] := f28.wr W29 (Or.inl (List.mem_of_getElem? (i := 0) rfl))
  have Z29 : n0 ≤ h29.size := Nat.le_trans Z24 (Keep.of_wr W29).1
  have N29 := Fr.snoc X29 N24 g_r0
  refine own_go (B := T29.setTop (mkF m 14 #[.val (.ref r0), .val (.ref r1), .val (.ref r2)] [])) (fun t_ k_ => st29 _ k_) ?_
  obtain ⟨fs, hr, hrun, hended, hW, hsame⟩ := X29.leave (v := none) (fun _ => rfl)
  refine own_at ?_ (hG _ _ ⟨hrun, hended, _, _, rfl, ?_, ⟨_, rfl⟩, hW, hsame.mono (by decide) (by decide)⟩)
  · show Steps p.tables e below (T29.setTop (mkF m 14 #[.val (.ref r0), .val (.ref r1), .val (.ref r2)] [])) _
    exact X29.returnOut hx Bd.returns (hb hby d5_14) hr
  · show Q5 Z r0 r1 r2 h0 n0 _ T29.heap _
    rw [e29]
    exact ⟨rfl, N29, f33, f31⟩
theorem d7_0 : decode prog_109_method_2_code 0 = .ok (.iload_n 1, 1) := by decide +kernel
theorem d7_1 : decode prog_109_method_2_code 1 = .ok (.ifCond .ge 7, 3) := by decide +kernel
theorem d7_4 : decode prog_109_method_2_code 4 = .ok (.iconst 0, 1) := by decide +kernel
theorem d7_5 : decode prog_109_method_2_code 5 = .ok (.goto 9, 3) := by decide +kernel
theorem d7_8 : decode prog_109_method_2_code 8 = .ok (.aload_n 0, 1) := by decide +kernel
theorem d7_9 : decode prog_109_method_2_code 9 = .ok (.getfield 13, 3) := by decide +kernel
theorem d7_12 : decode prog_109_method_2_code 12 = .ok (.iload_n 1, 1) := by decide +kernel
theorem d7_13 : decode prog_109_method_2_code 13 = .ok (.iaload, 1) := by decide +kernel
theorem d7_14 : decode prog_109_method_2_code 14 = .ok (.ireturn, 1) := by decide +kernel
theorem pn_7 : plainName "com/example/costline/costline/LedgerOutline$Batches" = true := by first | (simp [plainName, overriddenIn]; done) | decide +kernel
theorem ef_rm7 (m : MethodId) (x0 : Addr) (x1 : Int32) : entryFrame m #[(.ref x0), (.int x1)] 2 = mkF m 0 #[.val (.ref x0), .val (.int x1)] [] := by first | (simp [entryFrame, mkF, argsToLocals, Value.category]; done) | rfl
def Q7 (Z : State) (r0 : Addr) (p1 : Int32) (t : Addr) (k : ClassId) (ya : Int32) (yb : Int32) (yc : Int32) (yd : Int32) (h0 : Heap) (n0 : Nat) (v : Option Value) (h : Heap) (L : List Loc) : Prop := v = some (.int (own_of ya yb yc yd p1)) ∧ Fr n0 L ∧ h = h0
set_option maxRecDepth 65536 in
set_option maxHeartbeats 40000000 in
theorem rm7 (l : Launch) (Z : State) (a0 : Array Value) (hw : ∀ d ∈ tables_1, d.before a0 Z = true) (ws : List Jvm.Cond) (r0 : Addr) (p1 : Int32) (t : Addr) (k : ClassId) (ya : Int32) (yb : Int32) (yc : Int32) (yd : Int32) (h0 : Heap) (n0 : Nat) (Z0 : n0 ≤ h0.size) (F1 : Fld Z h0 r0 "com/example/costline/costline/LedgerOutline$Batches" "ofKey" "[I" (.ref t)) (V1 : Arv Z h0 t k .int (4 : Int32) [(.int ya), (.int yb), (.int yc), (.int yd)] (.int (0 : Int32))) (hk : ¬ p1 < 0 → p1 < 4) :
    MetFree l (⟨"com/example/costline/costline/LedgerOutline$Batches", "of", "(I)I"⟩ : MethodName) (head1 (Jvm.Cond.code (⟨"com/example/costline/costline/LedgerOutline$Batches", "of", "(I)I"⟩ : MethodName) prog_109_method_2_code 2 (some .int) :: ws) ({ frames := 0, cells := 0, slots := 0, locals := 0 } : Room)) (fun a U => a = #[(.ref r0), (.int p1)] ∧ Z.Warmed39 U.vm ∧ U.heap = h0) (fun _ _ _ _ _ => True) (fun _ U o U' => ∃ v L, o = .returned v ∧ Q7 Z r0 p1 t k ya yb yc yd h0 n0 v U'.heap L ∧ FrameEnd U o U' L ({ frames := 0, cells := 0, slots := 0, locals := 0 } : Room).cells ({ frames := 0, cells := 0, slots := 0, locals := 0 } : Room).slots) := by
  refine MetFree.of_bodySF (plainFor_of_name pn_7) hisR ?_
  intro p e s m args below meth c s₁ Bd hml0 hP hK
  obtain ⟨rfl, hZ, hh⟩ := hP
  have hx := Bd.exec
  have hby := Bd.bytes
  have hml : c.maxLocals = 2 := hml0
  have hown : s.vm.findClass "com/example/costline/costline/LedgerOutline$Batches" = some m.cls := findClass_of_methodNamed Bd.named
  have hnm := (name_of_methodNamed Bd.named Bd.method).1
  have X0 : Stand p l e ({ frames := 0, cells := 0, slots := 0, locals := 0 } : Room) s m #[(.ref r0), (.int p1)] below meth c s₁ [] 0 0 := Stand.of_body Bd
  have e0 : s₁.heap = h0 := by rw [← hh, Bd.state]; rfl
  have N0 := Fr.nil n0
  refine own_open fun G hG => ?_
  refine own_go (B := s₁.setTop (mkF m 0 #[.val (.ref r0), .val (.int p1)] [])) (fun t_ k_ => castTop (ef_rm7 m r0 p1) k_) ?_
  refine own_go (B := s₁.setTop (mkF m 1 #[.val (.ref r0), .val (.int p1)] [(.int p1)])) (fun t_ k_ => ?_) ?_
  · show Steps p.tables e below (s₁.setTop (mkF m 0 #[.val (.ref r0), .val (.int p1)] [])) _
    refine XS.iloadN X0.here hx rfl (hb hby d7_0) rfl ?_
    show Steps p.tables e below (s₁.setTop (mkF m 1 #[.val (.ref r0), .val (.int p1)] [(.int p1)])) _
    exact k_
  by_cases hc1 : p1 < (0 : Int32)
  · refine own_go (B := s₁.setTop (mkF m 14 #[.val (.ref r0), .val (.int p1)] [(.int (0 : Int32))])) (fun t_ k_ => ?_) ?_
    · show Steps p.tables e below (s₁.setTop (mkF m 1 #[.val (.ref r0), .val (.int p1)] [(.int p1)])) _
      refine XS.ifNo X0.here hx rfl (hb hby d7_1) rfl ((if0 _ _).trans (tlt hc1).2.1) ?_
      show Steps p.tables e below (s₁.setTop (mkF m 4 #[.val (.ref r0), .val (.int p1)] [])) _
      refine XS.iconst X0.here hx rfl (hb hby d7_4) ?_
      show Steps p.tables e below (s₁.setTop (mkF m 5 #[.val (.ref r0), .val (.int p1)] [(.int (0 : Int32))])) _
      refine XS.goto X0.here hx rfl (pc0 := 5) (pc' := 14) rfl (hb hby d7_5) (by decide) (by decide) ?_
      show Steps p.tables e below (s₁.setTop (mkF m 14 #[.val (.ref r0), .val (.int p1)] [(.int (0 : Int32))])) _
      exact k_
    obtain ⟨fs, hr, hrun, hended, hW, hsame⟩ := X0.leave (v := some (.int (0 : Int32))) (fun h => by rw [Bd.returns] at h; cases h)
    refine own_at ?_ (hG _ _ ⟨hrun, hended, _, _, rfl, ?_, ⟨_, rfl⟩, hW, hsame.mono (by decide) (by decide)⟩)
    · show Steps p.tables e below (s₁.setTop (mkF m 14 #[.val (.ref r0), .val (.int p1)] [(.int (0 : Int32))])) _
      exact retI X0 hx Bd.returns (hb hby d7_14) hr
    · show Q7 Z r0 p1 t k ya yb yc yd h0 n0 _ s₁.heap _
      rw [e0]
      exact ⟨by unfold own_of; rw [if_pos hc1], N0, rfl⟩
  · refine own_go (B := s₁.setTop (mkF m 9 #[.val (.ref r0), .val (.int p1)] [(.ref r0)])) (fun t_ k_ => ?_) ?_
    · show Steps p.tables e below (s₁.setTop (mkF m 1 #[.val (.ref r0), .val (.int p1)] [(.int p1)])) _
      refine XS.ifYes X0.here hx rfl (pc0 := 1) (pc' := 8) rfl (hb hby d7_1) rfl ((if0 _ _).trans (flt hc1).2.1) (by decide) (by decide) ?_
      show Steps p.tables e below (s₁.setTop (mkF m 8 #[.val (.ref r0), .val (.int p1)] [])) _
      refine XS.aloadN X0.here hx rfl (hb hby d7_8) rfl rfl ?_
      show Steps p.tables e below (s₁.setTop (mkF m 9 #[.val (.ref r0), .val (.int p1)] [(.ref r0)])) _
      exact k_
    obtain ⟨T36, X36, e36, st36⟩ := getF X0 hx hZ hown (host := "") (Or.inl (hw _ (List.mem_of_getElem? (i := 41) rfl))) Via.refl e0 F1 (g := (mkF m 9 #[.val (.ref r0), .val (.int p1)] [(.ref r0)])) rfl rfl (hb hby d7_9)
    refine own_go (B := T36.setTop (mkF m 12 #[.val (.ref r0), .val (.int p1)] [(.ref t)])) (fun t_ k_ => st36 _ k_) ?_
    refine own_go (B := T36.setTop (mkF m 13 #[.val (.ref r0), .val (.int p1)] [(.int p1), (.ref t)])) (fun t_ k_ => ?_) ?_
    · show Steps p.tables e below (T36.setTop (mkF m 12 #[.val (.ref r0), .val (.int p1)] [(.ref t)])) _
      refine XS.iloadN X36.here hx rfl (hb hby d7_12) rfl ?_
      show Steps p.tables e below (T36.setTop (mkF m 13 #[.val (.ref r0), .val (.int p1)] [(.int p1), (.ref t)])) _
      exact k_
    obtain ⟨cl37, Ar37, -, S37, M37, Hh37, -⟩ := id V1
    have hin37 : ¬ (p1 < 0 ∨ cl37.slots.size ≤ (p1).toNatClampNeg) := inb_of S37 ⟨hc1, hk hc1⟩
    have hat37 : cl37.slots[(p1).toNatClampNeg]? = some (.int (own_of ya yb yc yd p1)) := Hh37.at hin37 (own_getD hc1 (hk hc1))
    refine own_go (B := T36.setTop (mkF m 14 #[.val (.ref r0), .val (.int p1)] [(.int (own_of ya yb yc yd p1))])) (fun t_ k_ => X36.iaload hx (j := p1) (v := (.int (own_of ya yb yc yd p1))) (by rw [e36]; exact Ar37.1) (State.isArrayOf_alike hZ.alike Ar37.2.1) Ar37.2.2 hin37 hat37 (g := (mkF m 13 #[.val (.ref r0), .val (.int p1)] [(.int p1), (.ref t)])) rfl rfl (hb hby d7_13) _ k_) ?_
    obtain ⟨fs, hr, hrun, hended, hW, hsame⟩ := X36.leave (v := some (.int (own_of ya yb yc yd p1))) (fun h => by rw [Bd.returns] at h; cases h)
    refine own_at ?_ (hG _ _ ⟨hrun, hended, _, _, rfl, ?_, ⟨_, rfl⟩, hW, hsame.mono (by decide) (by decide)⟩)
    · show Steps p.tables e below (T36.setTop (mkF m 14 #[.val (.ref r0), .val (.int p1)] [(.int (own_of ya yb yc yd p1))])) _
      exact retI X36 hx Bd.returns (hb hby d7_14) hr
    · show Q7 Z r0 p1 t k ya yb yc yd h0 n0 _ T36.heap _
      rw [e36]
      exact ⟨rfl, N0, rfl⟩
theorem pn_0 : plainName "com/example/costline/costline/BatchesOfPinLaw" = true := by first | (simp [plainName, overriddenIn]; done) | decide +kernel
theorem ef_rm0 (m : MethodId) (x0 : Int32) (x1 : Int32) (x2 : Int32) (x3 : Int32) (x4 : Int32) (x5 : Int32) : entryFrame m #[(.int x0), (.int x1), (.int x2), (.int x3), (.int x4), (.int x5)] maxLocals = mkF m 0 #[.val (.int x0), .val (.int x1), .val (.int x2), .val (.int x3), .val (.int x4), .val (.int x5), .unset, .unset, .unset, .unset, .unset, .unset, .unset] [] := by first | (simp [entryFrame, mkF, argsToLocals, Value.category, maxLocals]; done) | rfl
def Q0 (Z : State) (p0 : Int32) (p1 : Int32) (p2 : Int32) (p3 : Int32) (p4 : Int32) (p5 : Int32) (w0 : Addr) (h0 : Heap) (n0 : Nat) (v : Option Value) (h : Heap) (L : List Loc) : Prop := v = some (.int 1) ∧ Fr n0 L
set_option maxRecDepth 65536 in
set_option maxHeartbeats 40000000 in
theorem rm0 (l : Launch) (Z : State) (a0 : Array Value) (hw : ∀ d ∈ tables_1, d.before a0 Z = true) (ws : List Jvm.Cond) (p0 : Int32) (p1 : Int32) (p2 : Int32) (p3 : Int32) (p4 : Int32) (p5 : Int32) (w0 : Addr) (h0 : Heap) (n0 : Nat) (Z0 : n0 ≤ h0.size) (O0 : Old Z n0 h0) (S0 : Sta Z Z.heap "java/util/ArrayList" "DEFAULTCAPACITY_EMPTY_ELEMENTDATA" "[Ljava/lang/Object;" (.ref w0)) :
    MetFree l x (head1 (Jvm.Cond.code x code maxLocals ret :: ws) room_1) (fun a U => a = #[(.int p0), (.int p1), (.int p2), (.int p3), (.int p4), (.int p5)] ∧ Z.Warmed39 U.vm ∧ U.heap = h0) (fun _ _ _ _ _ => True) (fun _ U o U' => ∃ v L, o = .returned v ∧ Q0 Z p0 p1 p2 p3 p4 p5 w0 h0 n0 v U'.heap L ∧ FrameEnd U o U' L room_1.cells room_1.slots) := by
  refine MetFree.of_bodySF (plainFor_of_name pn_0) hisR ?_
  intro p e s m args below meth c s₁ Bd hml0 hP hK
  obtain ⟨rfl, hZ, hh⟩ := hP
  have hx := Bd.exec
  have hby := Bd.bytes
  have hml : c.maxLocals = 13 := hml0
  have hown : s.vm.findClass "com/example/costline/costline/BatchesOfPinLaw" = some m.cls := findClass_of_methodNamed Bd.named
  have hnm := (name_of_methodNamed Bd.named Bd.method).1
  have X0 : Stand p l e room_1 s m #[(.int p0), (.int p1), (.int p2), (.int p3), (.int p4), (.int p5)] below meth c s₁ [] 0 0 := Stand.of_body Bd
  have e0 : s₁.heap = h0 := by rw [← hh, Bd.state]; rfl
  have N0 := Fr.nil n0
  refine own_open fun G hG => ?_
  refine own_go (B := s₁.setTop (mkF m 0 #[.val (.int p0), .val (.int p1), .val (.int p2), .val (.int p3), .val (.int p4), .val (.int p5), .unset, .unset, .unset, .unset, .unset, .unset, .unset] [])) (fun t_ k_ => castTop (ef_rm0 m p0 p1 p2 p3 p4 p5) k_) ?_
  refine own_go (B := s₁.setTop (mkF m 1 #[.val (.int p0), .val (.int p1), .val (.int p2), .val (.int p3), .val (.int p4), .val (.int p5), .unset, .unset, .unset, .unset, .unset, .unset, .unset] [(.int (4 : Int32))])) (fun t_ k_ => ?_) ?_
  · show Steps p.tables e below (s₁.setTop (mkF m 0 #[.val (.int p0), .val (.int p1), .val (.int p2), .val (.int p3), .val (.int p4), .val (.int p5), .unset, .unset, .unset, .unset, .unset, .unset, .unset] [])) _
    refine XS.iconst X0.here hx rfl (hb hby at_0) ?_
    show Steps p.tables e below (s₁.setTop (mkF m 1 #[.val (.int p0), .val (.int p1), .val (.int p2), .val (.int p3), .val (.int p4), .val (.int p5), .unset, .unset, .unset, .unset, .unset, .unset, .unset] [(.int (4 : Int32))])) _
    exact k_
  obtain ⟨T39, h39, k39, X39, e39, E39, A39, st39⟩ := newP X0 hx hZ (hw _ (List.mem_of_getElem? (i := 0) rfl)) e0 (g := (mkF m 1 #[.val (.int p0), .val (.int p1), .val (.int p2), .val (.int p3), .val (.int p4), .val (.int p5), .unset, .unset, .unset, .unset, .unset, .unset, .unset] [(.int (4 : Int32))])) rfl (hb hby at_1) rfl (by decide) (cap := 4) (by decide) (by decide) (by decide) (by decide)
  obtain ⟨b39, g39⟩ : ∃ z, z = h0.size := ⟨_, rfl⟩
  rw [← g39] at A39 st39
  have g_b39 : n0 ≤ b39 := Nat.le_trans Z0 (Nat.le_of_eq g39.symm)
  have f40 : Old Z n0 h39 := O0.ext E39
  have Z39 : n0 ≤ h39.size := Nat.le_trans Z0 E39.1
  have f41 : Arv Z h39 b39 k39 .int (4 : Int32) [(.int (0 : Int32)), (.int (0 : Int32)), (.int (0 : Int32)), (.int (0 : Int32))] (.int (0 : Int32)) := (Arv.new A39 (by decide)).pad (pad_rep [] (.int (0 : Int32)) 4)
  refine own_go (B := T39.setTop (mkF m 3 #[.val (.int p0), .val (.int p1), .val (.int p2), .val (.int p3), .val (.int p4), .val (.int p5), .unset, .unset, .unset, .unset, .unset, .unset, .unset] [(.ref b39)])) (fun t_ k_ => st39 _ k_) ?_
  refine own_go (B := T39.setTop (mkF m 6 #[.val (.int p0), .val (.int p1), .val (.int p2), .val (.int p3), .val (.int p4), .val (.int p5), .unset, .unset, .unset, .unset, .unset, .unset, .unset] [(.int p0), (.int (0 : Int32)), (.ref b39), (.ref b39)])) (fun t_ k_ => ?_) ?_
  · show Steps p.tables e below (T39.setTop (mkF m 3 #[.val (.int p0), .val (.int p1), .val (.int p2), .val (.int p3), .val (.int p4), .val (.int p5), .unset, .unset, .unset, .unset, .unset, .unset, .unset] [(.ref b39)])) _
    refine XS.dup X39.here hx rfl (hb hby at_3) rfl rfl ?_
    show Steps p.tables e below (T39.setTop (mkF m 4 #[.val (.int p0), .val (.int p1), .val (.int p2), .val (.int p3), .val (.int p4), .val (.int p5), .unset, .unset, .unset, .unset, .unset, .unset, .unset] [(.ref b39), (.ref b39)])) _
    refine XS.iconst X39.here hx rfl (hb hby at_4) ?_
    show Steps p.tables e below (T39.setTop (mkF m 5 #[.val (.int p0), .val (.int p1), .val (.int p2), .val (.int p3), .val (.int p4), .val (.int p5), .unset, .unset, .unset, .unset, .unset, .unset, .unset] [(.int (0 : Int32)), (.ref b39), (.ref b39)])) _
    refine XS.iloadN X39.here hx rfl (hb hby at_5) rfl ?_
    show Steps p.tables e below (T39.setTop (mkF m 6 #[.val (.int p0), .val (.int p1), .val (.int p2), .val (.int p3), .val (.int p4), .val (.int p5), .unset, .unset, .unset, .unset, .unset, .unset, .unset] [(.int p0), (.int (0 : Int32)), (.ref b39), (.ref b39)])) _
    exact k_
  obtain ⟨cl42, Ar42, q42, S42, M42, Hh42, G42⟩ := id f41
  obtain ⟨T42, h42, X42, e42, W42, st42⟩ := stI X39 hx hZ e39 Ar42 (j := (0 : Int32)) (inb_of S42 ⟨by decide, by decide⟩) (g := (mkF m 6 #[.val (.int p0), .val (.int p1), .val (.int p2), .val (.int p3), .val (.int p4), .val (.int p5), .unset, .unset, .unset, .unset, .unset, .unset, .unset] [(.int p0), (.int (0 : Int32)), (.ref b39), (.ref b39)])) rfl rfl (hb hby at_6)
  have f43 : Old Z n0 h42 := f40.wr W42 g_b39
  have f44 : Arv Z h42 b39 k39 .int (4 : Int32) [(.int p0), (.int (0 : Int32)), (.int (0 : Int32)), (.int (0 : Int32))] (.int (0 : Int32)) := Arv.set Ar42 q42 S42 M42 Hh42 G42 rfl W42 0 rfl (Nat.le_of_ble_eq_true rfl)
  have Z42 : n0 ≤ h42.size := Nat.le_trans Z39 (Keep.of_wr W42).1
  have N42 := Fr.snoc X42 N0 g_b39
  refine own_go (B := T42.setTop (mkF m 7 #[.val (.int p0), .val (.int p1), .val (.int p2), .val (.int p3), .val (.int p4), .val (.int p5), .unset, .unset, .unset, .unset, .unset, .unset, .unset] [(.ref b39)])) (fun t_ k_ => st42 _ k_) ?_
  refine own_go (B := T42.setTop (mkF m 10 #[.val (.int p0), .val (.int p1), .val (.int p2), .val (.int p3), .val (.int p4), .val (.int p5), .unset, .unset, .unset, .unset, .unset, .unset, .unset] [(.int p1), (.int (1 : Int32)), (.ref b39), (.ref b39)])) (fun t_ k_ => ?_) ?_
  · show Steps p.tables e below (T42.setTop (mkF m 7 #[.val (.int p0), .val (.int p1), .val (.int p2), .val (.int p3), .val (.int p4), .val (.int p5), .unset, .unset, .unset, .unset, .unset, .unset, .unset] [(.ref b39)])) _
    refine XS.dup X42.here hx rfl (hb hby at_7) rfl rfl ?_
    show Steps p.tables e below (T42.setTop (mkF m 8 #[.val (.int p0), .val (.int p1), .val (.int p2), .val (.int p3), .val (.int p4), .val (.int p5), .unset, .unset, .unset, .unset, .unset, .unset, .unset] [(.ref b39), (.ref b39)])) _
    refine XS.iconst X42.here hx rfl (hb hby at_8) ?_
    show Steps p.tables e below (T42.setTop (mkF m 9 #[.val (.int p0), .val (.int p1), .val (.int p2), .val (.int p3), .val (.int p4), .val (.int p5), .unset, .unset, .unset, .unset, .unset, .unset, .unset] [(.int (1 : Int32)), (.ref b39), (.ref b39)])) _
    refine XS.iloadN X42.here hx rfl (hb hby at_9) rfl ?_
    show Steps p.tables e below (T42.setTop (mkF m 10 #[.val (.int p0), .val (.int p1), .val (.int p2), .val (.int p3), .val (.int p4), .val (.int p5), .unset, .unset, .unset, .unset, .unset, .unset, .unset] [(.int p1), (.int (1 : Int32)), (.ref b39), (.ref b39)])) _
    exact k_
  obtain ⟨cl45, Ar45, q45, S45, M45, Hh45, G45⟩ := id f44
  obtain ⟨T45, h45, X45, e45, W45, st45⟩ := stI X42 hx hZ e42 Ar45 (j := (1 : Int32)) (inb_of S45 ⟨by decide, by decide⟩) (g := (mkF m 10 #[.val (.int p0), .val (.int p1), .val (.int p2), .val (.int p3), .val (.int p4), .val (.int p5), .unset, .unset, .unset, .unset, .unset, .unset, .unset] [(.int p1), (.int (1 : Int32)), (.ref b39), (.ref b39)])) rfl rfl (hb hby at_10)
  have f46 : Old Z n0 h45 := f43.wr W45 g_b39
  have f47 : Arv Z h45 b39 k39 .int (4 : Int32) [(.int p0), (.int p1), (.int (0 : Int32)), (.int (0 : Int32))] (.int (0 : Int32)) := Arv.set Ar45 q45 S45 M45 Hh45 G45 rfl W45 1 rfl (Nat.le_of_ble_eq_true rfl)
  have Z45 : n0 ≤ h45.size := Nat.le_trans Z42 (Keep.of_wr W45).1
  have N45 := Fr.snoc X45 N42 g_b39
  refine own_go (B := T45.setTop (mkF m 11 #[.val (.int p0), .val (.int p1), .val (.int p2), .val (.int p3), .val (.int p4), .val (.int p5), .unset, .unset, .unset, .unset, .unset, .unset, .unset] [(.ref b39)])) (fun t_ k_ => st45 _ k_) ?_
  refine own_go (B := T45.setTop (mkF m 14 #[.val (.int p0), .val (.int p1), .val (.int p2), .val (.int p3), .val (.int p4), .val (.int p5), .unset, .unset, .unset, .unset, .unset, .unset, .unset] [(.int p2), (.int (2 : Int32)), (.ref b39), (.ref b39)])) (fun t_ k_ => ?_) ?_
  · show Steps p.tables e below (T45.setTop (mkF m 11 #[.val (.int p0), .val (.int p1), .val (.int p2), .val (.int p3), .val (.int p4), .val (.int p5), .unset, .unset, .unset, .unset, .unset, .unset, .unset] [(.ref b39)])) _
    refine XS.dup X45.here hx rfl (hb hby at_11) rfl rfl ?_
    show Steps p.tables e below (T45.setTop (mkF m 12 #[.val (.int p0), .val (.int p1), .val (.int p2), .val (.int p3), .val (.int p4), .val (.int p5), .unset, .unset, .unset, .unset, .unset, .unset, .unset] [(.ref b39), (.ref b39)])) _
    refine XS.iconst X45.here hx rfl (hb hby at_12) ?_
    show Steps p.tables e below (T45.setTop (mkF m 13 #[.val (.int p0), .val (.int p1), .val (.int p2), .val (.int p3), .val (.int p4), .val (.int p5), .unset, .unset, .unset, .unset, .unset, .unset, .unset] [(.int (2 : Int32)), (.ref b39), (.ref b39)])) _
    refine XS.iloadN X45.here hx rfl (hb hby at_13) rfl ?_
    show Steps p.tables e below (T45.setTop (mkF m 14 #[.val (.int p0), .val (.int p1), .val (.int p2), .val (.int p3), .val (.int p4), .val (.int p5), .unset, .unset, .unset, .unset, .unset, .unset, .unset] [(.int p2), (.int (2 : Int32)), (.ref b39), (.ref b39)])) _
    exact k_
  obtain ⟨cl48, Ar48, q48, S48, M48, Hh48, G48⟩ := id f47
  obtain ⟨T48, h48, X48, e48, W48, st48⟩ := stI X45 hx hZ e45 Ar48 (j := (2 : Int32)) (inb_of S48 ⟨by decide, by decide⟩) (g := (mkF m 14 #[.val (.int p0), .val (.int p1), .val (.int p2), .val (.int p3), .val (.int p4), .val (.int p5), .unset, .unset, .unset, .unset, .unset, .unset, .unset] [(.int p2), (.int (2 : Int32)), (.ref b39), (.ref b39)])) rfl rfl (hb hby at_14)
  have f49 : Old Z n0 h48 := f46.wr W48 g_b39
  have f50 : Arv Z h48 b39 k39 .int (4 : Int32) [(.int p0), (.int p1), (.int p2), (.int (0 : Int32))] (.int (0 : Int32)) := Arv.set Ar48 q48 S48 M48 Hh48 G48 rfl W48 2 rfl (Nat.le_of_ble_eq_true rfl)
  have Z48 : n0 ≤ h48.size := Nat.le_trans Z45 (Keep.of_wr W48).1
  have N48 := Fr.snoc X48 N45 g_b39
  refine own_go (B := T48.setTop (mkF m 15 #[.val (.int p0), .val (.int p1), .val (.int p2), .val (.int p3), .val (.int p4), .val (.int p5), .unset, .unset, .unset, .unset, .unset, .unset, .unset] [(.ref b39)])) (fun t_ k_ => st48 _ k_) ?_
  refine own_go (B := T48.setTop (mkF m 18 #[.val (.int p0), .val (.int p1), .val (.int p2), .val (.int p3), .val (.int p4), .val (.int p5), .unset, .unset, .unset, .unset, .unset, .unset, .unset] [(.int p3), (.int (3 : Int32)), (.ref b39), (.ref b39)])) (fun t_ k_ => ?_) ?_
  · show Steps p.tables e below (T48.setTop (mkF m 15 #[.val (.int p0), .val (.int p1), .val (.int p2), .val (.int p3), .val (.int p4), .val (.int p5), .unset, .unset, .unset, .unset, .unset, .unset, .unset] [(.ref b39)])) _
    refine XS.dup X48.here hx rfl (hb hby at_15) rfl rfl ?_
    show Steps p.tables e below (T48.setTop (mkF m 16 #[.val (.int p0), .val (.int p1), .val (.int p2), .val (.int p3), .val (.int p4), .val (.int p5), .unset, .unset, .unset, .unset, .unset, .unset, .unset] [(.ref b39), (.ref b39)])) _
    refine XS.iconst X48.here hx rfl (hb hby at_16) ?_
    show Steps p.tables e below (T48.setTop (mkF m 17 #[.val (.int p0), .val (.int p1), .val (.int p2), .val (.int p3), .val (.int p4), .val (.int p5), .unset, .unset, .unset, .unset, .unset, .unset, .unset] [(.int (3 : Int32)), (.ref b39), (.ref b39)])) _
    refine XS.iloadN X48.here hx rfl (hb hby at_17) rfl ?_
    show Steps p.tables e below (T48.setTop (mkF m 18 #[.val (.int p0), .val (.int p1), .val (.int p2), .val (.int p3), .val (.int p4), .val (.int p5), .unset, .unset, .unset, .unset, .unset, .unset, .unset] [(.int p3), (.int (3 : Int32)), (.ref b39), (.ref b39)])) _
    exact k_
  obtain ⟨cl51, Ar51, q51, S51, M51, Hh51, G51⟩ := id f50
  obtain ⟨T51, h51, X51, e51, W51, st51⟩ := stI X48 hx hZ e48 Ar51 (j := (3 : Int32)) (inb_of S51 ⟨by decide, by decide⟩) (g := (mkF m 18 #[.val (.int p0), .val (.int p1), .val (.int p2), .val (.int p3), .val (.int p4), .val (.int p5), .unset, .unset, .unset, .unset, .unset, .unset, .unset] [(.int p3), (.int (3 : Int32)), (.ref b39), (.ref b39)])) rfl rfl (hb hby at_18)
  have f52 : Old Z n0 h51 := f49.wr W51 g_b39
  have f53 : Arv Z h51 b39 k39 .int (4 : Int32) [(.int p0), (.int p1), (.int p2), (.int p3)] (.int (0 : Int32)) := Arv.set Ar51 q51 S51 M51 Hh51 G51 rfl W51 3 rfl (Nat.le_of_ble_eq_true rfl)
  have Z51 : n0 ≤ h51.size := Nat.le_trans Z48 (Keep.of_wr W51).1
  have N51 := Fr.snoc X51 N48 g_b39
  refine own_go (B := T51.setTop (mkF m 19 #[.val (.int p0), .val (.int p1), .val (.int p2), .val (.int p3), .val (.int p4), .val (.int p5), .unset, .unset, .unset, .unset, .unset, .unset, .unset] [(.ref b39)])) (fun t_ k_ => st51 _ k_) ?_
  refine own_go (B := T51.setTop (mkF m 21 #[.val (.int p0), .val (.int p1), .val (.int p2), .val (.int p3), .val (.int p4), .val (.int p5), .val (.ref b39), .unset, .unset, .unset, .unset, .unset, .unset] [])) (fun t_ k_ => ?_) ?_
  · show Steps p.tables e below (T51.setTop (mkF m 19 #[.val (.int p0), .val (.int p1), .val (.int p2), .val (.int p3), .val (.int p4), .val (.int p5), .unset, .unset, .unset, .unset, .unset, .unset, .unset] [(.ref b39)])) _
    refine XS.astore X51.here hx rfl (hb hby at_19) rfl rfl (l' := #[.val (.int p0), .val (.int p1), .val (.int p2), .val (.int p3), .val (.int p4), .val (.int p5), .val (.ref b39), .unset, .unset, .unset, .unset, .unset, .unset]) rfl ?_
    show Steps p.tables e below (T51.setTop (mkF m 21 #[.val (.int p0), .val (.int p1), .val (.int p2), .val (.int p3), .val (.int p4), .val (.int p5), .val (.ref b39), .unset, .unset, .unset, .unset, .unset, .unset] [])) _
    exact k_
  obtain ⟨T54, h54, X54, e54, E54, A54, D54, U54, st54⟩ := newO X51 hx hZ hown (hw _ (List.mem_of_getElem? (i := 1) rfl)) (hw _ (List.mem_of_getElem? (i := 2) rfl)) (hw _ (List.mem_of_getElem? (i := 3) rfl)) e51 (g := (mkF m 21 #[.val (.int p0), .val (.int p1), .val (.int p2), .val (.int p3), .val (.int p4), .val (.int p5), .val (.ref b39), .unset, .unset, .unset, .unset, .unset, .unset] [])) rfl (hb hby at_21) (by decide) (by decide)
  obtain ⟨b54, g54⟩ : ∃ z, z = h51.size := ⟨_, rfl⟩
  rw [← g54] at A54 D54 U54 st54
  have g_b54 : n0 ≤ b54 := Nat.le_trans Z51 (Nat.le_of_eq g54.symm)
  have ne_b39_b54 : b39 ≠ b54 := Nat.ne_of_lt (Nat.lt_of_lt_of_le f53.lt (Nat.le_of_eq g54.symm))
  have f55 : Old Z n0 h54 := f52.ext E54
  have f56 : Arv Z h54 b39 k39 .int (4 : Int32) [(.int p0), (.int p1), (.int p2), (.int p3)] (.int (0 : Int32)) := f53.ext E54
  have Z54 : n0 ≤ h54.size := Nat.le_trans Z51 E54.1
  have f57 : Fld Z h54 b54 "java/util/AbstractList" "modCount" "I" (.int (0 : Int32)) := D54 (Or.inl (hw _ (List.mem_of_getElem? (i := 23) rfl))) (ty := .int) (by decide)
  have f58 : Fld Z h54 b54 "java/util/ArrayList" "elementData" "[Ljava/lang/Object;" .null := D54 (Or.inl (hw _ (List.mem_of_getElem? (i := 26) rfl))) (ty := (.array (.object "java/lang/Object"))) (by decide)
  refine own_go (B := T54.setTop (mkF m 24 #[.val (.int p0), .val (.int p1), .val (.int p2), .val (.int p3), .val (.int p4), .val (.int p5), .val (.ref b39), .unset, .unset, .unset, .unset, .unset, .unset] [(.ref b54)])) (fun t_ k_ => st54 _ k_) ?_
  refine own_go (B := T54.setTop (mkF m 25 #[.val (.int p0), .val (.int p1), .val (.int p2), .val (.int p3), .val (.int p4), .val (.int p5), .val (.ref b39), .unset, .unset, .unset, .unset, .unset, .unset] [(.ref b54), (.ref b54)])) (fun t_ k_ => ?_) ?_
  · show Steps p.tables e below (T54.setTop (mkF m 24 #[.val (.int p0), .val (.int p1), .val (.int p2), .val (.int p3), .val (.int p4), .val (.int p5), .val (.ref b39), .unset, .unset, .unset, .unset, .unset, .unset] [(.ref b54)])) _
    refine XS.dup X54.here hx rfl (hb hby at_24) rfl rfl ?_
    show Steps p.tables e below (T54.setTop (mkF m 25 #[.val (.int p0), .val (.int p1), .val (.int p2), .val (.int p3), .val (.int p4), .val (.int p5), .val (.ref b39), .unset, .unset, .unset, .unset, .unset, .unset] [(.ref b54), (.ref b54)])) _
    exact k_
  obtain ⟨_, _, ⟨T59, L59, k59, n59⟩, -, X59, ⟨Lc59, hQ59, l59, y59, z59⟩, st59⟩ := X54.specialBack hx (y := (⟨"java/util/ArrayList", "<init>", "()V"⟩ : MethodName)) rfl hown (mvT hZ (hw _ (List.mem_of_getElem? (i := 4) rfl))) (mvT hZ (hw _ (List.mem_of_getElem? (i := 5) rfl))) (mvT hZ (hw _ (List.mem_of_getElem? (i := 6) rfl))) (by decide) (backOf (W := 1) (rm1 l Z a0 hw [] b54 w0 h54 n0 Z54 f57 f58 A54 g_b54 f55 S0) hZ (hw _ (List.mem_of_getElem? (i := 6) rfl)) (hw _ (List.mem_of_getElem? (i := 3) rfl)) (by decide) (by decide)) (g := (mkF m 25 #[.val (.int p0), .val (.int p1), .val (.int p2), .val (.int p3), .val (.int p4), .val (.int p5), .val (.ref b39), .unset, .unset, .unset, .unset, .unset, .unset] [(.ref b54), (.ref b54)])) rfl (by rw [hml]; rfl) (Steps.refl _) (a := b54) (argsL := []) (rest := [(.ref b54)]) (lenOf pd__28__29_V rfl) rfl (by show 2 * 0 + _ ≤ _; exact Nat.le_of_eq rfl) (hb hby at_25) (fun _ _ => ⟨rfl, e54, (by decide : 2 + 0 ≤ _), (by decide : 7 + 0 ≤ _)⟩)
  dsimp only [Pt.U, Pt.locs, Pt.cells, Pt.slots] at X59 l59 y59 z59 st59 hQ59
  subst l59 y59 z59
  obtain ⟨rfl, N59q, K59⟩ := hQ59
  have N59 := Fr.app N51 N59q
  have f60 : Old Z n0 T59.heap := f55.keep K59 (allS g_b54 all0)
  have f61 : Arv Z T59.heap b39 k39 .int (4 : Int32) [(.int p0), (.int p1), (.int p2), (.int p3)] (.int (0 : Int32)) := f56.keep K59 (ninS ne_b39_b54 nin0)
  have f62 : Exa Z T59.heap b54 "java/util/ArrayList" := A54.keep K59
  have Z59 : n0 ≤ T59.heap.size := Nat.le_trans Z54 K59.1
  refine own_go (B := T59.setTop (mkF m 28 #[.val (.int p0), .val (.int p1), .val (.int p2), .val (.int p3), .val (.int p4), .val (.int p5), .val (.ref b39), .unset, .unset, .unset, .unset, .unset, .unset] [(.ref b54)])) (fun t_ k_ => st59.trans k_) ?_
  refine own_go (B := T59.setTop (mkF m 30 #[.val (.int p0), .val (.int p1), .val (.int p2), .val (.int p3), .val (.int p4), .val (.int p5), .val (.ref b39), .val (.ref b54), .unset, .unset, .unset, .unset, .unset] [])) (fun t_ k_ => ?_) ?_
  · show Steps p.tables e below (T59.setTop (mkF m 28 #[.val (.int p0), .val (.int p1), .val (.int p2), .val (.int p3), .val (.int p4), .val (.int p5), .val (.ref b39), .unset, .unset, .unset, .unset, .unset, .unset] [(.ref b54)])) _
    refine XS.astore X59.here hx rfl (hb hby at_28) rfl rfl (l' := #[.val (.int p0), .val (.int p1), .val (.int p2), .val (.int p3), .val (.int p4), .val (.int p5), .val (.ref b39), .val (.ref b54), .unset, .unset, .unset, .unset, .unset]) rfl ?_
    show Steps p.tables e below (T59.setTop (mkF m 30 #[.val (.int p0), .val (.int p1), .val (.int p2), .val (.int p3), .val (.int p4), .val (.int p5), .val (.ref b39), .val (.ref b54), .unset, .unset, .unset, .unset, .unset] [])) _
    exact k_
  obtain ⟨T63, h63, X63, e63, E63, A63, D63, U63, st63⟩ := newO X59 hx hZ hown (hw _ (List.mem_of_getElem? (i := 27) rfl)) (hw _ (List.mem_of_getElem? (i := 28) rfl)) (hw _ (List.mem_of_getElem? (i := 29) rfl)) rfl (g := (mkF m 30 #[.val (.int p0), .val (.int p1), .val (.int p2), .val (.int p3), .val (.int p4), .val (.int p5), .val (.ref b39), .val (.ref b54), .unset, .unset, .unset, .unset, .unset] [])) rfl (hb hby at_30) (by decide) (by decide)
  obtain ⟨b63, g63⟩ : ∃ z, z = T59.heap.size := ⟨_, rfl⟩
  rw [← g63] at A63 D63 U63 st63
  have g_b63 : n0 ≤ b63 := Nat.le_trans Z59 (Nat.le_of_eq g63.symm)
  have ne_b39_b63 : b39 ≠ b63 := Nat.ne_of_lt (Nat.lt_of_lt_of_le f61.lt (Nat.le_of_eq g63.symm))
  have ne_b54_b63 : b54 ≠ b63 := Nat.ne_of_lt (Nat.lt_of_lt_of_le f62.lt (Nat.le_of_eq g63.symm))
  have f64 : Old Z n0 h63 := f60.ext E63
  have f65 : Arv Z h63 b39 k39 .int (4 : Int32) [(.int p0), (.int p1), (.int p2), (.int p3)] (.int (0 : Int32)) := f61.ext E63
  have f66 : Exa Z h63 b54 "java/util/ArrayList" := f62.ext E63
  have Z63 : n0 ≤ h63.size := Nat.le_trans Z59 E63.1
  have f67 : Fld Z h63 b63 "com/example/costline/costline/LedgerOutline$Batches" "items" "Ljava/util/List;" .null := D63 (Or.inr (hw _ (List.mem_of_getElem? (i := 40) rfl))) (ty := (.object "java/util/List")) (by decide)
  have f68 : Fld Z h63 b63 "com/example/costline/costline/LedgerOutline$Batches" "ofKey" "[I" .null := D63 (Or.inr (hw _ (List.mem_of_getElem? (i := 42) rfl))) (ty := (.array .int)) (by decide)
  refine own_go (B := T63.setTop (mkF m 33 #[.val (.int p0), .val (.int p1), .val (.int p2), .val (.int p3), .val (.int p4), .val (.int p5), .val (.ref b39), .val (.ref b54), .unset, .unset, .unset, .unset, .unset] [(.ref b63)])) (fun t_ k_ => st63 _ k_) ?_
  refine own_go (B := T63.setTop (mkF m 38 #[.val (.int p0), .val (.int p1), .val (.int p2), .val (.int p3), .val (.int p4), .val (.int p5), .val (.ref b39), .val (.ref b54), .unset, .unset, .unset, .unset, .unset] [(.ref b39), (.ref b54), (.ref b63), (.ref b63)])) (fun t_ k_ => ?_) ?_
  · show Steps p.tables e below (T63.setTop (mkF m 33 #[.val (.int p0), .val (.int p1), .val (.int p2), .val (.int p3), .val (.int p4), .val (.int p5), .val (.ref b39), .val (.ref b54), .unset, .unset, .unset, .unset, .unset] [(.ref b63)])) _
    refine XS.dup X63.here hx rfl (hb hby at_33) rfl rfl ?_
    show Steps p.tables e below (T63.setTop (mkF m 34 #[.val (.int p0), .val (.int p1), .val (.int p2), .val (.int p3), .val (.int p4), .val (.int p5), .val (.ref b39), .val (.ref b54), .unset, .unset, .unset, .unset, .unset] [(.ref b63), (.ref b63)])) _
    refine XS.aload X63.here hx rfl (hb hby at_34) rfl rfl ?_
    show Steps p.tables e below (T63.setTop (mkF m 36 #[.val (.int p0), .val (.int p1), .val (.int p2), .val (.int p3), .val (.int p4), .val (.int p5), .val (.ref b39), .val (.ref b54), .unset, .unset, .unset, .unset, .unset] [(.ref b54), (.ref b63), (.ref b63)])) _
    refine XS.aload X63.here hx rfl (hb hby at_36) rfl rfl ?_
    show Steps p.tables e below (T63.setTop (mkF m 38 #[.val (.int p0), .val (.int p1), .val (.int p2), .val (.int p3), .val (.int p4), .val (.int p5), .val (.ref b39), .val (.ref b54), .unset, .unset, .unset, .unset, .unset] [(.ref b39), (.ref b54), (.ref b63), (.ref b63)])) _
    exact k_
  obtain ⟨_, _, ⟨T69, L69, k69, n69⟩, -, X69, ⟨Lc69, hQ69, l69, y69, z69⟩, st69⟩ := X63.specialBack hx (y := (⟨"com/example/costline/costline/LedgerOutline$Batches", "<init>", "(Ljava/util/List;[I)V"⟩ : MethodName)) rfl hown (mvT hZ (hw _ (List.mem_of_getElem? (i := 30) rfl))) (mvT hZ (hw _ (List.mem_of_getElem? (i := 31) rfl))) (mvT hZ (hw _ (List.mem_of_getElem? (i := 32) rfl))) (by decide) (backOf (W := 1) (rm5 l Z a0 hw [] b63 b54 b39 h63 n0 Z63 f67 f68 A63 g_b63) hZ (hw _ (List.mem_of_getElem? (i := 32) rfl)) (hw _ (List.mem_of_getElem? (i := 29) rfl)) (by decide) (by decide)) (g := (mkF m 38 #[.val (.int p0), .val (.int p1), .val (.int p2), .val (.int p3), .val (.int p4), .val (.int p5), .val (.ref b39), .val (.ref b54), .unset, .unset, .unset, .unset, .unset] [(.ref b39), (.ref b54), (.ref b63), (.ref b63)])) rfl (by rw [hml]; rfl) (Steps.refl _) (a := b63) (argsL := [(.ref b54), (.ref b39)]) (rest := [(.ref b63)]) (lenOf pd__28_Ljava_2f_util_2f_List_3b__5b_I_29_V rfl) rfl (by show 2 * 0 + _ ≤ _; exact Nat.le_of_eq rfl) (hb hby at_38) (fun _ _ => ⟨rfl, e63, (by decide : 3 + 0 ≤ _), (by decide : 9 + 0 ≤ _)⟩)
  dsimp only [Pt.U, Pt.locs, Pt.cells, Pt.slots] at X69 l69 y69 z69 st69 hQ69
  subst l69 y69 z69
  obtain ⟨rfl, N69q, K69, u69_0⟩ := hQ69
  have N69 := Fr.app N59 N69q
  have f70 : Old Z n0 T69.heap := f64.keep K69 (allS g_b63 all0)
  have f71 : Arv Z T69.heap b39 k39 .int (4 : Int32) [(.int p0), (.int p1), (.int p2), (.int p3)] (.int (0 : Int32)) := f65.keep K69 (ninS ne_b39_b63 nin0)
  have f72 : Exa Z T69.heap b54 "java/util/ArrayList" := f66.keep K69
  have f73 : Exa Z T69.heap b63 "com/example/costline/costline/LedgerOutline$Batches" := A63.keep K69
  have Z69 : n0 ≤ T69.heap.size := Nat.le_trans Z63 K69.1
  refine own_go (B := T69.setTop (mkF m 41 #[.val (.int p0), .val (.int p1), .val (.int p2), .val (.int p3), .val (.int p4), .val (.int p5), .val (.ref b39), .val (.ref b54), .unset, .unset, .unset, .unset, .unset] [(.ref b63)])) (fun t_ k_ => st69.trans k_) ?_
  refine own_go (B := T69.setTop (mkF m 43 #[.val (.int p0), .val (.int p1), .val (.int p2), .val (.int p3), .val (.int p4), .val (.int p5), .val (.ref b39), .val (.ref b54), .val (.ref b63), .unset, .unset, .unset, .unset] [])) (fun t_ k_ => ?_) ?_
  · show Steps p.tables e below (T69.setTop (mkF m 41 #[.val (.int p0), .val (.int p1), .val (.int p2), .val (.int p3), .val (.int p4), .val (.int p5), .val (.ref b39), .val (.ref b54), .unset, .unset, .unset, .unset, .unset] [(.ref b63)])) _
    refine XS.astore X69.here hx rfl (hb hby at_41) rfl rfl (l' := #[.val (.int p0), .val (.int p1), .val (.int p2), .val (.int p3), .val (.int p4), .val (.int p5), .val (.ref b39), .val (.ref b54), .val (.ref b63), .unset, .unset, .unset, .unset]) rfl ?_
    show Steps p.tables e below (T69.setTop (mkF m 43 #[.val (.int p0), .val (.int p1), .val (.int p2), .val (.int p3), .val (.int p4), .val (.int p5), .val (.ref b39), .val (.ref b54), .val (.ref b63), .unset, .unset, .unset, .unset] [])) _
    exact k_
  have K75 : ∀ kk : Int32, ¬ kk < 0 → kk < 4 → own_R p.tables e below G (T69.setTop (mkF m 75 #[.val (.int p0), .val (.int p1), .val (.int p2), .val (.int p3), .val (.int p4), .val (.int p5), .val (.ref b39), .val (.ref b54), .val (.ref b63), .val (.int (0 : Int32)), .val (.int kk), .unset, .unset] [])) := by
    intro kk hk1 hk2
    refine own_go (B := T69.setTop (mkF m 79 #[.val (.int p0), .val (.int p1), .val (.int p2), .val (.int p3), .val (.int p4), .val (.int p5), .val (.ref b39), .val (.ref b54), .val (.ref b63), .val (.int (0 : Int32)), .val (.int kk), .unset, .unset] [(.int kk), (.ref b63)])) (fun t_ k_ => ?_) ?_
    · show Steps p.tables e below (T69.setTop (mkF m 75 #[.val (.int p0), .val (.int p1), .val (.int p2), .val (.int p3), .val (.int p4), .val (.int p5), .val (.ref b39), .val (.ref b54), .val (.ref b63), .val (.int (0 : Int32)), .val (.int kk), .unset, .unset] [])) _
      refine XS.aload X69.here hx rfl (hb hby at_75) rfl rfl ?_
      show Steps p.tables e below (T69.setTop (mkF m 77 #[.val (.int p0), .val (.int p1), .val (.int p2), .val (.int p3), .val (.int p4), .val (.int p5), .val (.ref b39), .val (.ref b54), .val (.ref b63), .val (.int (0 : Int32)), .val (.int kk), .unset, .unset] [(.ref b63)])) _
      refine XS.iload X69.here hx rfl (hb hby at_77) rfl ?_
      show Steps p.tables e below (T69.setTop (mkF m 79 #[.val (.int p0), .val (.int p1), .val (.int p2), .val (.int p3), .val (.int p4), .val (.int p5), .val (.ref b39), .val (.ref b54), .val (.ref b63), .val (.int (0 : Int32)), .val (.int kk), .unset, .unset] [(.int kk), (.ref b63)])) _
      exact k_
    obtain ⟨cq74, kq74, q74a, q74b, q74c⟩ := isOf hZ rfl f73
    obtain ⟨_, _, ⟨T74, L74, k74, n74⟩, -, X74, ⟨Lc74, hQ74, l74, y74, z74⟩, st74⟩ := X69.virtualBack hx (y := (⟨"com/example/costline/costline/LedgerOutline$Batches", "of", "(I)I"⟩ : MethodName)) (z := (⟨"com/example/costline/costline/LedgerOutline$Batches", "of", "(I)I"⟩ : MethodName)) hown (mvT hZ (hw _ (List.mem_of_getElem? (i := 43) rfl))) (mvT hZ (hw _ (List.mem_of_getElem? (i := 44) rfl))) (notFace_of_selects (args := #[]) (mvT hZ (hw _ (List.mem_of_getElem? (i := 46) rfl)))) (mvT hZ (hw _ (List.mem_of_getElem? (i := 46) rfl))) (mvT hZ (hw _ (List.mem_of_getElem? (i := 45) rfl))) (by decide) (backOf (W := 0) (rm7 l Z a0 hw [] b63 kk b39 k39 p0 p1 p2 p3 T69.heap n0 Z69 u69_0 f71 (fun _ => hk2)) hZ (hw _ (List.mem_of_getElem? (i := 47) rfl)) (hw _ (List.mem_of_getElem? (i := 29) rfl)) (by decide) (by decide)) q74a q74c (g := (mkF m 79 #[.val (.int p0), .val (.int p1), .val (.int p2), .val (.int p3), .val (.int p4), .val (.int p5), .val (.ref b39), .val (.ref b54), .val (.ref b63), .val (.int (0 : Int32)), .val (.int kk), .unset, .unset] [(.int kk), (.ref b63)])) rfl (by rw [hml]; rfl) (Steps.refl _) (argsL := [(.int kk)]) (rest := []) (lenOf pd__28_I_29_I rfl) rfl (by show 2 * 0 + _ ≤ _; exact Nat.le_of_eq rfl) (hb hby at_79) (fun _ _ => ⟨rfl, rfl, (by decide : 3 + 0 ≤ _), (by decide : 9 + 0 ≤ _)⟩)
    dsimp only [Pt.U, Pt.locs, Pt.cells, Pt.slots] at X74 l74 y74 z74 st74 hQ74
    subst l74 y74 z74
    obtain ⟨rfl, N74q, e74q⟩ := hQ74
    have N74 := Fr.app N69 N74q
    refine own_go (B := T74.setTop (mkF m 82 #[.val (.int p0), .val (.int p1), .val (.int p2), .val (.int p3), .val (.int p4), .val (.int p5), .val (.ref b39), .val (.ref b54), .val (.ref b63), .val (.int (0 : Int32)), .val (.int kk), .unset, .unset] [(.int (own_of p0 p1 p2 p3 kk))])) (fun t_ k_ => st74.trans k_) ?_
    refine own_go (B := T74.setTop (mkF m 97 #[.val (.int p0), .val (.int p1), .val (.int p2), .val (.int p3), .val (.int p4), .val (.int p5), .val (.ref b39), .val (.ref b54), .val (.ref b63), .val (.int (0 : Int32)), .val (.int kk), .val (.int (own_of p0 p1 p2 p3 kk)), .unset] [(.int kk)])) (fun t_ k_ => ?_) ?_
    · show Steps p.tables e below (T74.setTop (mkF m 82 #[.val (.int p0), .val (.int p1), .val (.int p2), .val (.int p3), .val (.int p4), .val (.int p5), .val (.ref b39), .val (.ref b54), .val (.ref b63), .val (.int (0 : Int32)), .val (.int kk), .unset, .unset] [(.int (own_of p0 p1 p2 p3 kk))])) _
      refine XS.istore X74.here hx rfl (hb hby at_82) rfl (l' := #[.val (.int p0), .val (.int p1), .val (.int p2), .val (.int p3), .val (.int p4), .val (.int p5), .val (.ref b39), .val (.ref b54), .val (.ref b63), .val (.int (0 : Int32)), .val (.int kk), .val (.int (own_of p0 p1 p2 p3 kk)), .unset]) rfl ?_
      show Steps p.tables e below (T74.setTop (mkF m 84 #[.val (.int p0), .val (.int p1), .val (.int p2), .val (.int p3), .val (.int p4), .val (.int p5), .val (.ref b39), .val (.ref b54), .val (.ref b63), .val (.int (0 : Int32)), .val (.int kk), .val (.int (own_of p0 p1 p2 p3 kk)), .unset] [])) _
      refine XS.iload X74.here hx rfl (hb hby at_84) rfl ?_
      show Steps p.tables e below (T74.setTop (mkF m 86 #[.val (.int p0), .val (.int p1), .val (.int p2), .val (.int p3), .val (.int p4), .val (.int p5), .val (.ref b39), .val (.ref b54), .val (.ref b63), .val (.int (0 : Int32)), .val (.int kk), .val (.int (own_of p0 p1 p2 p3 kk)), .unset] [(.int (0 : Int32))])) _
      refine XS.ifYes X74.here hx rfl (pc0 := 86) (pc' := 95) rfl (hb hby at_86) rfl ((if0 _ _).trans (teq (by decide : (0 : Int32) = (0 : Int32))).1) (by decide) (by decide) ?_
      show Steps p.tables e below (T74.setTop (mkF m 95 #[.val (.int p0), .val (.int p1), .val (.int p2), .val (.int p3), .val (.int p4), .val (.int p5), .val (.ref b39), .val (.ref b54), .val (.ref b63), .val (.int (0 : Int32)), .val (.int kk), .val (.int (own_of p0 p1 p2 p3 kk)), .unset] [])) _
      refine XS.iload X74.here hx rfl (hb hby at_95) rfl ?_
      show Steps p.tables e below (T74.setTop (mkF m 97 #[.val (.int p0), .val (.int p1), .val (.int p2), .val (.int p3), .val (.int p4), .val (.int p5), .val (.ref b39), .val (.ref b54), .val (.ref b63), .val (.int (0 : Int32)), .val (.int kk), .val (.int (own_of p0 p1 p2 p3 kk)), .unset] [(.int kk)])) _
      exact k_
    by_cases hc97 : kk = (0 : Int32)
    · refine own_go (B := T74.setTop (mkF m 145 #[.val (.int p0), .val (.int p1), .val (.int p2), .val (.int p3), .val (.int p4), .val (.int p5), .val (.ref b39), .val (.ref b54), .val (.ref b63), .val (.int (0 : Int32)), .val (.int kk), .val (.int (own_of p0 p1 p2 p3 kk)), .val (.int p0)] [(.int (1 : Int32))])) (fun t_ k_ => ?_) ?_
      · show Steps p.tables e below (T74.setTop (mkF m 97 #[.val (.int p0), .val (.int p1), .val (.int p2), .val (.int p3), .val (.int p4), .val (.int p5), .val (.ref b39), .val (.ref b54), .val (.ref b63), .val (.int (0 : Int32)), .val (.int kk), .val (.int (own_of p0 p1 p2 p3 kk)), .unset] [(.int kk)])) _
        refine XS.ifNo X74.here hx rfl (hb hby at_97) rfl ((if0 _ _).trans (teq hc97).2) ?_
        show Steps p.tables e below (T74.setTop (mkF m 100 #[.val (.int p0), .val (.int p1), .val (.int p2), .val (.int p3), .val (.int p4), .val (.int p5), .val (.ref b39), .val (.ref b54), .val (.ref b63), .val (.int (0 : Int32)), .val (.int kk), .val (.int (own_of p0 p1 p2 p3 kk)), .unset] [])) _
        refine XS.iloadN X74.here hx rfl (hb hby at_100) rfl ?_
        show Steps p.tables e below (T74.setTop (mkF m 101 #[.val (.int p0), .val (.int p1), .val (.int p2), .val (.int p3), .val (.int p4), .val (.int p5), .val (.ref b39), .val (.ref b54), .val (.ref b63), .val (.int (0 : Int32)), .val (.int kk), .val (.int (own_of p0 p1 p2 p3 kk)), .unset] [(.int p0)])) _
        refine XS.istore X74.here hx rfl (hb hby at_101) rfl (l' := #[.val (.int p0), .val (.int p1), .val (.int p2), .val (.int p3), .val (.int p4), .val (.int p5), .val (.ref b39), .val (.ref b54), .val (.ref b63), .val (.int (0 : Int32)), .val (.int kk), .val (.int (own_of p0 p1 p2 p3 kk)), .val (.int p0)]) rfl ?_
        show Steps p.tables e below (T74.setTop (mkF m 103 #[.val (.int p0), .val (.int p1), .val (.int p2), .val (.int p3), .val (.int p4), .val (.int p5), .val (.ref b39), .val (.ref b54), .val (.ref b63), .val (.int (0 : Int32)), .val (.int kk), .val (.int (own_of p0 p1 p2 p3 kk)), .val (.int p0)] [])) _
        refine XS.goto X74.here hx rfl (pc0 := 103) (pc' := 133) rfl (hb hby at_103) (by decide) (by decide) ?_
        show Steps p.tables e below (T74.setTop (mkF m 133 #[.val (.int p0), .val (.int p1), .val (.int p2), .val (.int p3), .val (.int p4), .val (.int p5), .val (.ref b39), .val (.ref b54), .val (.ref b63), .val (.int (0 : Int32)), .val (.int kk), .val (.int (own_of p0 p1 p2 p3 kk)), .val (.int p0)] [])) _
        refine XS.iload X74.here hx rfl (hb hby at_133) rfl ?_
        show Steps p.tables e below (T74.setTop (mkF m 135 #[.val (.int p0), .val (.int p1), .val (.int p2), .val (.int p3), .val (.int p4), .val (.int p5), .val (.ref b39), .val (.ref b54), .val (.ref b63), .val (.int (0 : Int32)), .val (.int kk), .val (.int (own_of p0 p1 p2 p3 kk)), .val (.int p0)] [(.int (own_of p0 p1 p2 p3 kk))])) _
        refine XS.iload X74.here hx rfl (hb hby at_135) rfl ?_
        show Steps p.tables e below (T74.setTop (mkF m 137 #[.val (.int p0), .val (.int p1), .val (.int p2), .val (.int p3), .val (.int p4), .val (.int p5), .val (.ref b39), .val (.ref b54), .val (.ref b63), .val (.int (0 : Int32)), .val (.int kk), .val (.int (own_of p0 p1 p2 p3 kk)), .val (.int p0)] [(.int p0), (.int (own_of p0 p1 p2 p3 kk))])) _
        refine XS.icmpNo X74.here hx rfl (hb hby at_137) rfl (teq (by simp [own_of, hk1, hc97])).2 ?_
        show Steps p.tables e below (T74.setTop (mkF m 140 #[.val (.int p0), .val (.int p1), .val (.int p2), .val (.int p3), .val (.int p4), .val (.int p5), .val (.ref b39), .val (.ref b54), .val (.ref b63), .val (.int (0 : Int32)), .val (.int kk), .val (.int (own_of p0 p1 p2 p3 kk)), .val (.int p0)] [])) _
        refine XS.iconst X74.here hx rfl (hb hby at_140) ?_
        show Steps p.tables e below (T74.setTop (mkF m 141 #[.val (.int p0), .val (.int p1), .val (.int p2), .val (.int p3), .val (.int p4), .val (.int p5), .val (.ref b39), .val (.ref b54), .val (.ref b63), .val (.int (0 : Int32)), .val (.int kk), .val (.int (own_of p0 p1 p2 p3 kk)), .val (.int p0)] [(.int (1 : Int32))])) _
        refine XS.goto X74.here hx rfl (pc0 := 141) (pc' := 145) rfl (hb hby at_141) (by decide) (by decide) ?_
        show Steps p.tables e below (T74.setTop (mkF m 145 #[.val (.int p0), .val (.int p1), .val (.int p2), .val (.int p3), .val (.int p4), .val (.int p5), .val (.ref b39), .val (.ref b54), .val (.ref b63), .val (.int (0 : Int32)), .val (.int kk), .val (.int (own_of p0 p1 p2 p3 kk)), .val (.int p0)] [(.int (1 : Int32))])) _
        exact k_
      obtain ⟨fs, hr, hrun, hended, hW, hsame⟩ := X74.leave (v := some (.int (1 : Int32))) (fun h => by rw [Bd.returns] at h; cases h)
      refine own_at ?_ (hG _ _ ⟨hrun, hended, _, _, rfl, ?_, ⟨_, rfl⟩, hW, hsame.mono (by decide) (by decide)⟩)
      · show Steps p.tables e below (T74.setTop (mkF m 145 #[.val (.int p0), .val (.int p1), .val (.int p2), .val (.int p3), .val (.int p4), .val (.int p5), .val (.ref b39), .val (.ref b54), .val (.ref b63), .val (.int (0 : Int32)), .val (.int kk), .val (.int (own_of p0 p1 p2 p3 kk)), .val (.int p0)] [(.int (1 : Int32))])) _
        exact retN X74 hx (t := .boolean) Bd.returns (by simp) (hb hby at_145) hr
      · show Q0 Z p0 p1 p2 p3 p4 p5 w0 h0 n0 _ T74.heap _
        rw [e74q]
        exact ⟨rfl, N74⟩
    · refine own_go (B := T74.setTop (mkF m 109 #[.val (.int p0), .val (.int p1), .val (.int p2), .val (.int p3), .val (.int p4), .val (.int p5), .val (.ref b39), .val (.ref b54), .val (.ref b63), .val (.int (0 : Int32)), .val (.int kk), .val (.int (own_of p0 p1 p2 p3 kk)), .unset] [(.int (1 : Int32)), (.int kk)])) (fun t_ k_ => ?_) ?_
      · show Steps p.tables e below (T74.setTop (mkF m 97 #[.val (.int p0), .val (.int p1), .val (.int p2), .val (.int p3), .val (.int p4), .val (.int p5), .val (.ref b39), .val (.ref b54), .val (.ref b63), .val (.int (0 : Int32)), .val (.int kk), .val (.int (own_of p0 p1 p2 p3 kk)), .unset] [(.int kk)])) _
        refine XS.ifYes X74.here hx rfl (pc0 := 97) (pc' := 106) rfl (hb hby at_97) rfl ((if0 _ _).trans (feq hc97).2) (by decide) (by decide) ?_
        show Steps p.tables e below (T74.setTop (mkF m 106 #[.val (.int p0), .val (.int p1), .val (.int p2), .val (.int p3), .val (.int p4), .val (.int p5), .val (.ref b39), .val (.ref b54), .val (.ref b63), .val (.int (0 : Int32)), .val (.int kk), .val (.int (own_of p0 p1 p2 p3 kk)), .unset] [])) _
        refine XS.iload X74.here hx rfl (hb hby at_106) rfl ?_
        show Steps p.tables e below (T74.setTop (mkF m 108 #[.val (.int p0), .val (.int p1), .val (.int p2), .val (.int p3), .val (.int p4), .val (.int p5), .val (.ref b39), .val (.ref b54), .val (.ref b63), .val (.int (0 : Int32)), .val (.int kk), .val (.int (own_of p0 p1 p2 p3 kk)), .unset] [(.int kk)])) _
        refine XS.iconst X74.here hx rfl (hb hby at_108) ?_
        show Steps p.tables e below (T74.setTop (mkF m 109 #[.val (.int p0), .val (.int p1), .val (.int p2), .val (.int p3), .val (.int p4), .val (.int p5), .val (.ref b39), .val (.ref b54), .val (.ref b63), .val (.int (0 : Int32)), .val (.int kk), .val (.int (own_of p0 p1 p2 p3 kk)), .unset] [(.int (1 : Int32)), (.int kk)])) _
        exact k_
      by_cases hc109 : kk = (1 : Int32)
      · refine own_go (B := T74.setTop (mkF m 145 #[.val (.int p0), .val (.int p1), .val (.int p2), .val (.int p3), .val (.int p4), .val (.int p5), .val (.ref b39), .val (.ref b54), .val (.ref b63), .val (.int (0 : Int32)), .val (.int kk), .val (.int (own_of p0 p1 p2 p3 kk)), .val (.int p1)] [(.int (1 : Int32))])) (fun t_ k_ => ?_) ?_
        · show Steps p.tables e below (T74.setTop (mkF m 109 #[.val (.int p0), .val (.int p1), .val (.int p2), .val (.int p3), .val (.int p4), .val (.int p5), .val (.ref b39), .val (.ref b54), .val (.ref b63), .val (.int (0 : Int32)), .val (.int kk), .val (.int (own_of p0 p1 p2 p3 kk)), .unset] [(.int (1 : Int32)), (.int kk)])) _
          refine XS.icmpNo X74.here hx rfl (hb hby at_109) rfl (teq hc109).2 ?_
          show Steps p.tables e below (T74.setTop (mkF m 112 #[.val (.int p0), .val (.int p1), .val (.int p2), .val (.int p3), .val (.int p4), .val (.int p5), .val (.ref b39), .val (.ref b54), .val (.ref b63), .val (.int (0 : Int32)), .val (.int kk), .val (.int (own_of p0 p1 p2 p3 kk)), .unset] [])) _
          refine XS.iloadN X74.here hx rfl (hb hby at_112) rfl ?_
          show Steps p.tables e below (T74.setTop (mkF m 113 #[.val (.int p0), .val (.int p1), .val (.int p2), .val (.int p3), .val (.int p4), .val (.int p5), .val (.ref b39), .val (.ref b54), .val (.ref b63), .val (.int (0 : Int32)), .val (.int kk), .val (.int (own_of p0 p1 p2 p3 kk)), .unset] [(.int p1)])) _
          refine XS.istore X74.here hx rfl (hb hby at_113) rfl (l' := #[.val (.int p0), .val (.int p1), .val (.int p2), .val (.int p3), .val (.int p4), .val (.int p5), .val (.ref b39), .val (.ref b54), .val (.ref b63), .val (.int (0 : Int32)), .val (.int kk), .val (.int (own_of p0 p1 p2 p3 kk)), .val (.int p1)]) rfl ?_
          show Steps p.tables e below (T74.setTop (mkF m 115 #[.val (.int p0), .val (.int p1), .val (.int p2), .val (.int p3), .val (.int p4), .val (.int p5), .val (.ref b39), .val (.ref b54), .val (.ref b63), .val (.int (0 : Int32)), .val (.int kk), .val (.int (own_of p0 p1 p2 p3 kk)), .val (.int p1)] [])) _
          refine XS.goto X74.here hx rfl (pc0 := 115) (pc' := 133) rfl (hb hby at_115) (by decide) (by decide) ?_
          show Steps p.tables e below (T74.setTop (mkF m 133 #[.val (.int p0), .val (.int p1), .val (.int p2), .val (.int p3), .val (.int p4), .val (.int p5), .val (.ref b39), .val (.ref b54), .val (.ref b63), .val (.int (0 : Int32)), .val (.int kk), .val (.int (own_of p0 p1 p2 p3 kk)), .val (.int p1)] [])) _
          refine XS.iload X74.here hx rfl (hb hby at_133) rfl ?_
          show Steps p.tables e below (T74.setTop (mkF m 135 #[.val (.int p0), .val (.int p1), .val (.int p2), .val (.int p3), .val (.int p4), .val (.int p5), .val (.ref b39), .val (.ref b54), .val (.ref b63), .val (.int (0 : Int32)), .val (.int kk), .val (.int (own_of p0 p1 p2 p3 kk)), .val (.int p1)] [(.int (own_of p0 p1 p2 p3 kk))])) _
          refine XS.iload X74.here hx rfl (hb hby at_135) rfl ?_
          show Steps p.tables e below (T74.setTop (mkF m 137 #[.val (.int p0), .val (.int p1), .val (.int p2), .val (.int p3), .val (.int p4), .val (.int p5), .val (.ref b39), .val (.ref b54), .val (.ref b63), .val (.int (0 : Int32)), .val (.int kk), .val (.int (own_of p0 p1 p2 p3 kk)), .val (.int p1)] [(.int p1), (.int (own_of p0 p1 p2 p3 kk))])) _
          refine XS.icmpNo X74.here hx rfl (hb hby at_137) rfl (teq (by simp [own_of, hk1, hc97, hc109])).2 ?_
          show Steps p.tables e below (T74.setTop (mkF m 140 #[.val (.int p0), .val (.int p1), .val (.int p2), .val (.int p3), .val (.int p4), .val (.int p5), .val (.ref b39), .val (.ref b54), .val (.ref b63), .val (.int (0 : Int32)), .val (.int kk), .val (.int (own_of p0 p1 p2 p3 kk)), .val (.int p1)] [])) _
          refine XS.iconst X74.here hx rfl (hb hby at_140) ?_
          show Steps p.tables e below (T74.setTop (mkF m 141 #[.val (.int p0), .val (.int p1), .val (.int p2), .val (.int p3), .val (.int p4), .val (.int p5), .val (.ref b39), .val (.ref b54), .val (.ref b63), .val (.int (0 : Int32)), .val (.int kk), .val (.int (own_of p0 p1 p2 p3 kk)), .val (.int p1)] [(.int (1 : Int32))])) _
          refine XS.goto X74.here hx rfl (pc0 := 141) (pc' := 145) rfl (hb hby at_141) (by decide) (by decide) ?_
          show Steps p.tables e below (T74.setTop (mkF m 145 #[.val (.int p0), .val (.int p1), .val (.int p2), .val (.int p3), .val (.int p4), .val (.int p5), .val (.ref b39), .val (.ref b54), .val (.ref b63), .val (.int (0 : Int32)), .val (.int kk), .val (.int (own_of p0 p1 p2 p3 kk)), .val (.int p1)] [(.int (1 : Int32))])) _
          exact k_
        obtain ⟨fs, hr, hrun, hended, hW, hsame⟩ := X74.leave (v := some (.int (1 : Int32))) (fun h => by rw [Bd.returns] at h; cases h)
        refine own_at ?_ (hG _ _ ⟨hrun, hended, _, _, rfl, ?_, ⟨_, rfl⟩, hW, hsame.mono (by decide) (by decide)⟩)
        · show Steps p.tables e below (T74.setTop (mkF m 145 #[.val (.int p0), .val (.int p1), .val (.int p2), .val (.int p3), .val (.int p4), .val (.int p5), .val (.ref b39), .val (.ref b54), .val (.ref b63), .val (.int (0 : Int32)), .val (.int kk), .val (.int (own_of p0 p1 p2 p3 kk)), .val (.int p1)] [(.int (1 : Int32))])) _
          exact retN X74 hx (t := .boolean) Bd.returns (by simp) (hb hby at_145) hr
        · show Q0 Z p0 p1 p2 p3 p4 p5 w0 h0 n0 _ T74.heap _
          rw [e74q]
          exact ⟨rfl, N74⟩
      · refine own_go (B := T74.setTop (mkF m 121 #[.val (.int p0), .val (.int p1), .val (.int p2), .val (.int p3), .val (.int p4), .val (.int p5), .val (.ref b39), .val (.ref b54), .val (.ref b63), .val (.int (0 : Int32)), .val (.int kk), .val (.int (own_of p0 p1 p2 p3 kk)), .unset] [(.int (2 : Int32)), (.int kk)])) (fun t_ k_ => ?_) ?_
        · show Steps p.tables e below (T74.setTop (mkF m 109 #[.val (.int p0), .val (.int p1), .val (.int p2), .val (.int p3), .val (.int p4), .val (.int p5), .val (.ref b39), .val (.ref b54), .val (.ref b63), .val (.int (0 : Int32)), .val (.int kk), .val (.int (own_of p0 p1 p2 p3 kk)), .unset] [(.int (1 : Int32)), (.int kk)])) _
          refine XS.icmpYes X74.here hx rfl (pc0 := 109) (pc' := 118) rfl (hb hby at_109) rfl (feq hc109).2 (by decide) (by decide) ?_
          show Steps p.tables e below (T74.setTop (mkF m 118 #[.val (.int p0), .val (.int p1), .val (.int p2), .val (.int p3), .val (.int p4), .val (.int p5), .val (.ref b39), .val (.ref b54), .val (.ref b63), .val (.int (0 : Int32)), .val (.int kk), .val (.int (own_of p0 p1 p2 p3 kk)), .unset] [])) _
          refine XS.iload X74.here hx rfl (hb hby at_118) rfl ?_
          show Steps p.tables e below (T74.setTop (mkF m 120 #[.val (.int p0), .val (.int p1), .val (.int p2), .val (.int p3), .val (.int p4), .val (.int p5), .val (.ref b39), .val (.ref b54), .val (.ref b63), .val (.int (0 : Int32)), .val (.int kk), .val (.int (own_of p0 p1 p2 p3 kk)), .unset] [(.int kk)])) _
          refine XS.iconst X74.here hx rfl (hb hby at_120) ?_
          show Steps p.tables e below (T74.setTop (mkF m 121 #[.val (.int p0), .val (.int p1), .val (.int p2), .val (.int p3), .val (.int p4), .val (.int p5), .val (.ref b39), .val (.ref b54), .val (.ref b63), .val (.int (0 : Int32)), .val (.int kk), .val (.int (own_of p0 p1 p2 p3 kk)), .unset] [(.int (2 : Int32)), (.int kk)])) _
          exact k_
        by_cases hc121 : kk = (2 : Int32)
        · refine own_go (B := T74.setTop (mkF m 145 #[.val (.int p0), .val (.int p1), .val (.int p2), .val (.int p3), .val (.int p4), .val (.int p5), .val (.ref b39), .val (.ref b54), .val (.ref b63), .val (.int (0 : Int32)), .val (.int kk), .val (.int (own_of p0 p1 p2 p3 kk)), .val (.int p2)] [(.int (1 : Int32))])) (fun t_ k_ => ?_) ?_
          · show Steps p.tables e below (T74.setTop (mkF m 121 #[.val (.int p0), .val (.int p1), .val (.int p2), .val (.int p3), .val (.int p4), .val (.int p5), .val (.ref b39), .val (.ref b54), .val (.ref b63), .val (.int (0 : Int32)), .val (.int kk), .val (.int (own_of p0 p1 p2 p3 kk)), .unset] [(.int (2 : Int32)), (.int kk)])) _
            refine XS.icmpNo X74.here hx rfl (hb hby at_121) rfl (teq hc121).2 ?_
            show Steps p.tables e below (T74.setTop (mkF m 124 #[.val (.int p0), .val (.int p1), .val (.int p2), .val (.int p3), .val (.int p4), .val (.int p5), .val (.ref b39), .val (.ref b54), .val (.ref b63), .val (.int (0 : Int32)), .val (.int kk), .val (.int (own_of p0 p1 p2 p3 kk)), .unset] [])) _
            refine XS.iloadN X74.here hx rfl (hb hby at_124) rfl ?_
            show Steps p.tables e below (T74.setTop (mkF m 125 #[.val (.int p0), .val (.int p1), .val (.int p2), .val (.int p3), .val (.int p4), .val (.int p5), .val (.ref b39), .val (.ref b54), .val (.ref b63), .val (.int (0 : Int32)), .val (.int kk), .val (.int (own_of p0 p1 p2 p3 kk)), .unset] [(.int p2)])) _
            refine XS.istore X74.here hx rfl (hb hby at_125) rfl (l' := #[.val (.int p0), .val (.int p1), .val (.int p2), .val (.int p3), .val (.int p4), .val (.int p5), .val (.ref b39), .val (.ref b54), .val (.ref b63), .val (.int (0 : Int32)), .val (.int kk), .val (.int (own_of p0 p1 p2 p3 kk)), .val (.int p2)]) rfl ?_
            show Steps p.tables e below (T74.setTop (mkF m 127 #[.val (.int p0), .val (.int p1), .val (.int p2), .val (.int p3), .val (.int p4), .val (.int p5), .val (.ref b39), .val (.ref b54), .val (.ref b63), .val (.int (0 : Int32)), .val (.int kk), .val (.int (own_of p0 p1 p2 p3 kk)), .val (.int p2)] [])) _
            refine XS.goto X74.here hx rfl (pc0 := 127) (pc' := 133) rfl (hb hby at_127) (by decide) (by decide) ?_
            show Steps p.tables e below (T74.setTop (mkF m 133 #[.val (.int p0), .val (.int p1), .val (.int p2), .val (.int p3), .val (.int p4), .val (.int p5), .val (.ref b39), .val (.ref b54), .val (.ref b63), .val (.int (0 : Int32)), .val (.int kk), .val (.int (own_of p0 p1 p2 p3 kk)), .val (.int p2)] [])) _
            refine XS.iload X74.here hx rfl (hb hby at_133) rfl ?_
            show Steps p.tables e below (T74.setTop (mkF m 135 #[.val (.int p0), .val (.int p1), .val (.int p2), .val (.int p3), .val (.int p4), .val (.int p5), .val (.ref b39), .val (.ref b54), .val (.ref b63), .val (.int (0 : Int32)), .val (.int kk), .val (.int (own_of p0 p1 p2 p3 kk)), .val (.int p2)] [(.int (own_of p0 p1 p2 p3 kk))])) _
            refine XS.iload X74.here hx rfl (hb hby at_135) rfl ?_
            show Steps p.tables e below (T74.setTop (mkF m 137 #[.val (.int p0), .val (.int p1), .val (.int p2), .val (.int p3), .val (.int p4), .val (.int p5), .val (.ref b39), .val (.ref b54), .val (.ref b63), .val (.int (0 : Int32)), .val (.int kk), .val (.int (own_of p0 p1 p2 p3 kk)), .val (.int p2)] [(.int p2), (.int (own_of p0 p1 p2 p3 kk))])) _
            refine XS.icmpNo X74.here hx rfl (hb hby at_137) rfl (teq (by simp [own_of, hk1, hc97, hc109, hc121])).2 ?_
            show Steps p.tables e below (T74.setTop (mkF m 140 #[.val (.int p0), .val (.int p1), .val (.int p2), .val (.int p3), .val (.int p4), .val (.int p5), .val (.ref b39), .val (.ref b54), .val (.ref b63), .val (.int (0 : Int32)), .val (.int kk), .val (.int (own_of p0 p1 p2 p3 kk)), .val (.int p2)] [])) _
            refine XS.iconst X74.here hx rfl (hb hby at_140) ?_
            show Steps p.tables e below (T74.setTop (mkF m 141 #[.val (.int p0), .val (.int p1), .val (.int p2), .val (.int p3), .val (.int p4), .val (.int p5), .val (.ref b39), .val (.ref b54), .val (.ref b63), .val (.int (0 : Int32)), .val (.int kk), .val (.int (own_of p0 p1 p2 p3 kk)), .val (.int p2)] [(.int (1 : Int32))])) _
            refine XS.goto X74.here hx rfl (pc0 := 141) (pc' := 145) rfl (hb hby at_141) (by decide) (by decide) ?_
            show Steps p.tables e below (T74.setTop (mkF m 145 #[.val (.int p0), .val (.int p1), .val (.int p2), .val (.int p3), .val (.int p4), .val (.int p5), .val (.ref b39), .val (.ref b54), .val (.ref b63), .val (.int (0 : Int32)), .val (.int kk), .val (.int (own_of p0 p1 p2 p3 kk)), .val (.int p2)] [(.int (1 : Int32))])) _
            exact k_
          obtain ⟨fs, hr, hrun, hended, hW, hsame⟩ := X74.leave (v := some (.int (1 : Int32))) (fun h => by rw [Bd.returns] at h; cases h)
          refine own_at ?_ (hG _ _ ⟨hrun, hended, _, _, rfl, ?_, ⟨_, rfl⟩, hW, hsame.mono (by decide) (by decide)⟩)
          · show Steps p.tables e below (T74.setTop (mkF m 145 #[.val (.int p0), .val (.int p1), .val (.int p2), .val (.int p3), .val (.int p4), .val (.int p5), .val (.ref b39), .val (.ref b54), .val (.ref b63), .val (.int (0 : Int32)), .val (.int kk), .val (.int (own_of p0 p1 p2 p3 kk)), .val (.int p2)] [(.int (1 : Int32))])) _
            exact retN X74 hx (t := .boolean) Bd.returns (by simp) (hb hby at_145) hr
          · show Q0 Z p0 p1 p2 p3 p4 p5 w0 h0 n0 _ T74.heap _
            rw [e74q]
            exact ⟨rfl, N74⟩
        · refine own_go (B := T74.setTop (mkF m 145 #[.val (.int p0), .val (.int p1), .val (.int p2), .val (.int p3), .val (.int p4), .val (.int p5), .val (.ref b39), .val (.ref b54), .val (.ref b63), .val (.int (0 : Int32)), .val (.int kk), .val (.int (own_of p0 p1 p2 p3 kk)), .val (.int p3)] [(.int (1 : Int32))])) (fun t_ k_ => ?_) ?_
          · show Steps p.tables e below (T74.setTop (mkF m 121 #[.val (.int p0), .val (.int p1), .val (.int p2), .val (.int p3), .val (.int p4), .val (.int p5), .val (.ref b39), .val (.ref b54), .val (.ref b63), .val (.int (0 : Int32)), .val (.int kk), .val (.int (own_of p0 p1 p2 p3 kk)), .unset] [(.int (2 : Int32)), (.int kk)])) _
            refine XS.icmpYes X74.here hx rfl (pc0 := 121) (pc' := 130) rfl (hb hby at_121) rfl (feq hc121).2 (by decide) (by decide) ?_
            show Steps p.tables e below (T74.setTop (mkF m 130 #[.val (.int p0), .val (.int p1), .val (.int p2), .val (.int p3), .val (.int p4), .val (.int p5), .val (.ref b39), .val (.ref b54), .val (.ref b63), .val (.int (0 : Int32)), .val (.int kk), .val (.int (own_of p0 p1 p2 p3 kk)), .unset] [])) _
            refine XS.iloadN X74.here hx rfl (hb hby at_130) rfl ?_
            show Steps p.tables e below (T74.setTop (mkF m 131 #[.val (.int p0), .val (.int p1), .val (.int p2), .val (.int p3), .val (.int p4), .val (.int p5), .val (.ref b39), .val (.ref b54), .val (.ref b63), .val (.int (0 : Int32)), .val (.int kk), .val (.int (own_of p0 p1 p2 p3 kk)), .unset] [(.int p3)])) _
            refine XS.istore X74.here hx rfl (hb hby at_131) rfl (l' := #[.val (.int p0), .val (.int p1), .val (.int p2), .val (.int p3), .val (.int p4), .val (.int p5), .val (.ref b39), .val (.ref b54), .val (.ref b63), .val (.int (0 : Int32)), .val (.int kk), .val (.int (own_of p0 p1 p2 p3 kk)), .val (.int p3)]) rfl ?_
            show Steps p.tables e below (T74.setTop (mkF m 133 #[.val (.int p0), .val (.int p1), .val (.int p2), .val (.int p3), .val (.int p4), .val (.int p5), .val (.ref b39), .val (.ref b54), .val (.ref b63), .val (.int (0 : Int32)), .val (.int kk), .val (.int (own_of p0 p1 p2 p3 kk)), .val (.int p3)] [])) _
            refine XS.iload X74.here hx rfl (hb hby at_133) rfl ?_
            show Steps p.tables e below (T74.setTop (mkF m 135 #[.val (.int p0), .val (.int p1), .val (.int p2), .val (.int p3), .val (.int p4), .val (.int p5), .val (.ref b39), .val (.ref b54), .val (.ref b63), .val (.int (0 : Int32)), .val (.int kk), .val (.int (own_of p0 p1 p2 p3 kk)), .val (.int p3)] [(.int (own_of p0 p1 p2 p3 kk))])) _
            refine XS.iload X74.here hx rfl (hb hby at_135) rfl ?_
            show Steps p.tables e below (T74.setTop (mkF m 137 #[.val (.int p0), .val (.int p1), .val (.int p2), .val (.int p3), .val (.int p4), .val (.int p5), .val (.ref b39), .val (.ref b54), .val (.ref b63), .val (.int (0 : Int32)), .val (.int kk), .val (.int (own_of p0 p1 p2 p3 kk)), .val (.int p3)] [(.int p3), (.int (own_of p0 p1 p2 p3 kk))])) _
            refine XS.icmpNo X74.here hx rfl (hb hby at_137) rfl (teq (by simp [own_of, hk1, hc97, hc109, hc121])).2 ?_
            show Steps p.tables e below (T74.setTop (mkF m 140 #[.val (.int p0), .val (.int p1), .val (.int p2), .val (.int p3), .val (.int p4), .val (.int p5), .val (.ref b39), .val (.ref b54), .val (.ref b63), .val (.int (0 : Int32)), .val (.int kk), .val (.int (own_of p0 p1 p2 p3 kk)), .val (.int p3)] [])) _
            refine XS.iconst X74.here hx rfl (hb hby at_140) ?_
            show Steps p.tables e below (T74.setTop (mkF m 141 #[.val (.int p0), .val (.int p1), .val (.int p2), .val (.int p3), .val (.int p4), .val (.int p5), .val (.ref b39), .val (.ref b54), .val (.ref b63), .val (.int (0 : Int32)), .val (.int kk), .val (.int (own_of p0 p1 p2 p3 kk)), .val (.int p3)] [(.int (1 : Int32))])) _
            refine XS.goto X74.here hx rfl (pc0 := 141) (pc' := 145) rfl (hb hby at_141) (by decide) (by decide) ?_
            show Steps p.tables e below (T74.setTop (mkF m 145 #[.val (.int p0), .val (.int p1), .val (.int p2), .val (.int p3), .val (.int p4), .val (.int p5), .val (.ref b39), .val (.ref b54), .val (.ref b63), .val (.int (0 : Int32)), .val (.int kk), .val (.int (own_of p0 p1 p2 p3 kk)), .val (.int p3)] [(.int (1 : Int32))])) _
            exact k_
          obtain ⟨fs, hr, hrun, hended, hW, hsame⟩ := X74.leave (v := some (.int (1 : Int32))) (fun h => by rw [Bd.returns] at h; cases h)
          refine own_at ?_ (hG _ _ ⟨hrun, hended, _, _, rfl, ?_, ⟨_, rfl⟩, hW, hsame.mono (by decide) (by decide)⟩)
          · show Steps p.tables e below (T74.setTop (mkF m 145 #[.val (.int p0), .val (.int p1), .val (.int p2), .val (.int p3), .val (.int p4), .val (.int p5), .val (.ref b39), .val (.ref b54), .val (.ref b63), .val (.int (0 : Int32)), .val (.int kk), .val (.int (own_of p0 p1 p2 p3 kk)), .val (.int p3)] [(.int (1 : Int32))])) _
            exact retN X74 hx (t := .boolean) Bd.returns (by simp) (hb hby at_145) hr
          · show Q0 Z p0 p1 p2 p3 p4 p5 w0 h0 n0 _ T74.heap _
            rw [e74q]
            exact ⟨rfl, N74⟩
  refine own_go (B := T69.setTop (mkF m 47 #[.val (.int p0), .val (.int p1), .val (.int p2), .val (.int p3), .val (.int p4), .val (.int p5), .val (.ref b39), .val (.ref b54), .val (.ref b63), .unset, .unset, .unset, .unset] [(.int (p5 &&& (1 : Int32)))])) (fun t_ k_ => ?_) ?_
  · show Steps p.tables e below (T69.setTop (mkF m 43 #[.val (.int p0), .val (.int p1), .val (.int p2), .val (.int p3), .val (.int p4), .val (.int p5), .val (.ref b39), .val (.ref b54), .val (.ref b63), .unset, .unset, .unset, .unset] [])) _
    refine XS.iload X69.here hx rfl (hb hby at_43) rfl ?_
    show Steps p.tables e below (T69.setTop (mkF m 45 #[.val (.int p0), .val (.int p1), .val (.int p2), .val (.int p3), .val (.int p4), .val (.int p5), .val (.ref b39), .val (.ref b54), .val (.ref b63), .unset, .unset, .unset, .unset] [(.int p5)])) _
    refine XS.iconst X69.here hx rfl (hb hby at_45) ?_
    show Steps p.tables e below (T69.setTop (mkF m 46 #[.val (.int p0), .val (.int p1), .val (.int p2), .val (.int p3), .val (.int p4), .val (.int p5), .val (.ref b39), .val (.ref b54), .val (.ref b63), .unset, .unset, .unset, .unset] [(.int (1 : Int32)), (.int p5)])) _
    refine XS.iand X69.here hx rfl (hb hby at_46) rfl ?_
    show Steps p.tables e below (T69.setTop (mkF m 47 #[.val (.int p0), .val (.int p1), .val (.int p2), .val (.int p3), .val (.int p4), .val (.int p5), .val (.ref b39), .val (.ref b54), .val (.ref b63), .unset, .unset, .unset, .unset] [(.int (p5 &&& (1 : Int32)))])) _
    exact k_
  by_cases hc47 : (p5 &&& (1 : Int32)) = (0 : Int32)
  · refine own_go (B := T69.setTop (mkF m 75 #[.val (.int p0), .val (.int p1), .val (.int p2), .val (.int p3), .val (.int p4), .val (.int p5), .val (.ref b39), .val (.ref b54), .val (.ref b63), .val (.int (0 : Int32)), .val (.int ((p4 &&& (2147483647 : Int32)) - ((p4 &&& (2147483647 : Int32)) / (4 : Int32)) * (4 : Int32))), .unset, .unset] [])) (fun t_ k_ => ?_) ?_
    · show Steps p.tables e below (T69.setTop (mkF m 47 #[.val (.int p0), .val (.int p1), .val (.int p2), .val (.int p3), .val (.int p4), .val (.int p5), .val (.ref b39), .val (.ref b54), .val (.ref b63), .unset, .unset, .unset, .unset] [(.int (p5 &&& (1 : Int32)))])) _
      refine XS.ifYes X69.here hx rfl (pc0 := 47) (pc' := 54) rfl (hb hby at_47) rfl ((if0 _ _).trans (teq hc47).1) (by decide) (by decide) ?_
      show Steps p.tables e below (T69.setTop (mkF m 54 #[.val (.int p0), .val (.int p1), .val (.int p2), .val (.int p3), .val (.int p4), .val (.int p5), .val (.ref b39), .val (.ref b54), .val (.ref b63), .unset, .unset, .unset, .unset] [])) _
      refine XS.iconst X69.here hx rfl (hb hby at_54) ?_
      show Steps p.tables e below (T69.setTop (mkF m 55 #[.val (.int p0), .val (.int p1), .val (.int p2), .val (.int p3), .val (.int p4), .val (.int p5), .val (.ref b39), .val (.ref b54), .val (.ref b63), .unset, .unset, .unset, .unset] [(.int (0 : Int32))])) _
      refine XS.istore X69.here hx rfl (hb hby at_55) rfl (l' := #[.val (.int p0), .val (.int p1), .val (.int p2), .val (.int p3), .val (.int p4), .val (.int p5), .val (.ref b39), .val (.ref b54), .val (.ref b63), .val (.int (0 : Int32)), .unset, .unset, .unset]) rfl ?_
      show Steps p.tables e below (T69.setTop (mkF m 57 #[.val (.int p0), .val (.int p1), .val (.int p2), .val (.int p3), .val (.int p4), .val (.int p5), .val (.ref b39), .val (.ref b54), .val (.ref b63), .val (.int (0 : Int32)), .unset, .unset, .unset] [])) _
      refine XS.iload X69.here hx rfl (hb hby at_57) rfl ?_
      show Steps p.tables e below (T69.setTop (mkF m 59 #[.val (.int p0), .val (.int p1), .val (.int p2), .val (.int p3), .val (.int p4), .val (.int p5), .val (.ref b39), .val (.ref b54), .val (.ref b63), .val (.int (0 : Int32)), .unset, .unset, .unset] [(.int (0 : Int32))])) _
      refine XS.ifYes X69.here hx rfl (pc0 := 59) (pc' := 66) rfl (hb hby at_59) rfl ((if0 _ _).trans (teq (by decide : (0 : Int32) = (0 : Int32))).1) (by decide) (by decide) ?_
      show Steps p.tables e below (T69.setTop (mkF m 66 #[.val (.int p0), .val (.int p1), .val (.int p2), .val (.int p3), .val (.int p4), .val (.int p5), .val (.ref b39), .val (.ref b54), .val (.ref b63), .val (.int (0 : Int32)), .unset, .unset, .unset] [])) _
      refine XS.iload X69.here hx rfl (hb hby at_66) rfl ?_
      show Steps p.tables e below (T69.setTop (mkF m 68 #[.val (.int p0), .val (.int p1), .val (.int p2), .val (.int p3), .val (.int p4), .val (.int p5), .val (.ref b39), .val (.ref b54), .val (.ref b63), .val (.int (0 : Int32)), .unset, .unset, .unset] [(.int p4)])) _
      refine X69.ldcInt hx hown (mvT hZ (hw _ (List.mem_of_getElem? (i := 48) rfl))) (g := (mkF m 68 #[.val (.int p0), .val (.int p1), .val (.int p2), .val (.int p3), .val (.int p4), .val (.int p5), .val (.ref b39), .val (.ref b54), .val (.ref b63), .val (.int (0 : Int32)), .unset, .unset, .unset] [(.int p4)])) rfl (hb hby at_68) _ ?_
      show Steps p.tables e below (T69.setTop (mkF m 70 #[.val (.int p0), .val (.int p1), .val (.int p2), .val (.int p3), .val (.int p4), .val (.int p5), .val (.ref b39), .val (.ref b54), .val (.ref b63), .val (.int (0 : Int32)), .unset, .unset, .unset] [(.int (2147483647 : Int32)), (.int p4)])) _
      refine XS.iand X69.here hx rfl (hb hby at_70) rfl ?_
      show Steps p.tables e below (T69.setTop (mkF m 71 #[.val (.int p0), .val (.int p1), .val (.int p2), .val (.int p3), .val (.int p4), .val (.int p5), .val (.ref b39), .val (.ref b54), .val (.ref b63), .val (.int (0 : Int32)), .unset, .unset, .unset] [(.int (p4 &&& (2147483647 : Int32)))])) _
      refine XS.iconst X69.here hx rfl (hb hby at_71) ?_
      show Steps p.tables e below (T69.setTop (mkF m 72 #[.val (.int p0), .val (.int p1), .val (.int p2), .val (.int p3), .val (.int p4), .val (.int p5), .val (.ref b39), .val (.ref b54), .val (.ref b63), .val (.int (0 : Int32)), .unset, .unset, .unset] [(.int (4 : Int32)), (.int (p4 &&& (2147483647 : Int32)))])) _
      refine XS.irem X69.here hx rfl (hb hby at_72) rfl (by decide) ?_
      show Steps p.tables e below (T69.setTop (mkF m 73 #[.val (.int p0), .val (.int p1), .val (.int p2), .val (.int p3), .val (.int p4), .val (.int p5), .val (.ref b39), .val (.ref b54), .val (.ref b63), .val (.int (0 : Int32)), .unset, .unset, .unset] [(.int ((p4 &&& (2147483647 : Int32)) - ((p4 &&& (2147483647 : Int32)) / (4 : Int32)) * (4 : Int32)))])) _
      refine XS.istore X69.here hx rfl (hb hby at_73) rfl (l' := #[.val (.int p0), .val (.int p1), .val (.int p2), .val (.int p3), .val (.int p4), .val (.int p5), .val (.ref b39), .val (.ref b54), .val (.ref b63), .val (.int (0 : Int32)), .val (.int ((p4 &&& (2147483647 : Int32)) - ((p4 &&& (2147483647 : Int32)) / (4 : Int32)) * (4 : Int32))), .unset, .unset]) rfl ?_
      show Steps p.tables e below (T69.setTop (mkF m 75 #[.val (.int p0), .val (.int p1), .val (.int p2), .val (.int p3), .val (.int p4), .val (.int p5), .val (.ref b39), .val (.ref b54), .val (.ref b63), .val (.int (0 : Int32)), .val (.int ((p4 &&& (2147483647 : Int32)) - ((p4 &&& (2147483647 : Int32)) / (4 : Int32)) * (4 : Int32))), .unset, .unset] [])) _
      exact k_
    exact K75 _ (own_key p4).1 (own_key p4).2
  · refine own_go (B := T69.setTop (mkF m 79 #[.val (.int p0), .val (.int p1), .val (.int p2), .val (.int p3), .val (.int p4), .val (.int p5), .val (.ref b39), .val (.ref b54), .val (.ref b63), .val (.int (1 : Int32)), .val (.int (-1 : Int32)), .unset, .unset] [(.int (-1 : Int32)), (.ref b63)])) (fun t_ k_ => ?_) ?_
    · show Steps p.tables e below (T69.setTop (mkF m 47 #[.val (.int p0), .val (.int p1), .val (.int p2), .val (.int p3), .val (.int p4), .val (.int p5), .val (.ref b39), .val (.ref b54), .val (.ref b63), .unset, .unset, .unset, .unset] [(.int (p5 &&& (1 : Int32)))])) _
      refine XS.ifNo X69.here hx rfl (hb hby at_47) rfl ((if0 _ _).trans (feq hc47).1) ?_
      show Steps p.tables e below (T69.setTop (mkF m 50 #[.val (.int p0), .val (.int p1), .val (.int p2), .val (.int p3), .val (.int p4), .val (.int p5), .val (.ref b39), .val (.ref b54), .val (.ref b63), .unset, .unset, .unset, .unset] [])) _
      refine XS.iconst X69.here hx rfl (hb hby at_50) ?_
      show Steps p.tables e below (T69.setTop (mkF m 51 #[.val (.int p0), .val (.int p1), .val (.int p2), .val (.int p3), .val (.int p4), .val (.int p5), .val (.ref b39), .val (.ref b54), .val (.ref b63), .unset, .unset, .unset, .unset] [(.int (1 : Int32))])) _
      refine XS.goto X69.here hx rfl (pc0 := 51) (pc' := 55) rfl (hb hby at_51) (by decide) (by decide) ?_
      show Steps p.tables e below (T69.setTop (mkF m 55 #[.val (.int p0), .val (.int p1), .val (.int p2), .val (.int p3), .val (.int p4), .val (.int p5), .val (.ref b39), .val (.ref b54), .val (.ref b63), .unset, .unset, .unset, .unset] [(.int (1 : Int32))])) _
      refine XS.istore X69.here hx rfl (hb hby at_55) rfl (l' := #[.val (.int p0), .val (.int p1), .val (.int p2), .val (.int p3), .val (.int p4), .val (.int p5), .val (.ref b39), .val (.ref b54), .val (.ref b63), .val (.int (1 : Int32)), .unset, .unset, .unset]) rfl ?_
      show Steps p.tables e below (T69.setTop (mkF m 57 #[.val (.int p0), .val (.int p1), .val (.int p2), .val (.int p3), .val (.int p4), .val (.int p5), .val (.ref b39), .val (.ref b54), .val (.ref b63), .val (.int (1 : Int32)), .unset, .unset, .unset] [])) _
      refine XS.iload X69.here hx rfl (hb hby at_57) rfl ?_
      show Steps p.tables e below (T69.setTop (mkF m 59 #[.val (.int p0), .val (.int p1), .val (.int p2), .val (.int p3), .val (.int p4), .val (.int p5), .val (.ref b39), .val (.ref b54), .val (.ref b63), .val (.int (1 : Int32)), .unset, .unset, .unset] [(.int (1 : Int32))])) _
      refine XS.ifNo X69.here hx rfl (hb hby at_59) rfl ((if0 _ _).trans (feq (by decide : ¬ ((1 : Int32) = (0 : Int32)))).1) ?_
      show Steps p.tables e below (T69.setTop (mkF m 62 #[.val (.int p0), .val (.int p1), .val (.int p2), .val (.int p3), .val (.int p4), .val (.int p5), .val (.ref b39), .val (.ref b54), .val (.ref b63), .val (.int (1 : Int32)), .unset, .unset, .unset] [])) _
      refine XS.iconst X69.here hx rfl (hb hby at_62) ?_
      show Steps p.tables e below (T69.setTop (mkF m 63 #[.val (.int p0), .val (.int p1), .val (.int p2), .val (.int p3), .val (.int p4), .val (.int p5), .val (.ref b39), .val (.ref b54), .val (.ref b63), .val (.int (1 : Int32)), .unset, .unset, .unset] [(.int (-1 : Int32))])) _
      refine XS.goto X69.here hx rfl (pc0 := 63) (pc' := 73) rfl (hb hby at_63) (by decide) (by decide) ?_
      show Steps p.tables e below (T69.setTop (mkF m 73 #[.val (.int p0), .val (.int p1), .val (.int p2), .val (.int p3), .val (.int p4), .val (.int p5), .val (.ref b39), .val (.ref b54), .val (.ref b63), .val (.int (1 : Int32)), .unset, .unset, .unset] [(.int (-1 : Int32))])) _
      refine XS.istore X69.here hx rfl (hb hby at_73) rfl (l' := #[.val (.int p0), .val (.int p1), .val (.int p2), .val (.int p3), .val (.int p4), .val (.int p5), .val (.ref b39), .val (.ref b54), .val (.ref b63), .val (.int (1 : Int32)), .val (.int (-1 : Int32)), .unset, .unset]) rfl ?_
      show Steps p.tables e below (T69.setTop (mkF m 75 #[.val (.int p0), .val (.int p1), .val (.int p2), .val (.int p3), .val (.int p4), .val (.int p5), .val (.ref b39), .val (.ref b54), .val (.ref b63), .val (.int (1 : Int32)), .val (.int (-1 : Int32)), .unset, .unset] [])) _
      refine XS.aload X69.here hx rfl (hb hby at_75) rfl rfl ?_
      show Steps p.tables e below (T69.setTop (mkF m 77 #[.val (.int p0), .val (.int p1), .val (.int p2), .val (.int p3), .val (.int p4), .val (.int p5), .val (.ref b39), .val (.ref b54), .val (.ref b63), .val (.int (1 : Int32)), .val (.int (-1 : Int32)), .unset, .unset] [(.ref b63)])) _
      refine XS.iload X69.here hx rfl (hb hby at_77) rfl ?_
      show Steps p.tables e below (T69.setTop (mkF m 79 #[.val (.int p0), .val (.int p1), .val (.int p2), .val (.int p3), .val (.int p4), .val (.int p5), .val (.ref b39), .val (.ref b54), .val (.ref b63), .val (.int (1 : Int32)), .val (.int (-1 : Int32)), .unset, .unset] [(.int (-1 : Int32)), (.ref b63)])) _
      exact k_
    obtain ⟨cq79, kq79, q79a, q79b, q79c⟩ := isOf hZ rfl f73
    obtain ⟨_, _, ⟨T79, L79, k79, n79⟩, -, X79, ⟨Lc79, hQ79, l79, y79, z79⟩, st79⟩ := X69.virtualBack hx (y := (⟨"com/example/costline/costline/LedgerOutline$Batches", "of", "(I)I"⟩ : MethodName)) (z := (⟨"com/example/costline/costline/LedgerOutline$Batches", "of", "(I)I"⟩ : MethodName)) hown (mvT hZ (hw _ (List.mem_of_getElem? (i := 43) rfl))) (mvT hZ (hw _ (List.mem_of_getElem? (i := 44) rfl))) (notFace_of_selects (args := #[]) (mvT hZ (hw _ (List.mem_of_getElem? (i := 46) rfl)))) (mvT hZ (hw _ (List.mem_of_getElem? (i := 46) rfl))) (mvT hZ (hw _ (List.mem_of_getElem? (i := 45) rfl))) (by decide) (backOf (W := 0) (rm7 l Z a0 hw [] b63 (-1 : Int32) b39 k39 p0 p1 p2 p3 T69.heap n0 Z69 u69_0 f71 (fun q => absurd (by decide) q)) hZ (hw _ (List.mem_of_getElem? (i := 47) rfl)) (hw _ (List.mem_of_getElem? (i := 29) rfl)) (by decide) (by decide)) q79a q79c (g := (mkF m 79 #[.val (.int p0), .val (.int p1), .val (.int p2), .val (.int p3), .val (.int p4), .val (.int p5), .val (.ref b39), .val (.ref b54), .val (.ref b63), .val (.int (1 : Int32)), .val (.int (-1 : Int32)), .unset, .unset] [(.int (-1 : Int32)), (.ref b63)])) rfl (by rw [hml]; rfl) (Steps.refl _) (argsL := [(.int (-1 : Int32))]) (rest := []) (lenOf pd__28_I_29_I rfl) rfl (by show 2 * 0 + _ ≤ _; exact Nat.le_of_eq rfl) (hb hby at_79) (fun _ _ => ⟨rfl, rfl, (by decide : 3 + 0 ≤ _), (by decide : 9 + 0 ≤ _)⟩)
    dsimp only [Pt.U, Pt.locs, Pt.cells, Pt.slots] at X79 l79 y79 z79 st79 hQ79
    subst l79 y79 z79
    obtain ⟨rfl, N79q, e79q⟩ := hQ79
    have N79 := Fr.app N69 N79q
    refine own_go (B := T79.setTop (mkF m 82 #[.val (.int p0), .val (.int p1), .val (.int p2), .val (.int p3), .val (.int p4), .val (.int p5), .val (.ref b39), .val (.ref b54), .val (.ref b63), .val (.int (1 : Int32)), .val (.int (-1 : Int32)), .unset, .unset] [(.int (own_of p0 p1 p2 p3 (-1 : Int32)))])) (fun t_ k_ => st79.trans k_) ?_
    refine own_go (B := T79.setTop (mkF m 145 #[.val (.int p0), .val (.int p1), .val (.int p2), .val (.int p3), .val (.int p4), .val (.int p5), .val (.ref b39), .val (.ref b54), .val (.ref b63), .val (.int (1 : Int32)), .val (.int (-1 : Int32)), .val (.int (own_of p0 p1 p2 p3 (-1 : Int32))), .val (.int (0 : Int32))] [(.int (1 : Int32))])) (fun t_ k_ => ?_) ?_
    · show Steps p.tables e below (T79.setTop (mkF m 82 #[.val (.int p0), .val (.int p1), .val (.int p2), .val (.int p3), .val (.int p4), .val (.int p5), .val (.ref b39), .val (.ref b54), .val (.ref b63), .val (.int (1 : Int32)), .val (.int (-1 : Int32)), .unset, .unset] [(.int (own_of p0 p1 p2 p3 (-1 : Int32)))])) _
      refine XS.istore X79.here hx rfl (hb hby at_82) rfl (l' := #[.val (.int p0), .val (.int p1), .val (.int p2), .val (.int p3), .val (.int p4), .val (.int p5), .val (.ref b39), .val (.ref b54), .val (.ref b63), .val (.int (1 : Int32)), .val (.int (-1 : Int32)), .val (.int (own_of p0 p1 p2 p3 (-1 : Int32))), .unset]) rfl ?_
      show Steps p.tables e below (T79.setTop (mkF m 84 #[.val (.int p0), .val (.int p1), .val (.int p2), .val (.int p3), .val (.int p4), .val (.int p5), .val (.ref b39), .val (.ref b54), .val (.ref b63), .val (.int (1 : Int32)), .val (.int (-1 : Int32)), .val (.int (own_of p0 p1 p2 p3 (-1 : Int32))), .unset] [])) _
      refine XS.iload X79.here hx rfl (hb hby at_84) rfl ?_
      show Steps p.tables e below (T79.setTop (mkF m 86 #[.val (.int p0), .val (.int p1), .val (.int p2), .val (.int p3), .val (.int p4), .val (.int p5), .val (.ref b39), .val (.ref b54), .val (.ref b63), .val (.int (1 : Int32)), .val (.int (-1 : Int32)), .val (.int (own_of p0 p1 p2 p3 (-1 : Int32))), .unset] [(.int (1 : Int32))])) _
      refine XS.ifNo X79.here hx rfl (hb hby at_86) rfl ((if0 _ _).trans (feq (by decide : ¬ ((1 : Int32) = (0 : Int32)))).1) ?_
      show Steps p.tables e below (T79.setTop (mkF m 89 #[.val (.int p0), .val (.int p1), .val (.int p2), .val (.int p3), .val (.int p4), .val (.int p5), .val (.ref b39), .val (.ref b54), .val (.ref b63), .val (.int (1 : Int32)), .val (.int (-1 : Int32)), .val (.int (own_of p0 p1 p2 p3 (-1 : Int32))), .unset] [])) _
      refine XS.iconst X79.here hx rfl (hb hby at_89) ?_
      show Steps p.tables e below (T79.setTop (mkF m 90 #[.val (.int p0), .val (.int p1), .val (.int p2), .val (.int p3), .val (.int p4), .val (.int p5), .val (.ref b39), .val (.ref b54), .val (.ref b63), .val (.int (1 : Int32)), .val (.int (-1 : Int32)), .val (.int (own_of p0 p1 p2 p3 (-1 : Int32))), .unset] [(.int (0 : Int32))])) _
      refine XS.istore X79.here hx rfl (hb hby at_90) rfl (l' := #[.val (.int p0), .val (.int p1), .val (.int p2), .val (.int p3), .val (.int p4), .val (.int p5), .val (.ref b39), .val (.ref b54), .val (.ref b63), .val (.int (1 : Int32)), .val (.int (-1 : Int32)), .val (.int (own_of p0 p1 p2 p3 (-1 : Int32))), .val (.int (0 : Int32))]) rfl ?_
      show Steps p.tables e below (T79.setTop (mkF m 92 #[.val (.int p0), .val (.int p1), .val (.int p2), .val (.int p3), .val (.int p4), .val (.int p5), .val (.ref b39), .val (.ref b54), .val (.ref b63), .val (.int (1 : Int32)), .val (.int (-1 : Int32)), .val (.int (own_of p0 p1 p2 p3 (-1 : Int32))), .val (.int (0 : Int32))] [])) _
      refine XS.goto X79.here hx rfl (pc0 := 92) (pc' := 133) rfl (hb hby at_92) (by decide) (by decide) ?_
      show Steps p.tables e below (T79.setTop (mkF m 133 #[.val (.int p0), .val (.int p1), .val (.int p2), .val (.int p3), .val (.int p4), .val (.int p5), .val (.ref b39), .val (.ref b54), .val (.ref b63), .val (.int (1 : Int32)), .val (.int (-1 : Int32)), .val (.int (own_of p0 p1 p2 p3 (-1 : Int32))), .val (.int (0 : Int32))] [])) _
      refine XS.iload X79.here hx rfl (hb hby at_133) rfl ?_
      show Steps p.tables e below (T79.setTop (mkF m 135 #[.val (.int p0), .val (.int p1), .val (.int p2), .val (.int p3), .val (.int p4), .val (.int p5), .val (.ref b39), .val (.ref b54), .val (.ref b63), .val (.int (1 : Int32)), .val (.int (-1 : Int32)), .val (.int (own_of p0 p1 p2 p3 (-1 : Int32))), .val (.int (0 : Int32))] [(.int (own_of p0 p1 p2 p3 (-1 : Int32)))])) _
      refine XS.iload X79.here hx rfl (hb hby at_135) rfl ?_
      show Steps p.tables e below (T79.setTop (mkF m 137 #[.val (.int p0), .val (.int p1), .val (.int p2), .val (.int p3), .val (.int p4), .val (.int p5), .val (.ref b39), .val (.ref b54), .val (.ref b63), .val (.int (1 : Int32)), .val (.int (-1 : Int32)), .val (.int (own_of p0 p1 p2 p3 (-1 : Int32))), .val (.int (0 : Int32))] [(.int (0 : Int32)), (.int (own_of p0 p1 p2 p3 (-1 : Int32)))])) _
      refine XS.icmpNo X79.here hx rfl (hb hby at_137) rfl (teq (if_pos (by decide))).2 ?_
      show Steps p.tables e below (T79.setTop (mkF m 140 #[.val (.int p0), .val (.int p1), .val (.int p2), .val (.int p3), .val (.int p4), .val (.int p5), .val (.ref b39), .val (.ref b54), .val (.ref b63), .val (.int (1 : Int32)), .val (.int (-1 : Int32)), .val (.int (own_of p0 p1 p2 p3 (-1 : Int32))), .val (.int (0 : Int32))] [])) _
      refine XS.iconst X79.here hx rfl (hb hby at_140) ?_
      show Steps p.tables e below (T79.setTop (mkF m 141 #[.val (.int p0), .val (.int p1), .val (.int p2), .val (.int p3), .val (.int p4), .val (.int p5), .val (.ref b39), .val (.ref b54), .val (.ref b63), .val (.int (1 : Int32)), .val (.int (-1 : Int32)), .val (.int (own_of p0 p1 p2 p3 (-1 : Int32))), .val (.int (0 : Int32))] [(.int (1 : Int32))])) _
      refine XS.goto X79.here hx rfl (pc0 := 141) (pc' := 145) rfl (hb hby at_141) (by decide) (by decide) ?_
      show Steps p.tables e below (T79.setTop (mkF m 145 #[.val (.int p0), .val (.int p1), .val (.int p2), .val (.int p3), .val (.int p4), .val (.int p5), .val (.ref b39), .val (.ref b54), .val (.ref b63), .val (.int (1 : Int32)), .val (.int (-1 : Int32)), .val (.int (own_of p0 p1 p2 p3 (-1 : Int32))), .val (.int (0 : Int32))] [(.int (1 : Int32))])) _
      exact k_
    obtain ⟨fs, hr, hrun, hended, hW, hsame⟩ := X79.leave (v := some (.int (1 : Int32))) (fun h => by rw [Bd.returns] at h; cases h)
    refine own_at ?_ (hG _ _ ⟨hrun, hended, _, _, rfl, ?_, ⟨_, rfl⟩, hW, hsame.mono (by decide) (by decide)⟩)
    · show Steps p.tables e below (T79.setTop (mkF m 145 #[.val (.int p0), .val (.int p1), .val (.int p2), .val (.int p3), .val (.int p4), .val (.int p5), .val (.ref b39), .val (.ref b54), .val (.ref b63), .val (.int (1 : Int32)), .val (.int (-1 : Int32)), .val (.int (own_of p0 p1 p2 p3 (-1 : Int32))), .val (.int (0 : Int32))] [(.int (1 : Int32))])) _
      exact retN X79 hx (t := .boolean) Bd.returns (by simp) (hb hby at_145) hr
    · show Q0 Z p0 p1 p2 p3 p4 p5 w0 h0 n0 _ T79.heap _
      rw [e79q]
      exact ⟨rfl, N79⟩
set_option maxRecDepth 65536 in
set_option maxHeartbeats 40000000 in
theorem comes_1 {Post : Tables → Env → Array Value → State → Outcome → State → Prop} (hpost : ∀ tb e args s v u, (limb_1_1.after args s (.returned v) u = true ∧ limb_1_2.after args s (.returned v) u = true ∧ True) → FrameEnd s (.returned v) u (Jvm.fieldLocs frame_1_writes args s ++ Jvm.arrayLocs frame_1_arrays args s ++ Jvm.staticLocs frame_1_statics s) 16 128 → Post tb e args s (.returned v) u) :
    ArmFor flags0 classFile x code maxLocals ret World_1 tables_1 room_1 Calls_1 rest_1 Pre_1 Post := by
  intro l hfl _ _ p e ha hc hk s m args below hf hA hF happ hP
  obtain ⟨hcalls, hrest, hpre⟩ := hP
  obtain ⟨-, -, -, hnamed, -, -, -, hat⟩ := (Spec.applies_iff hf).mp happ
  obtain ⟨hg, hn⟩ := and_e (Cond.before_iff.mp (show (Jvm.Cond.and given_1 narrow_1).before args s = true from hpre))
  obtain ⟨hcnt, gs0⟩ := and_e hg
  obtain ⟨ga0, gs1⟩ := and_e gs0
  obtain ⟨ga1, gs2⟩ := and_e gs1
  obtain ⟨ga2, gs3⟩ := and_e gs2
  obtain ⟨ga3, gs4⟩ := and_e gs3
  obtain ⟨ga4, gs5⟩ := and_e gs4
  obtain ⟨w0, w1, w2, w3, w4, w5, rfl⟩ : ∃ w0 w1 w2 w3 w4 w5 : Value, args = #[w0, w1, w2, w3, w4, w5] := by
    have hs : args.size = 6 := by simpa [Cond.value, given_1] using hcnt
    obtain ⟨L⟩ := args
    match L, hs with
    | [w0, w1, w2, w3, w4, w5], _ => exact ⟨w0, w1, w2, w3, w4, w5, rfl⟩
  have hw := fun d (hd : d ∈ tables_1) => atoms_spec (ws := Jvm.Cond.code x code maxLocals ret :: tables_1) hat d (List.mem_cons_of_mem _ hd)
  have hfit : Fit s := fun {y c} hc i hi => by
    obtain ⟨ha, rfl⟩ := Array.getElem?_eq_some_iff.mp hc
    have q := List.all_eq_true.mp ((Array.all_eq_true_iff_forall_mem.mp hF) _ (Array.getElem_mem ha)) i (List.mem_range.mpr hi)
    simpa [Array.getElem?_eq_getElem hi] using q
  obtain ⟨hsets, hown0⟩ := atoms_of _ (rest_1_c_eq ▸ (show rest_1_c.before _ s = true from hrest))
  have hr0 := Cond.before_iff.mp hown0
  obtain ⟨i0, ei0⟩ := is_v ga0
  obtain rfl : w0 = (.int i0) := Option.some.inj ei0
  obtain ⟨i1, ei1⟩ := is_v ga1
  obtain rfl : w1 = (.int i1) := Option.some.inj ei1
  obtain ⟨i2, ei2⟩ := is_v ga2
  obtain rfl : w2 = (.int i2) := Option.some.inj ei2
  obtain ⟨i3, ei3⟩ := is_v ga3
  obtain rfl : w3 = (.int i3) := Option.some.inj ei3
  obtain ⟨i4, ei4⟩ := is_v ga4
  obtain rfl : w4 = (.int i4) := Option.some.inj ei4
  obtain ⟨i5, ei5⟩ := is_v gs5
  obtain rfl : w5 = (.int i5) := Option.some.inj ei5
  obtain ⟨w0, ew0⟩ := exa_v (Cond.before_iff.mp (hsets _ (List.mem_of_getElem? (i := 7) rfl)))
  have S0 : Sta s s.heap "java/util/ArrayList" "DEFAULTCAPACITY_EMPTY_ELEMENTDATA" "[Ljava/lang/Object;" (.ref w0) := Sta.start ew0 (Or.inr ⟨hw _ (List.mem_of_getElem? (i := 3) rfl), hsets _ (List.mem_of_getElem? (i := 2) rfl)⟩)
  obtain ⟨n, o, h1, h2, h3, _, L, rfl, ⟨rfl, N⟩, hq⟩ := rm0 l s _ hw tables_1 i0 i1 i2 i3 i4 i5 w0 s.heap s.heap.size (Nat.le_refl _) (Old.start s) S0 p e ha hc hk s m _ below hf ((Spec.applies_iff_loose hf).mp happ).1 ⟨rfl, State.Warmed39.refl s, rfl⟩ trivial
  refine ⟨n, _, h1, h2, h3, hpost _ _ _ _ _ _ ⟨Cond.after_iff.mpr rfl, Cond.after_iff.mpr (eq_i res_at (Term.int_eval (1)) rfl), trivial⟩ ⟨hq.1, hq.2.1, (hq.2.2.sift fun y hy => Or.inr (N y hy)).mono (by decide) (by decide)⟩⟩
theorem main_1_1 : Claimed_1_1 := comes_1 fun _ _ _ _ _ _ h hF => ⟨h.1, hF⟩
theorem main_1_2 : Claimed_1_2 := comes_1 fun _ _ _ _ _ _ h hF => ⟨h.2.1, hF⟩
end Jvm.Pilot.@@N@@
namespace Jvm.Pilot.@@N@@
open Jvm Jvm.ClassFile Sem Op Lib Jvm.Free Jvm.Stand Jvm.Pilot.@@N@@.Jvm.D
/-! MADE BY PROGRAM (witnessworld.py) out of the Statement's table words and the real class files: 19 classes; the members and pool entries that the words name. The judged class is class 1, her method 1. -/
namespace start1
open Jvm.ClassFile
def u (s : String) : CpInfo := .utf8 (stringToUtf16 s)
/-- a pool by its gaps: so many unusable entries, then the entry; so many at the end -/
def gap : Nat → List CpInfo → List CpInfo
  | 0, r => r
  | n + 1, r => .unusable :: gap n r
def poolList (es : List (Nat × CpInfo)) (last : Nat) : List CpInfo := es.foldr (fun e r => gap e.1 (e.2 :: r)) (gap last [])
def pool (es : List (Nat × CpInfo)) (last : Nat) : Array CpInfo := ⟨poolList es last⟩
def fileOf (pool : Array CpInfo) (this : Nat) (attrs : Array Attribute := #[]) (ms : Array MethodInfo := #[]) (fl : Nat := 33) (sup : Nat := 0) (ifs : Array Nat := #[]) (fds : Array FieldInfo := #[]) : ClassFile where
  minorVersion := 0
  majorVersion := 65
  constantPool := pool
  accessFlags := fl
  thisClass := this
  superClass := sup
  interfaces := ifs
  fields := fds
  methods := ms
  attributes := attrs
def plain (name : String) (sup : Option ClassId) : Class where
  name := name
  kind := .ordinary
  loader := none
  accessFlags := 33
  super := sup
  interfaces := #[]
  cf := none
  fields := #[]
  methods := #[]
  instanceTypes := #[]
  staticTypes := #[]
  resolved := #[]
  callSites := []
  init := .initialized
  statics := none
  mirror := none

def pool0 : Array CpInfo := pool [(5, u "<init>"), (0, u "()V"), (1, .class_ 10), (1, u "java/lang/Object")] 113

def k0c0 : Code := { maxStack := 0, maxLocals := 1, code := object_method_1_code, exceptionTable := #[], attributes := #[] }
def k0m0 : Method := { name := "<init>", desc := "()V", sig := { parameters := [], returnType := none }, accessFlags := 1, code := some k0c0 }
/-- java/lang/Object -/
def k0 : Class := { plain "java/lang/Object" none with
  accessFlags := 33
  interfaces := #[]
  cf := some (fileOf pool0 8 #[] #[{ accessFlags := 1, nameIndex := 5, descriptorIndex := 6, attributes := #[] }] 33 0 #[] #[])
  fields := #[]
  methods := #[k0m0]
  instanceTypes := #[]
  staticTypes := #[]
  resolved := Array.replicate 124 none
  statics := none }

def pool1 : Array CpInfo := pool [(2, .class_ 4), (0, .nameAndType 5 6), (0, u "java/lang/Object"), (0, u "<init>"), (0, u "()V"), (0, .class_ 8), (0, u "java/util/ArrayList"), (0, .methodref 7 3), (0, .class_ 11), (0, u "com/example/costline/costline/LedgerOutline$Batches"), (0, .methodref 10 13), (0, .nameAndType 5 14), (0, u "(Ljava/util/List;[I)V"), (0, .integer 2147483647), (0, .methodref 10 17), (0, .nameAndType 18 19), (0, u "of"), (0, u "(I)I"), (0, .class_ 21), (0, u "com/example/costline/costline/BatchesOfPinLaw"), (2, u "law"), (0, u "(IIIIII)Z")] 11

def k1m0 : Method := { name := "<init>", desc := "()V", sig := { parameters := [], returnType := none }, accessFlags := 1, code := none }
def k1c1 : Code := { maxStack := 4, maxLocals := 13, code := code, exceptionTable := #[], attributes := #[] }
def k1m1 : Method := { name := "law", desc := "(IIIIII)Z", sig := { parameters := [.int, .int, .int, .int, .int, .int], returnType := some .boolean }, accessFlags := 9, code := some k1c1 }
/-- com/example/costline/costline/BatchesOfPinLaw -/
def k1 : Class := { plain "com/example/costline/costline/BatchesOfPinLaw" (some 0) with
  accessFlags := 49
  interfaces := #[]
  cf := some (fileOf pool1 20 #[] #[{ accessFlags := 1, nameIndex := 5, descriptorIndex := 6, attributes := #[] }, { accessFlags := 9, nameIndex := 24, descriptorIndex := 25, attributes := #[] }] 49 2 #[] #[])
  fields := #[]
  methods := #[k1m0, k1m1]
  instanceTypes := #[]
  staticTypes := #[]
  resolved := Array.replicate 37 none
  statics := none }

def pool2 : Array CpInfo := pool [(8, .class_ 10), (1, u "java/lang/Iterable"), (24, .class_ 36), (0, u "java/lang/Object")] 25

/-- java/lang/Iterable -/
def k2 : Class := { plain "java/lang/Iterable" (some 0) with
  accessFlags := 1537
  interfaces := #[]
  cf := some (fileOf pool2 8 #[] #[] 1537 35 #[] #[])
  fields := #[]
  methods := #[]
  instanceTypes := #[]
  staticTypes := #[]
  resolved := Array.replicate 62 none
  statics := none }

def pool3 : Array CpInfo := pool [(10, .class_ 12), (1, u "java/util/Collection"), (47, .class_ 61), (0, u "java/lang/Object"), (0, .class_ 63), (0, u "java/lang/Iterable")] 51

/-- java/util/Collection -/
def k3 : Class := { plain "java/util/Collection" (some 0) with
  accessFlags := 1537
  interfaces := #[2]
  cf := some (fileOf pool3 10 #[] #[] 1537 60 #[62] #[])
  fields := #[]
  methods := #[]
  instanceTypes := #[]
  staticTypes := #[]
  resolved := Array.replicate 115 none
  statics := none }

def pool4 : Array CpInfo := pool [(1, .methodref 2 3), (0, .class_ 4), (0, .nameAndType 5 6), (0, u "java/lang/Object"), (0, u "<init>"), (0, u "()V"), (1, .class_ 10), (1, u "java/util/AbstractCollection"), (66, .class_ 78), (0, u "java/util/Collection")] 81

def k4c0 : Code := { maxStack := 1, maxLocals := 1, code := jdk_22_method_1_code, exceptionTable := #[], attributes := #[] }
def k4m0 : Method := { name := "<init>", desc := "()V", sig := { parameters := [], returnType := none }, accessFlags := 4, code := some k4c0 }
/-- java/util/AbstractCollection -/
def k4 : Class := { plain "java/util/AbstractCollection" (some 0) with
  accessFlags := 1057
  interfaces := #[3]
  cf := some (fileOf pool4 8 #[] #[{ accessFlags := 4, nameIndex := 5, descriptorIndex := 6, attributes := #[] }] 1057 2 #[77] #[])
  fields := #[]
  methods := #[k4m0]
  instanceTypes := #[]
  staticTypes := #[]
  resolved := Array.replicate 160 none
  statics := none }

def pool5 : Array CpInfo := pool [(8, .class_ 10), (1, u "java/util/SequencedCollection"), (15, .class_ 27), (0, u "java/lang/Object"), (0, .class_ 29), (0, u "java/util/Collection")] 27

/-- java/util/SequencedCollection -/
def k5 : Class := { plain "java/util/SequencedCollection" (some 0) with
  accessFlags := 1537
  interfaces := #[3]
  cf := some (fileOf pool5 8 #[] #[] 1537 26 #[28] #[])
  fields := #[]
  methods := #[]
  instanceTypes := #[]
  staticTypes := #[]
  resolved := Array.replicate 57 none
  statics := none }

def pool6 : Array CpInfo := pool [(8, .class_ 10), (1, u "java/util/List"), (92, .class_ 104), (0, u "java/lang/Object"), (15, .class_ 121), (0, u "java/util/SequencedCollection")] 129

/-- java/util/List -/
def k6 : Class := { plain "java/util/List" (some 0) with
  accessFlags := 1537
  interfaces := #[5]
  cf := some (fileOf pool6 8 #[] #[] 1537 103 #[120] #[])
  fields := #[]
  methods := #[]
  instanceTypes := #[]
  staticTypes := #[]
  resolved := Array.replicate 251 none
  statics := none }

def pool7 : Array CpInfo := pool [(1, .methodref 2 3), (0, .class_ 4), (0, .nameAndType 5 6), (0, u "java/util/AbstractCollection"), (0, u "<init>"), (0, u "()V"), (0, .fieldref 8 9), (0, .class_ 10), (0, .nameAndType 11 12), (0, u "java/util/AbstractList"), (0, u "modCount"), (0, u "I"), (64, .class_ 78), (0, u "java/util/AbstractList$Itr"), (3, .class_ 83), (0, u "java/util/AbstractList$ListItr"), (9, .class_ 94), (0, u "java/util/AbstractList$RandomAccessSubList"), (3, .class_ 99), (0, u "java/util/AbstractList$SubList"), (33, .class_ 134), (0, u "java/util/List"), (73, .class_ 209), (0, u "java/util/AbstractList$SubList$1"), (0, .class_ 211), (0, u "java/util/AbstractList$RandomAccessSpliterator")] 6

def k7c0 : Code := { maxStack := 2, maxLocals := 1, code := jdk_39_method_1_code, exceptionTable := #[], attributes := #[] }
def k7m0 : Method := { name := "<init>", desc := "()V", sig := { parameters := [], returnType := none }, accessFlags := 4, code := some k7c0 }
/-- java/util/AbstractList -/
def k7 : Class := { plain "java/util/AbstractList" (some 4) with
  accessFlags := 1057
  interfaces := #[6]
  cf := some (fileOf pool7 8 #[.nestMembers #[93, 98, 208, 210, 82, 77]] #[{ accessFlags := 4, nameIndex := 5, descriptorIndex := 6, attributes := #[] }] 1057 2 #[133] #[{ accessFlags := 132, nameIndex := 11, descriptorIndex := 12, attributes := #[] }])
  fields := #[{ name := "modCount", type := .int, accessFlags := 132, slot := 0, constantValue := 0 }]
  methods := #[k7m0]
  instanceTypes := #[.int]
  staticTypes := #[]
  resolved := Array.replicate 218 none
  statics := none }

def pool8 : Array CpInfo := pool [(1, .class_ 2), (0, u "java/util/RandomAccess"), (0, .class_ 4), (0, u "java/lang/Object")] 2

/-- java/util/RandomAccess -/
def k8 : Class := { plain "java/util/RandomAccess" (some 0) with
  accessFlags := 1537
  interfaces := #[]
  cf := some (fileOf pool8 1 #[] #[] 1537 3 #[] #[])
  fields := #[]
  methods := #[]
  instanceTypes := #[]
  staticTypes := #[]
  resolved := Array.replicate 7 none
  statics := none }

def pool9 : Array CpInfo := pool [(1, .class_ 2), (0, u "java/lang/Cloneable"), (0, .class_ 4), (0, u "java/lang/Object")] 2

/-- java/lang/Cloneable -/
def k9 : Class := { plain "java/lang/Cloneable" (some 0) with
  accessFlags := 1537
  interfaces := #[]
  cf := some (fileOf pool9 1 #[] #[] 1537 3 #[] #[])
  fields := #[]
  methods := #[]
  instanceTypes := #[]
  staticTypes := #[]
  resolved := Array.replicate 7 none
  statics := none }

def pool10 : Array CpInfo := pool [(1, .class_ 2), (0, u "java/io/Serializable"), (0, .class_ 4), (0, u "java/lang/Object")] 2

/-- java/io/Serializable -/
def k10 : Class := { plain "java/io/Serializable" (some 0) with
  accessFlags := 1537
  interfaces := #[]
  cf := some (fileOf pool10 1 #[] #[] 1537 3 #[] #[])
  fields := #[]
  methods := #[]
  instanceTypes := #[]
  staticTypes := #[]
  resolved := Array.replicate 7 none
  statics := none }

def pool11 : Array CpInfo := pool [(1, .methodref 2 3), (0, .class_ 4), (0, .nameAndType 5 6), (0, u "java/util/AbstractList"), (0, u "<init>"), (0, u "()V"), (2, .fieldref 10 11), (0, .class_ 12), (0, .nameAndType 13 14), (0, u "java/util/ArrayList"), (0, u "elementData"), (0, u "[Ljava/lang/Object;"), (2, u "EMPTY_ELEMENTDATA"), (21, .fieldref 10 40), (0, .nameAndType 41 14), (0, u "DEFAULTCAPACITY_EMPTY_ELEMENTDATA"), (8, u "size"), (0, u "I"), (96, .class_ 149), (0, u "java/util/List"), (112, .class_ 263), (0, u "java/util/ArrayList$ListItr"), (3, .class_ 268), (0, u "java/util/ArrayList$Itr"), (7, .class_ 277), (0, u "java/util/ArrayList$SubList"), (12, .class_ 291), (0, u "java/util/ArrayList$ArrayListSpliterator"), (37, .class_ 330), (0, u "java/util/RandomAccess"), (0, .class_ 332), (0, u "java/lang/Cloneable"), (0, .class_ 334), (0, u "java/io/Serializable"), (0, u "serialVersionUID"), (0, u "J"), (3, u "DEFAULT_CAPACITY"), (159, .class_ 501), (0, u "java/util/ArrayList$SubList$2"), (0, .class_ 503), (0, u "java/util/ArrayList$SubList$1")] 5

def k11c0 : Code := { maxStack := 2, maxLocals := 1, code := jdk_38_method_2_code, exceptionTable := #[], attributes := #[] }
def k11m0 : Method := { name := "<init>", desc := "()V", sig := { parameters := [], returnType := none }, accessFlags := 1, code := some k11c0 }
/-- java/util/ArrayList -/
def k11 : Class := { plain "java/util/ArrayList" (some 7) with
  accessFlags := 33
  interfaces := #[6, 8, 9, 10]
  cf := some (fileOf pool11 10 #[.nestMembers #[290, 276, 500, 502, 262, 267]] #[{ accessFlags := 1, nameIndex := 5, descriptorIndex := 6, attributes := #[] }] 33 2 #[148, 329, 331, 333] #[{ accessFlags := 26, nameIndex := 335, descriptorIndex := 336, attributes := #[] }, { accessFlags := 26, nameIndex := 340, descriptorIndex := 51, attributes := #[] }, { accessFlags := 26, nameIndex := 17, descriptorIndex := 14, attributes := #[] }, { accessFlags := 26, nameIndex := 41, descriptorIndex := 14, attributes := #[] }, { accessFlags := 128, nameIndex := 13, descriptorIndex := 14, attributes := #[] }, { accessFlags := 2, nameIndex := 50, descriptorIndex := 51, attributes := #[] }])
  fields := #[{ name := "serialVersionUID", type := .long, accessFlags := 26, slot := 0, constantValue := 0 }, { name := "DEFAULT_CAPACITY", type := .int, accessFlags := 26, slot := 1, constantValue := 0 }, { name := "EMPTY_ELEMENTDATA", type := (.array (.object "java/lang/Object")), accessFlags := 26, slot := 2, constantValue := 0 }, { name := "DEFAULTCAPACITY_EMPTY_ELEMENTDATA", type := (.array (.object "java/lang/Object")), accessFlags := 26, slot := 3, constantValue := 0 }, { name := "elementData", type := (.array (.object "java/lang/Object")), accessFlags := 128, slot := 1, constantValue := 0 }, { name := "size", type := .int, accessFlags := 2, slot := 2, constantValue := 0 }]
  methods := #[k11m0]
  instanceTypes := #[.int, (.array (.object "java/lang/Object")), .int]
  staticTypes := #[.long, .int, (.array (.object "java/lang/Object")), (.array (.object "java/lang/Object"))]
  resolved := Array.replicate 509 none
  statics := some 0 }

def pool12 : Array CpInfo := pool [(1, .methodref 2 3), (0, .class_ 4), (0, .nameAndType 5 6), (0, u "java/lang/Object"), (0, u "<init>"), (0, u "()V"), (0, .class_ 8), (0, u "java/lang/Record")] 13

def k12c0 : Code := { maxStack := 1, maxLocals := 1, code := jdk_30_method_1_code, exceptionTable := #[], attributes := #[] }
def k12m0 : Method := { name := "<init>", desc := "()V", sig := { parameters := [], returnType := none }, accessFlags := 4, code := some k12c0 }
/-- java/lang/Record -/
def k12 : Class := { plain "java/lang/Record" (some 0) with
  accessFlags := 1057
  interfaces := #[]
  cf := some (fileOf pool12 7 #[] #[{ accessFlags := 4, nameIndex := 5, descriptorIndex := 6, attributes := #[] }] 1057 2 #[] #[])
  fields := #[]
  methods := #[k12m0]
  instanceTypes := #[]
  staticTypes := #[]
  resolved := Array.replicate 22 none
  statics := none }

def pool13 : Array CpInfo := pool [(1, .methodref 2 3), (0, .class_ 4), (0, .nameAndType 5 6), (0, u "java/lang/Record"), (0, u "<init>"), (0, u "()V"), (0, .fieldref 8 9), (0, .class_ 10), (0, .nameAndType 11 12), (0, u "com/example/costline/costline/LedgerOutline$Batches"), (0, u "items"), (0, u "Ljava/util/List;"), (0, .fieldref 8 14), (0, .nameAndType 15 16), (0, u "ofKey"), (0, u "[I"), (14, u "(Ljava/util/List;[I)V"), (4, u "of"), (0, u "(I)I"), (10, .class_ 49), (0, u "com/example/costline/costline/LedgerOutline")] 20

def k13c0 : Code := { maxStack := 2, maxLocals := 3, code := prog_109_method_1_code, exceptionTable := #[], attributes := #[] }
def k13m0 : Method := { name := "<init>", desc := "(Ljava/util/List;[I)V", sig := { parameters := [(.object "java/util/List"), (.array .int)], returnType := none }, accessFlags := 0, code := some k13c0 }
def k13c1 : Code := { maxStack := 2, maxLocals := 2, code := prog_109_method_2_code, exceptionTable := #[], attributes := #[] }
def k13m1 : Method := { name := "of", desc := "(I)I", sig := { parameters := [.int], returnType := some .int }, accessFlags := 0, code := some k13c1 }
/-- com/example/costline/costline/LedgerOutline$Batches -/
def k13 : Class := { plain "com/example/costline/costline/LedgerOutline$Batches" (some 12) with
  accessFlags := 48
  interfaces := #[]
  cf := some (fileOf pool13 8 #[.nestHost 48] #[{ accessFlags := 0, nameIndex := 5, descriptorIndex := 31, attributes := #[] }, { accessFlags := 0, nameIndex := 36, descriptorIndex := 37, attributes := #[] }] 48 2 #[] #[{ accessFlags := 18, nameIndex := 11, descriptorIndex := 12, attributes := #[] }, { accessFlags := 18, nameIndex := 15, descriptorIndex := 16, attributes := #[] }])
  fields := #[{ name := "items", type := (.object "java/util/List"), accessFlags := 18, slot := 0, constantValue := 0 }, { name := "ofKey", type := (.array .int), accessFlags := 18, slot := 1, constantValue := 0 }]
  methods := #[k13m0, k13m1]
  instanceTypes := #[(.object "java/util/List"), (.array .int)]
  staticTypes := #[]
  resolved := Array.replicate 70 none
  statics := none }

/-- the primitive byte -/
def k14 : Class := { plain "byte" none with kind := .primitive 'B', accessFlags := 0x411 }
/-- [B -/
def k15 : Class := { plain "[B" (some 0) with kind := .array 14 .byte, interfaces := #[9, 10], accessFlags := 1041 }

/-- the primitive int -/
def k16 : Class := { plain "int" none with kind := .primitive 'I', accessFlags := 0x411 }
/-- [I -/
def k17 : Class := { plain "[I" (some 0) with kind := .array 16 .int, interfaces := #[9, 10], accessFlags := 1041 }

/-- [Ljava/lang/Object; -/
def k18 : Class := { plain "[Ljava/lang/Object;" (some 0) with kind := .array 0 (.object "java/lang/Object"), interfaces := #[9, 10], accessFlags := 1041 }

def heap : Heap := #[{ cls := 11, slots := #[.long 0, .int 0, .ref 1, .ref 2], vm := .statics 11 },
  { cls := 18, slots := #[], vm := .none },
  { cls := 18, slots := #[], vm := .none }]
def classes : Array Class := #[k0, k1, k2, k3, k4, k5, k6, k7, k8, k9, k10, k11, k12, k13, k14, k15, k16, k17, k18]
def interned : List (Array UInt16 × Addr) := []
def slotsUsed : Nat := 4
def theMethod : MethodId := ⟨1, 1⟩
def args0 : Array Value := #[.int 5, .int 6, .int 7, .int 8, .int 2, .int 0]
def aboutOver (below : List Frame) : State where
  vm := { classes := classes, interned := interned.toArray }
  heap := heap
  slotsUsed := slotsUsed
  threads := #[{ frames := .invoking theMethod args0 :: below }]
def below0 : List Frame := [.native { method := ⟨0, 0⟩, args := #[] }]
def about1 : State := aboutOver below0
def p0 : Program := .bare "" "" ""
def e0 : Env := launch0.env 0 0 0
theorem w_frames : about1.frames = Frame.invoking theMethod args0 :: below0 := rfl
set_option maxRecDepth 65536 in
theorem w_args : argsFit about1.vm theMethod args0 = true := by decide +kernel
set_option maxRecDepth 65536 in
theorem w_heap : heapFits about1 = true := by decide +kernel
set_option maxRecDepth 65536 in
theorem w_runnable : about1.curStatus? = some .runnable := by decide +kernel
set_option maxRecDepth 65536 in
theorem w_alone : about1.alone = true := by decide +kernel
set_option maxRecDepth 65536 in
theorem w_named : about1.methodNamed? x = some theMethod := by decide +kernel
set_option maxRecDepth 65536 in
theorem w_hears : about1.hears theMethod below0 = true := by decide +kernel
set_option maxRecDepth 65536 in
theorem w_ripe : about1.ripe theMethod args0 below0 = true := by decide +kernel
theorem w_running : about1.status = .running := rfl
set_option maxRecDepth 65536 in
theorem w_room : about1.hasRoom e0.platform room_1 = true :=
  launch0.hasRoom_least _ room_1 (by decide +kernel) (by decide +kernel) (by decide +kernel) (by decide +kernel) (by decide +kernel) (by decide +kernel)
theorem allAtoms_all (ts : List Jvm.Cond) (a : Array Jvm.Value) (st : Jvm.State) : (allAtoms ts).before a st = ts.all (fun c => c.before a st) := by
  induction ts with
  | nil => rfl
  | cons c t ih =>
    show (Jvm.Cond.and c (allAtoms t)).before a st = _
    rw [Jvm.Cond.before_and, ih, List.all_cons]
def words1 : List Jvm.Cond := Jvm.Cond.code x code maxLocals ret :: tables_1
/-- a 'code' word, met by the world's own term for the bytes: nothing is compared byte by byte -/
theorem code_word {y : MethodName} {bytes : ByteArray} {mx : Nat} {rt : Option FieldType} {a : Array Value} {s : State} {m : MethodId} {meth : Method} {c : Code} (h1 : s.methodNamed? y = some m) (h2 : s.vm.method? m = some meth) (h3 : meth.code = some c) (h4 : c.code = bytes)
    (h5 : (c.maxLocals == mx && c.exceptionTable.isEmpty && decide (c.maxStack ≤ mostOperands) && decide (meth.sig.returnType = rt) && !meth.locks && decide (parseMethodDescriptor y.desc = some meth.sig)) = true) : (Jvm.Cond.code y bytes mx rt).before a s = true := by
  simp only [Bool.and_eq_true, beq_iff_eq, Bool.not_eq_true', decide_eq_true_eq] at h5
  obtain ⟨⟨⟨⟨⟨g1, g2⟩, g3⟩, g4⟩, g5⟩, g6⟩ := h5
  simp [Cond.before, Cond.holds, Cond.value, h1, h2, h3, h4, g1, g2, g3, g4, g5, g6]
def isCode : Jvm.Cond → Bool
  | .code _ _ _ _ => true
  | _ => false
theorem all_split {L : List Jvm.Cond} {P : Jvm.Cond → Bool} (h1 : L.all (fun c => isCode c || P c) = true) (h2 : ∀ c ∈ L.filter isCode, P c = true) : L.all P = true := by
  refine List.all_eq_true.mpr fun c hc => ?_
  have h := List.all_eq_true.mp h1 c hc
  rcases Bool.eq_false_or_eq_true (isCode c) with hi | hi
  · exact h2 c (List.mem_filter.mpr ⟨hc, hi⟩)
  · simpa [hi] using h
set_option maxRecDepth 65536 in
theorem w_c0 : (Jvm.Cond.code x code maxLocals ret).before args0 about1 = true := code_word (m := ⟨1, 1⟩) (meth := k1m1) (c := k1c1) (by decide +kernel) rfl rfl rfl (by decide +kernel)
set_option maxRecDepth 65536 in
theorem w_c1 : (Jvm.Cond.code ({ cls := "java/util/ArrayList", name := "<init>", desc := "()V" } : Jvm.MethodName) jdk_38_method_2_code (1 : Nat) (Option.none : Option Jvm.ClassFile.FieldType)).before args0 about1 = true := code_word (m := ⟨11, 0⟩) (meth := k11m0) (c := k11c0) (by decide +kernel) rfl rfl rfl (by decide +kernel)
set_option maxRecDepth 65536 in
theorem w_c2 : (Jvm.Cond.code ({ cls := "java/util/AbstractList", name := "<init>", desc := "()V" } : Jvm.MethodName) jdk_39_method_1_code (1 : Nat) (Option.none : Option Jvm.ClassFile.FieldType)).before args0 about1 = true := code_word (m := ⟨7, 0⟩) (meth := k7m0) (c := k7c0) (by decide +kernel) rfl rfl rfl (by decide +kernel)
set_option maxRecDepth 65536 in
theorem w_c3 : (Jvm.Cond.code ({ cls := "java/util/AbstractCollection", name := "<init>", desc := "()V" } : Jvm.MethodName) jdk_22_method_1_code (1 : Nat) (Option.none : Option Jvm.ClassFile.FieldType)).before args0 about1 = true := code_word (m := ⟨4, 0⟩) (meth := k4m0) (c := k4c0) (by decide +kernel) rfl rfl rfl (by decide +kernel)
set_option maxRecDepth 65536 in
theorem w_c4 : (Jvm.Cond.code ({ cls := "java/lang/Object", name := "<init>", desc := "()V" } : Jvm.MethodName) object_method_1_code (1 : Nat) (Option.none : Option Jvm.ClassFile.FieldType)).before args0 about1 = true := code_word (m := ⟨0, 0⟩) (meth := k0m0) (c := k0c0) (by decide +kernel) rfl rfl rfl (by decide +kernel)
set_option maxRecDepth 65536 in
theorem w_c5 : (Jvm.Cond.code ({ cls := "com/example/costline/costline/LedgerOutline$Batches", name := "<init>", desc := "(Ljava/util/List;[I)V" } : Jvm.MethodName) prog_109_method_1_code (3 : Nat) (Option.none : Option Jvm.ClassFile.FieldType)).before args0 about1 = true := code_word (m := ⟨13, 0⟩) (meth := k13m0) (c := k13c0) (by decide +kernel) rfl rfl rfl (by decide +kernel)
set_option maxRecDepth 65536 in
theorem w_c6 : (Jvm.Cond.code ({ cls := "java/lang/Record", name := "<init>", desc := "()V" } : Jvm.MethodName) jdk_30_method_1_code (1 : Nat) (Option.none : Option Jvm.ClassFile.FieldType)).before args0 about1 = true := code_word (m := ⟨12, 0⟩) (meth := k12m0) (c := k12c0) (by decide +kernel) rfl rfl rfl (by decide +kernel)
set_option maxRecDepth 65536 in
theorem w_c7 : (Jvm.Cond.code ({ cls := "com/example/costline/costline/LedgerOutline$Batches", name := "of", desc := "(I)I" } : Jvm.MethodName) prog_109_method_2_code (2 : Nat) (Option.some Jvm.ClassFile.FieldType.int)).before args0 about1 = true := code_word (m := ⟨13, 1⟩) (meth := k13m1) (c := k13c1) (by decide +kernel) rfl rfl rfl (by decide +kernel)
def codes1 : List Jvm.Cond := [Jvm.Cond.code x code maxLocals ret, Jvm.Cond.code ({ cls := "java/util/ArrayList", name := "<init>", desc := "()V" } : Jvm.MethodName) jdk_38_method_2_code (1 : Nat) (Option.none : Option Jvm.ClassFile.FieldType), Jvm.Cond.code ({ cls := "java/util/AbstractList", name := "<init>", desc := "()V" } : Jvm.MethodName) jdk_39_method_1_code (1 : Nat) (Option.none : Option Jvm.ClassFile.FieldType), Jvm.Cond.code ({ cls := "java/util/AbstractCollection", name := "<init>", desc := "()V" } : Jvm.MethodName) jdk_22_method_1_code (1 : Nat) (Option.none : Option Jvm.ClassFile.FieldType), Jvm.Cond.code ({ cls := "java/lang/Object", name := "<init>", desc := "()V" } : Jvm.MethodName) object_method_1_code (1 : Nat) (Option.none : Option Jvm.ClassFile.FieldType), Jvm.Cond.code ({ cls := "com/example/costline/costline/LedgerOutline$Batches", name := "<init>", desc := "(Ljava/util/List;[I)V" } : Jvm.MethodName) prog_109_method_1_code (3 : Nat) (Option.none : Option Jvm.ClassFile.FieldType), Jvm.Cond.code ({ cls := "java/lang/Record", name := "<init>", desc := "()V" } : Jvm.MethodName) jdk_30_method_1_code (1 : Nat) (Option.none : Option Jvm.ClassFile.FieldType), Jvm.Cond.code ({ cls := "com/example/costline/costline/LedgerOutline$Batches", name := "of", desc := "(I)I" } : Jvm.MethodName) prog_109_method_2_code (2 : Nat) (Option.some Jvm.ClassFile.FieldType.int)]
set_option maxRecDepth 65536 in
theorem codes_eq : words1.filter isCode = codes1 := rfl
theorem w_codes : ∀ c ∈ words1.filter isCode, c.before args0 about1 = true := by
  rw [codes_eq]
  intro c hc
  simp only [codes1, List.mem_cons, List.not_mem_nil, or_false] at hc
  rcases hc with rfl | rfl | rfl | rfl | rfl | rfl | rfl | rfl
  · exact w_c0
  · exact w_c1
  · exact w_c2
  · exact w_c3
  · exact w_c4
  · exact w_c5
  · exact w_c6
  · exact w_c7
set_option maxRecDepth 65536 in
theorem w_t1 : (words1.take 24).all (fun c => isCode c || c.before args0 about1) = true := by decide +kernel
set_option maxRecDepth 65536 in
theorem w_t2 : ((words1.drop 24).take 24).all (fun c => isCode c || c.before args0 about1) = true := by decide +kernel
set_option maxRecDepth 65536 in
theorem w_t3 : ((words1.drop 24).drop 24).all (fun c => isCode c || c.before args0 about1) = true := by decide +kernel
theorem w_tables : (allAtoms (Jvm.Cond.code x code maxLocals ret :: tables_1)).before args0 about1 = true := by
  rw [allAtoms_all]
  show words1.all (fun c => c.before args0 about1) = true
  refine all_split ?_ w_codes
  rw [← List.take_append_drop 24 words1, List.all_append, w_t1, ← List.take_append_drop 24 (words1.drop 24), List.all_append, w_t2, w_t3]
  rfl
set_option maxRecDepth 65536 in
theorem w_rest : rest_1_c.before args0 about1 = true := by decide +kernel
set_option maxRecDepth 65536 in
theorem w_case : (Jvm.Cond.and given_1 narrow_1).before args0 about1 = true := by decide +kernel
theorem w_applies : (headSpec (Jvm.Cond.code x code maxLocals ret :: tables_1) room_1).applies x e0.platform about1 = true :=
  (Spec.applies_iff w_frames).mpr ⟨w_running, w_runnable, w_alone, w_named, w_hears, w_ripe, w_room, w_tables⟩
theorem atStart : AtStart classFile x code maxLocals ret World_1 tables_1 room_1 Calls_1 rest_1 Pre_1 launch0 p0 e0 about1 theMethod args0 below0 :=
  ⟨lists_1, trivial, launch0.admits_env _ _ _, launch0.least_env, fairChoices_fair.cas, fairChoices_fair.clock, w_frames, w_args, w_heap, w_applies, trivial, w_rest, w_case⟩
end start1
theorem witness_1 : WitnessClaimed_1 := ⟨start1.p0, start1.e0, start1.about1, start1.theMethod, start1.args0, start1.below0, start1.atStart⟩
end Jvm.Pilot.@@N@@
