import JvmDerived
import JvmDerived.Pilot.@@N@@Statement
import JvmDerived.Pilot.@@N@@Code
set_option linter.unusedVariables false
set_option linter.unusedSimpArgs false
namespace Jvm.RoadKit
open Sem ClassFile Op Lib Jvm.Stand Jvm.Free Jvm.LawKit
section New
variable {p : Program} {l : Launch} {e : Env} {R : Room} {s : State} {m : MethodId} {args : Array Value} {below : List Frame} {meth : Method} {c : Code} {T : State} {locs : List Loc} {cells slots : Nat}
theorem retI (X : Stand p l e R s m args below meth c T locs cells slots) (hx : p.tables.exec = Jvm.exec) {pc : Nat} {Ls : Array Slot} {z : Int32} {rest : List Value} (hret : meth.sig.returnType = some .int) (hd : decode c.code pc = .ok (.ireturn, 1)) {fs : List Frame}
    (hl : ∀ (f : JFrame) (acts : List Action), f.method = m → f.locked = none → f.entered = [] → (doReturn e (T.setTop f) acts (some (.int z))).1 = T.setFrames fs) : Steps p.tables e below (T.setTop (mkF m pc Ls (.int z :: rest))) (T.setFrames fs) := by
  have hm' : T.vm.method? m = some meth := X.method'
  have hn : narrow .int (.int z) = .int z := rfl
  show Steps p.tables e below (T.setTop { method := m, pc := pc, locals := Ls, stack := _ :: rest, locked := none }) _
  jvm_step X.here [X.here.top, hx, hd, hm', hret, hn]
  first | (intro acts; rw [hl _ acts rfl rfl rfl]) | rw [hl _ _ rfl rfl rfl]
  exact Steps.refl _
end New
/-- from the state A the run comes to an end of which G speaks -/
def own_R (tb : Tables) (e : Env) (below : List Frame) (G : State → Outcome → Prop) (A : State) : Prop := ∃ s₂ o, Steps tb e below A s₂ ∧ G s₂ o
theorem own_go {tb : Tables} {e : Env} {below : List Frame} {G : State → Outcome → Prop} {A B : State} (k : ∀ t, Steps tb e below B t → Steps tb e below A t) (h : own_R tb e below G B) : own_R tb e below G A := by
  obtain ⟨s₂, o, hs, hp⟩ := h
  exact ⟨s₂, o, k _ hs, hp⟩
theorem own_open {tb : Tables} {e : Env} {below : List Frame} {A : State} {P : State → Outcome → Prop} (h : ∀ G : State → Outcome → Prop, (∀ s₂ o, P s₂ o → G s₂ o) → own_R tb e below G A) : ∃ s₂ o, Steps tb e below A s₂ ∧ P s₂ o := h P fun _ _ q => q
theorem own_at {tb : Tables} {e : Env} {below : List Frame} {G : State → Outcome → Prop} {A : State} {s₂ : State} {o : Outcome} (h : Steps tb e below A s₂) (g : G s₂ o) : own_R tb e below G A := ⟨s₂, o, h, g⟩
end Jvm.RoadKit
namespace Jvm.Pilot.@@N@@
open Jvm Jvm.ClassFile Sem Op Lib Jvm.Free Jvm.Stand Jvm.LawKit Jvm.RoadKit Bundle Jvm.Pilot.@@N@@.Jvm.D
theorem pd__28_I_29_Z : parseMethodDescriptor "(I)Z" = some ⟨[.int], some .boolean⟩ := by decide +kernel
/-- the law's own letters, digits and signs -/
def own_isl (c : Int32) : Int32 := if (¬ c < 97 ∧ ¬ 122 < c) ∨ (¬ c < 65 ∧ ¬ 90 < c) ∨ (¬ c < 48 ∧ ¬ 57 < c) ∨ c = 47 ∨ c = 45 ∨ c = 63 ∨ c = 58 ∨ c = 40 ∨ c = 41 ∨ c = 46 ∨ c = 44 ∨ c = 39 ∨ c = 43 ∨ c = 32 then 1 else 0
def own_tabv (j : Int32) : Int32 := if j < 32 then 0 else if j = 32 then 1 else if j < 39 then 0 else if j = 39 then 1 else if j = 40 then 1 else if j = 41 then 1 else if j = 42 then 0 else if j < 59 then 1 else if j < 63 then 0 else if j = 63 then 1 else if j = 64 then 0 else if j < 91 then 1 else if j < 97 then 0 else if j < 123 then 1 else 0
theorem own_01 (c : Int32) : own_isl c = 0 ∨ own_isl c = 1 := by
  unfold own_isl
  split
  · exact Or.inr rfl
  · exact Or.inl rfl
theorem own_nat {c : Int32} {n : Nat} (h0 : 0 ≤ c.toInt) (h1 : c.toInt < n) : ∃ k : Fin n, c = Int32.ofNat k.val := by
  refine ⟨⟨c.toInt.toNat, by omega⟩, ?_⟩
  have h : ((c.toInt.toNat : Nat) : Int) = c.toInt := Int.toNat_of_nonneg h0
  show c = Int32.ofNat c.toInt.toNat
  rw [← Int32.ofInt_eq_ofNat, h, Int32.ofInt_toInt]
theorem own_eqs : ∀ k : Fin 128, own_isl (Int32.ofNat k.val) = own_tabv (Int32.ofNat k.val) := by decide +kernel
theorem own_z32 : (0 : Int32).toInt = 0 := by decide
theorem own_eq {j : Int32} (h0 : ¬ j < 0) (h1 : j < 128) : own_isl j = own_tabv j := by
  have h0' : 0 ≤ j.toInt := by
    have : ¬ j.toInt < (0 : Int32).toInt := fun q => h0 (Int32.lt_iff_toInt_lt.mpr q)
    rw [own_z32] at this; omega
  have h1' : j.toInt < (128 : Nat) := by
    have z : (128 : Int32).toInt = 128 := by decide
    have := Int32.lt_iff_toInt_lt.mp h1
    omega
  obtain ⟨k, rfl⟩ := own_nat h0' h1'
  exact own_eqs k
theorem own_big {j : Int32} (h1 : ¬ j < 128) : own_isl j = 0 := by
  have z : (128 : Int32).toInt = 128 := by decide
  have g : ¬ j.toInt < 128 := fun q => h1 (Int32.lt_iff_toInt_lt.mpr (by rw [z]; exact q))
  have u : ∀ k : Int32, k.toInt < 128 → ¬ j = k := fun k hk e => by subst e; exact g hk
  have v : ∀ k : Int32, k.toInt < 128 → k < j := fun k hk => Int32.lt_iff_toInt_lt.mpr (by omega)
  unfold own_isl
  refine if_neg ?_
  rintro (q | q | q | q | q | q | q | q | q | q | q | q | q | q)
  · exact q.2 (v _ (by decide))
  · exact q.2 (v _ (by decide))
  · exact q.2 (v _ (by decide))
  all_goals exact u _ (by decide) q
theorem own_up {j a b : Int32} (ha : ¬ j < a) (hne : ¬ j = a) (hb : b.toInt = a.toInt + 1) : ¬ j < b := by
  intro q
  have q' := Int32.lt_iff_toInt_lt.mp q
  have ha' : ¬ j.toInt < a.toInt := fun q => ha (Int32.lt_iff_toInt_lt.mpr q)
  have hn' : ¬ j.toInt = a.toInt := fun q => hne (Int32.toInt_inj.mp q)
  omega
theorem own_or {A B : Jvm.Cond} {args : Array Value} {s : State} {idx : List Nat} (h : (Jvm.Cond.or A B).value args s none s idx = some true) (ha : A.value args s none s idx = some false) : B.value args s none s idx = some true := by
  simpa only [Jvm.Cond.value, ha] using h
theorem own_len {args : Array Value} {s : State} {t : Jvm.Term} {a : Addr} {cl : Cell} {z : Int32} (ht : t.eval args s none [] s = some (.ref a)) (ha : s.arrayAt? a = some cl) (h : (Jvm.Term.length t).eval args s none [] s = some (.int z)) : cl.slots.size = z.toNatClampNeg ∧ ¬ z < 0 := by
  have hl : cl.slots.size < 2 ^ 31 := by
    by_cases hl : cl.slots.size < 2 ^ 31
    · exact hl
    · exfalso
      simp [Jvm.Term.eval, ht, ha] at h
      omega
  have e := len_f ht ha hl
  rw [h] at e
  have e' : z = cl.slots.size.toInt32 := by injection e with e; injection e
  have g := len_toInt hl
  rw [← e'] at g
  refine ⟨?_, fun q => ?_⟩
  · unfold Int32.toNatClampNeg; omega
  · have := Int32.lt_iff_toInt_lt.mp q
    rw [own_z32] at this; omega
set_option maxRecDepth 65536 in
theorem own_tab {args : Array Value} {s : State} {t : Jvm.Term} {wT : Addr} {cl : Cell} (et : ∀ idx, t.eval args s none idx s = some (.ref wT)) (ha : s.arrayAt? wT = some cl) (hsz : cl.slots.size = (128 : Int32).toNatClampNeg)
    (m0 : (Jvm.Cond.all t (Jvm.Cond.or (Jvm.Cond.le (Jvm.Term.int (32 : Int32)) (Jvm.Term.index (0 : Nat))) (Jvm.Cond.eq (Jvm.Term.elem t (Jvm.Term.index (0 : Nat))) (Jvm.Term.int (0 : Int32))))).value args s none s [] = some true)
    (m1 : (Jvm.Cond.eq (Jvm.Term.elem t (Jvm.Term.int (32 : Int32))) (Jvm.Term.int (1 : Int32))).value args s none s [] = some true)
    (m2 : (Jvm.Cond.all t (Jvm.Cond.or (Jvm.Cond.lt (Jvm.Term.index (0 : Nat)) (Jvm.Term.int (33 : Int32))) (Jvm.Cond.or (Jvm.Cond.le (Jvm.Term.int (39 : Int32)) (Jvm.Term.index (0 : Nat))) (Jvm.Cond.eq (Jvm.Term.elem t (Jvm.Term.index (0 : Nat))) (Jvm.Term.int (0 : Int32)))))).value args s none s [] = some true)
    (m3 : (Jvm.Cond.eq (Jvm.Term.elem t (Jvm.Term.int (39 : Int32))) (Jvm.Term.int (1 : Int32))).value args s none s [] = some true)
    (m4 : (Jvm.Cond.eq (Jvm.Term.elem t (Jvm.Term.int (40 : Int32))) (Jvm.Term.int (1 : Int32))).value args s none s [] = some true)
    (m5 : (Jvm.Cond.eq (Jvm.Term.elem t (Jvm.Term.int (41 : Int32))) (Jvm.Term.int (1 : Int32))).value args s none s [] = some true)
    (m6 : (Jvm.Cond.eq (Jvm.Term.elem t (Jvm.Term.int (42 : Int32))) (Jvm.Term.int (0 : Int32))).value args s none s [] = some true)
    (m7 : (Jvm.Cond.all t (Jvm.Cond.or (Jvm.Cond.lt (Jvm.Term.index (0 : Nat)) (Jvm.Term.int (43 : Int32))) (Jvm.Cond.or (Jvm.Cond.le (Jvm.Term.int (59 : Int32)) (Jvm.Term.index (0 : Nat))) (Jvm.Cond.eq (Jvm.Term.elem t (Jvm.Term.index (0 : Nat))) (Jvm.Term.int (1 : Int32)))))).value args s none s [] = some true)
    (m8 : (Jvm.Cond.all t (Jvm.Cond.or (Jvm.Cond.lt (Jvm.Term.index (0 : Nat)) (Jvm.Term.int (59 : Int32))) (Jvm.Cond.or (Jvm.Cond.le (Jvm.Term.int (63 : Int32)) (Jvm.Term.index (0 : Nat))) (Jvm.Cond.eq (Jvm.Term.elem t (Jvm.Term.index (0 : Nat))) (Jvm.Term.int (0 : Int32)))))).value args s none s [] = some true)
    (m9 : (Jvm.Cond.eq (Jvm.Term.elem t (Jvm.Term.int (63 : Int32))) (Jvm.Term.int (1 : Int32))).value args s none s [] = some true)
    (m10 : (Jvm.Cond.eq (Jvm.Term.elem t (Jvm.Term.int (64 : Int32))) (Jvm.Term.int (0 : Int32))).value args s none s [] = some true)
    (m11 : (Jvm.Cond.all t (Jvm.Cond.or (Jvm.Cond.lt (Jvm.Term.index (0 : Nat)) (Jvm.Term.int (65 : Int32))) (Jvm.Cond.or (Jvm.Cond.le (Jvm.Term.int (91 : Int32)) (Jvm.Term.index (0 : Nat))) (Jvm.Cond.eq (Jvm.Term.elem t (Jvm.Term.index (0 : Nat))) (Jvm.Term.int (1 : Int32)))))).value args s none s [] = some true)
    (m12 : (Jvm.Cond.all t (Jvm.Cond.or (Jvm.Cond.lt (Jvm.Term.index (0 : Nat)) (Jvm.Term.int (91 : Int32))) (Jvm.Cond.or (Jvm.Cond.le (Jvm.Term.int (97 : Int32)) (Jvm.Term.index (0 : Nat))) (Jvm.Cond.eq (Jvm.Term.elem t (Jvm.Term.index (0 : Nat))) (Jvm.Term.int (0 : Int32)))))).value args s none s [] = some true)
    (m13 : (Jvm.Cond.all t (Jvm.Cond.or (Jvm.Cond.lt (Jvm.Term.index (0 : Nat)) (Jvm.Term.int (97 : Int32))) (Jvm.Cond.or (Jvm.Cond.le (Jvm.Term.int (123 : Int32)) (Jvm.Term.index (0 : Nat))) (Jvm.Cond.eq (Jvm.Term.elem t (Jvm.Term.index (0 : Nat))) (Jvm.Term.int (1 : Int32)))))).value args s none s [] = some true)
    (m14 : (Jvm.Cond.all t (Jvm.Cond.or (Jvm.Cond.lt (Jvm.Term.index (0 : Nat)) (Jvm.Term.int (123 : Int32))) (Jvm.Cond.eq (Jvm.Term.elem t (Jvm.Term.index (0 : Nat))) (Jvm.Term.int (0 : Int32))))).value args s none s [] = some true)
    (j : Int32) (h0 : ¬ j < 0) (h1 : j < 128) : cl.slots[j.toNatClampNeg]? = some (.int (own_isl j)) := by
  have hin := inb_of hsz ⟨h0, h1⟩
  have hlt : j.toNatClampNeg < cl.slots.size := Nat.lt_of_not_le fun q => hin (Or.inr q)
  have at_ : ∀ v : Value, (Jvm.Term.elem t (.index 0)).eval args s none [j.toNatClampNeg] s = some v → cl.slots[j.toNatClampNeg]? = some v := fun v h => (elem_f (et _) (idx_at h0) ha h0).symm.trans h
  rw [own_eq h0 h1]
  unfold own_tabv
  by_cases b0 : j < 32
  · rw [if_pos b0]
    have u := Cond.all_elim (et []) ha m0 j.toNatClampNeg hlt
    have u := own_or u (nay (Cond.le_ints (Term.int_eval _) (idx_at h0)) (Int32.not_le.mpr b0))
    exact at_ _ (eqv_i (Term.int_eval _) u)
  rw [if_neg b0]
  by_cases b1 : j = 32
  · rw [if_pos b1]
    subst b1
    exact (elem_f (et []) (Term.int_eval (32 : Int32)) ha (by decide)).symm.trans (eqv_i (Term.int_eval _) m1)
  rw [if_neg b1]
  have l1 : ¬ j < 33 := own_up b0 b1 (by decide)
  by_cases b2 : j < 39
  · rw [if_pos b2]
    have u := Cond.all_elim (et []) ha m2 j.toNatClampNeg hlt
    have u := own_or u (nay (Cond.lt_ints (idx_at h0) (Term.int_eval _)) l1)
    have u := own_or u (nay (Cond.le_ints (Term.int_eval _) (idx_at h0)) (Int32.not_le.mpr b2))
    exact at_ _ (eqv_i (Term.int_eval _) u)
  rw [if_neg b2]
  by_cases b3 : j = 39
  · rw [if_pos b3]
    subst b3
    exact (elem_f (et []) (Term.int_eval (39 : Int32)) ha (by decide)).symm.trans (eqv_i (Term.int_eval _) m3)
  rw [if_neg b3]
  have l3 : ¬ j < 40 := own_up b2 b3 (by decide)
  by_cases b4 : j = 40
  · rw [if_pos b4]
    subst b4
    exact (elem_f (et []) (Term.int_eval (40 : Int32)) ha (by decide)).symm.trans (eqv_i (Term.int_eval _) m4)
  rw [if_neg b4]
  have l4 : ¬ j < 41 := own_up l3 b4 (by decide)
  by_cases b5 : j = 41
  · rw [if_pos b5]
    subst b5
    exact (elem_f (et []) (Term.int_eval (41 : Int32)) ha (by decide)).symm.trans (eqv_i (Term.int_eval _) m5)
  rw [if_neg b5]
  have l5 : ¬ j < 42 := own_up l4 b5 (by decide)
  by_cases b6 : j = 42
  · rw [if_pos b6]
    subst b6
    exact (elem_f (et []) (Term.int_eval (42 : Int32)) ha (by decide)).symm.trans (eqv_i (Term.int_eval _) m6)
  rw [if_neg b6]
  have l6 : ¬ j < 43 := own_up l5 b6 (by decide)
  by_cases b7 : j < 59
  · rw [if_pos b7]
    have u := Cond.all_elim (et []) ha m7 j.toNatClampNeg hlt
    have u := own_or u (nay (Cond.lt_ints (idx_at h0) (Term.int_eval _)) l6)
    have u := own_or u (nay (Cond.le_ints (Term.int_eval _) (idx_at h0)) (Int32.not_le.mpr b7))
    exact at_ _ (eqv_i (Term.int_eval _) u)
  rw [if_neg b7]
  by_cases b8 : j < 63
  · rw [if_pos b8]
    have u := Cond.all_elim (et []) ha m8 j.toNatClampNeg hlt
    have u := own_or u (nay (Cond.lt_ints (idx_at h0) (Term.int_eval _)) b7)
    have u := own_or u (nay (Cond.le_ints (Term.int_eval _) (idx_at h0)) (Int32.not_le.mpr b8))
    exact at_ _ (eqv_i (Term.int_eval _) u)
  rw [if_neg b8]
  by_cases b9 : j = 63
  · rw [if_pos b9]
    subst b9
    exact (elem_f (et []) (Term.int_eval (63 : Int32)) ha (by decide)).symm.trans (eqv_i (Term.int_eval _) m9)
  rw [if_neg b9]
  have l9 : ¬ j < 64 := own_up b8 b9 (by decide)
  by_cases b10 : j = 64
  · rw [if_pos b10]
    subst b10
    exact (elem_f (et []) (Term.int_eval (64 : Int32)) ha (by decide)).symm.trans (eqv_i (Term.int_eval _) m10)
  rw [if_neg b10]
  have l10 : ¬ j < 65 := own_up l9 b10 (by decide)
  by_cases b11 : j < 91
  · rw [if_pos b11]
    have u := Cond.all_elim (et []) ha m11 j.toNatClampNeg hlt
    have u := own_or u (nay (Cond.lt_ints (idx_at h0) (Term.int_eval _)) l10)
    have u := own_or u (nay (Cond.le_ints (Term.int_eval _) (idx_at h0)) (Int32.not_le.mpr b11))
    exact at_ _ (eqv_i (Term.int_eval _) u)
  rw [if_neg b11]
  by_cases b12 : j < 97
  · rw [if_pos b12]
    have u := Cond.all_elim (et []) ha m12 j.toNatClampNeg hlt
    have u := own_or u (nay (Cond.lt_ints (idx_at h0) (Term.int_eval _)) b11)
    have u := own_or u (nay (Cond.le_ints (Term.int_eval _) (idx_at h0)) (Int32.not_le.mpr b12))
    exact at_ _ (eqv_i (Term.int_eval _) u)
  rw [if_neg b12]
  by_cases b13 : j < 123
  · rw [if_pos b13]
    have u := Cond.all_elim (et []) ha m13 j.toNatClampNeg hlt
    have u := own_or u (nay (Cond.lt_ints (idx_at h0) (Term.int_eval _)) b12)
    have u := own_or u (nay (Cond.le_ints (Term.int_eval _) (idx_at h0)) (Int32.not_le.mpr b13))
    exact at_ _ (eqv_i (Term.int_eval _) u)
  rw [if_neg b13]
  have u := Cond.all_elim (et []) ha m14 j.toNatClampNeg hlt
  have u := own_or u (nay (Cond.lt_ints (idx_at h0) (Term.int_eval _)) b13)
  exact at_ _ (eqv_i (Term.int_eval _) u)
theorem d1_0 : decode method_2_code 0 = .ok (.iload_n 0, 1) := by decide +kernel
theorem d1_1 : decode method_2_code 1 = .ok (.bipush 97, 2) := by decide +kernel
theorem d1_3 : decode method_2_code 3 = .ok (.if_icmp .lt 11, 3) := by decide +kernel
theorem d1_6 : decode method_2_code 6 = .ok (.iload_n 0, 1) := by decide +kernel
theorem d1_7 : decode method_2_code 7 = .ok (.bipush 122, 2) := by decide +kernel
theorem d1_9 : decode method_2_code 9 = .ok (.if_icmp .gt 5, 3) := by decide +kernel
theorem d1_12 : decode method_2_code 12 = .ok (.iconst 1, 1) := by decide +kernel
theorem d1_13 : decode method_2_code 13 = .ok (.ireturn, 1) := by decide +kernel
theorem d1_14 : decode method_2_code 14 = .ok (.iload_n 0, 1) := by decide +kernel
theorem d1_15 : decode method_2_code 15 = .ok (.bipush 65, 2) := by decide +kernel
theorem d1_17 : decode method_2_code 17 = .ok (.if_icmp .lt 11, 3) := by decide +kernel
theorem d1_20 : decode method_2_code 20 = .ok (.iload_n 0, 1) := by decide +kernel
theorem d1_21 : decode method_2_code 21 = .ok (.bipush 90, 2) := by decide +kernel
theorem d1_23 : decode method_2_code 23 = .ok (.if_icmp .gt 5, 3) := by decide +kernel
theorem d1_26 : decode method_2_code 26 = .ok (.iconst 1, 1) := by decide +kernel
theorem d1_27 : decode method_2_code 27 = .ok (.ireturn, 1) := by decide +kernel
theorem d1_28 : decode method_2_code 28 = .ok (.iload_n 0, 1) := by decide +kernel
theorem d1_29 : decode method_2_code 29 = .ok (.bipush 48, 2) := by decide +kernel
theorem d1_31 : decode method_2_code 31 = .ok (.if_icmp .lt 11, 3) := by decide +kernel
theorem d1_34 : decode method_2_code 34 = .ok (.iload_n 0, 1) := by decide +kernel
theorem d1_35 : decode method_2_code 35 = .ok (.bipush 57, 2) := by decide +kernel
theorem d1_37 : decode method_2_code 37 = .ok (.if_icmp .gt 5, 3) := by decide +kernel
theorem d1_40 : decode method_2_code 40 = .ok (.iconst 1, 1) := by decide +kernel
theorem d1_41 : decode method_2_code 41 = .ok (.ireturn, 1) := by decide +kernel
theorem d1_42 : decode method_2_code 42 = .ok (.iload_n 0, 1) := by decide +kernel
theorem d1_43 : decode method_2_code 43 = .ok (.bipush 47, 2) := by decide +kernel
theorem d1_45 : decode method_2_code 45 = .ok (.if_icmp .eq 63, 3) := by decide +kernel
theorem d1_48 : decode method_2_code 48 = .ok (.iload_n 0, 1) := by decide +kernel
theorem d1_49 : decode method_2_code 49 = .ok (.bipush 45, 2) := by decide +kernel
theorem d1_51 : decode method_2_code 51 = .ok (.if_icmp .eq 57, 3) := by decide +kernel
theorem d1_54 : decode method_2_code 54 = .ok (.iload_n 0, 1) := by decide +kernel
theorem d1_55 : decode method_2_code 55 = .ok (.bipush 63, 2) := by decide +kernel
theorem d1_57 : decode method_2_code 57 = .ok (.if_icmp .eq 51, 3) := by decide +kernel
theorem d1_60 : decode method_2_code 60 = .ok (.iload_n 0, 1) := by decide +kernel
theorem d1_61 : decode method_2_code 61 = .ok (.bipush 58, 2) := by decide +kernel
theorem d1_63 : decode method_2_code 63 = .ok (.if_icmp .eq 45, 3) := by decide +kernel
theorem d1_66 : decode method_2_code 66 = .ok (.iload_n 0, 1) := by decide +kernel
theorem d1_67 : decode method_2_code 67 = .ok (.bipush 40, 2) := by decide +kernel
theorem d1_69 : decode method_2_code 69 = .ok (.if_icmp .eq 39, 3) := by decide +kernel
theorem d1_72 : decode method_2_code 72 = .ok (.iload_n 0, 1) := by decide +kernel
theorem d1_73 : decode method_2_code 73 = .ok (.bipush 41, 2) := by decide +kernel
theorem d1_75 : decode method_2_code 75 = .ok (.if_icmp .eq 33, 3) := by decide +kernel
theorem d1_78 : decode method_2_code 78 = .ok (.iload_n 0, 1) := by decide +kernel
theorem d1_79 : decode method_2_code 79 = .ok (.bipush 46, 2) := by decide +kernel
theorem d1_81 : decode method_2_code 81 = .ok (.if_icmp .eq 27, 3) := by decide +kernel
theorem d1_84 : decode method_2_code 84 = .ok (.iload_n 0, 1) := by decide +kernel
theorem d1_85 : decode method_2_code 85 = .ok (.bipush 44, 2) := by decide +kernel
theorem d1_87 : decode method_2_code 87 = .ok (.if_icmp .eq 21, 3) := by decide +kernel
theorem d1_90 : decode method_2_code 90 = .ok (.iload_n 0, 1) := by decide +kernel
theorem d1_91 : decode method_2_code 91 = .ok (.bipush 39, 2) := by decide +kernel
theorem d1_93 : decode method_2_code 93 = .ok (.if_icmp .eq 15, 3) := by decide +kernel
theorem d1_96 : decode method_2_code 96 = .ok (.iload_n 0, 1) := by decide +kernel
theorem d1_97 : decode method_2_code 97 = .ok (.bipush 43, 2) := by decide +kernel
theorem d1_99 : decode method_2_code 99 = .ok (.if_icmp .eq 9, 3) := by decide +kernel
theorem d1_102 : decode method_2_code 102 = .ok (.iload_n 0, 1) := by decide +kernel
theorem d1_103 : decode method_2_code 103 = .ok (.bipush 32, 2) := by decide +kernel
theorem d1_105 : decode method_2_code 105 = .ok (.if_icmp .ne 7, 3) := by decide +kernel
theorem d1_108 : decode method_2_code 108 = .ok (.iconst 1, 1) := by decide +kernel
theorem d1_109 : decode method_2_code 109 = .ok (.goto 4, 3) := by decide +kernel
theorem d1_112 : decode method_2_code 112 = .ok (.iconst 0, 1) := by decide +kernel
theorem d1_113 : decode method_2_code 113 = .ok (.ireturn, 1) := by decide +kernel
theorem pn_1 : plainName "com/example/lastschrift/lastschrift/rules/CharacterSetContainsPinLaw" = true := by first | (simp [plainName, overriddenIn]; done) | decide +kernel
theorem ef_rm1 (m : MethodId) (x0 : Int32) : entryFrame m #[(.int x0)] 1 = mkF m 0 #[.val (.int x0)] [] := by first | (simp [entryFrame, mkF, argsToLocals, Value.category]; done) | rfl
def Q1 (Z : State) (p0 : Int32) (h0 : Heap) (n0 : Nat) (v : Option Value) (h : Heap) (L : List Loc) : Prop := v = some (.int (own_isl p0)) ∧ Fr n0 L ∧ h = h0
set_option maxRecDepth 65536 in
set_option maxHeartbeats 40000000 in
theorem rm1 (l : Launch) (Z : State) (a0 : Array Value) (hw : ∀ d ∈ tables_1, d.before a0 Z = true) (ws : List Jvm.Cond) (p0 : Int32) (h0 : Heap) (n0 : Nat) (Z0 : n0 ≤ h0.size) :
    MetFree l (⟨"com/example/lastschrift/lastschrift/rules/CharacterSetContainsPinLaw", "isLatin", "(I)Z"⟩ : MethodName) (head1 (Jvm.Cond.code (⟨"com/example/lastschrift/lastschrift/rules/CharacterSetContainsPinLaw", "isLatin", "(I)Z"⟩ : MethodName) method_2_code 1 (some .boolean) :: ws) ({ frames := 0, cells := 0, slots := 0, locals := 0 } : Room)) (fun a U => a = #[(.int p0)] ∧ Z.Warmed39 U.vm ∧ U.heap = h0) (fun _ _ _ _ _ => True) (fun _ U o U' => ∃ v L, o = .returned v ∧ Q1 Z p0 h0 n0 v U'.heap L ∧ FrameEnd U o U' L ({ frames := 0, cells := 0, slots := 0, locals := 0 } : Room).cells ({ frames := 0, cells := 0, slots := 0, locals := 0 } : Room).slots) := by
  refine MetFree.of_bodySF (plainFor_of_name pn_1) hisR ?_
  intro p e s m args below meth c s₁ Bd hml0 hP hK
  obtain ⟨rfl, hZ, hh⟩ := hP
  have hx := Bd.exec
  have hby := Bd.bytes
  have hml : c.maxLocals = 1 := hml0
  have hown : s.vm.findClass "com/example/lastschrift/lastschrift/rules/CharacterSetContainsPinLaw" = some m.cls := findClass_of_methodNamed Bd.named
  have hnm := (name_of_methodNamed Bd.named Bd.method).1
  have X0 : Stand p l e ({ frames := 0, cells := 0, slots := 0, locals := 0 } : Room) s m #[(.int p0)] below meth c s₁ [] 0 0 := Stand.of_body Bd
  have e0 : s₁.heap = h0 := by rw [← hh, Bd.state]; rfl
  have N0 := Fr.nil n0
  refine own_open fun G hG => ?_
  refine own_go (B := s₁.setTop (mkF m 0 #[.val (.int p0)] [])) (fun t_ k_ => castTop (ef_rm1 m p0) k_) ?_
  have K42 : ¬ (¬ p0 < 97 ∧ ¬ 122 < p0) → ¬ (¬ p0 < 65 ∧ ¬ 90 < p0) → ¬ (¬ p0 < 48 ∧ ¬ 57 < p0) → own_R p.tables e below G (s₁.setTop (mkF m 42 #[.val (.int p0)] [])) := by
    intro nl0 nl1 nl2
    refine own_go (B := s₁.setTop (mkF m 45 #[.val (.int p0)] [(.int (47 : Int32)), (.int p0)])) (fun t_ k_ => ?_) ?_
    · show Steps p.tables e below (s₁.setTop (mkF m 42 #[.val (.int p0)] [])) _
      refine XS.iloadN X0.here hx rfl (hb hby d1_42) rfl ?_
      show Steps p.tables e below (s₁.setTop (mkF m 43 #[.val (.int p0)] [(.int p0)])) _
      refine XS.bipush X0.here hx rfl (hb hby d1_43) ?_
      show Steps p.tables e below (s₁.setTop (mkF m 45 #[.val (.int p0)] [(.int (47 : Int32)), (.int p0)])) _
      exact k_
    by_cases hc45 : p0 = (47 : Int32)
    · refine own_go (B := s₁.setTop (mkF m 113 #[.val (.int p0)] [(.int (1 : Int32))])) (fun t_ k_ => ?_) ?_
      · show Steps p.tables e below (s₁.setTop (mkF m 45 #[.val (.int p0)] [(.int (47 : Int32)), (.int p0)])) _
        refine XS.icmpYes X0.here hx rfl (pc0 := 45) (pc' := 108) rfl (hb hby d1_45) rfl (teq hc45).1 (by decide) (by decide) ?_
        show Steps p.tables e below (s₁.setTop (mkF m 108 #[.val (.int p0)] [])) _
        refine XS.iconst X0.here hx rfl (hb hby d1_108) ?_
        show Steps p.tables e below (s₁.setTop (mkF m 109 #[.val (.int p0)] [(.int (1 : Int32))])) _
        refine XS.goto X0.here hx rfl (pc0 := 109) (pc' := 113) rfl (hb hby d1_109) (by decide) (by decide) ?_
        show Steps p.tables e below (s₁.setTop (mkF m 113 #[.val (.int p0)] [(.int (1 : Int32))])) _
        exact k_
      obtain ⟨fs, hr, hrun, hended, hW, hsame⟩ := X0.leave (v := some (.int (1 : Int32))) (fun h => by rw [Bd.returns] at h; cases h)
      refine own_at ?_ (hG _ _ ⟨hrun, hended, _, _, rfl, ?_, ⟨_, rfl⟩, hW, hsame.mono (by decide) (by decide)⟩)
      · show Steps p.tables e below (s₁.setTop (mkF m 113 #[.val (.int p0)] [(.int (1 : Int32))])) _
        exact retN X0 hx (t := .boolean) Bd.returns (by simp) (hb hby d1_113) hr
      · show Q1 Z p0 h0 n0 _ s₁.heap _
        rw [e0]
        exact ⟨by unfold own_isl; rw [if_pos (Or.inr (Or.inr (Or.inr (Or.inl hc45))))], N0, rfl⟩
    · refine own_go (B := s₁.setTop (mkF m 51 #[.val (.int p0)] [(.int (45 : Int32)), (.int p0)])) (fun t_ k_ => ?_) ?_
      · show Steps p.tables e below (s₁.setTop (mkF m 45 #[.val (.int p0)] [(.int (47 : Int32)), (.int p0)])) _
        refine XS.icmpNo X0.here hx rfl (hb hby d1_45) rfl (feq hc45).1 ?_
        show Steps p.tables e below (s₁.setTop (mkF m 48 #[.val (.int p0)] [])) _
        refine XS.iloadN X0.here hx rfl (hb hby d1_48) rfl ?_
        show Steps p.tables e below (s₁.setTop (mkF m 49 #[.val (.int p0)] [(.int p0)])) _
        refine XS.bipush X0.here hx rfl (hb hby d1_49) ?_
        show Steps p.tables e below (s₁.setTop (mkF m 51 #[.val (.int p0)] [(.int (45 : Int32)), (.int p0)])) _
        exact k_
      by_cases hc51 : p0 = (45 : Int32)
      · refine own_go (B := s₁.setTop (mkF m 113 #[.val (.int p0)] [(.int (1 : Int32))])) (fun t_ k_ => ?_) ?_
        · show Steps p.tables e below (s₁.setTop (mkF m 51 #[.val (.int p0)] [(.int (45 : Int32)), (.int p0)])) _
          refine XS.icmpYes X0.here hx rfl (pc0 := 51) (pc' := 108) rfl (hb hby d1_51) rfl (teq hc51).1 (by decide) (by decide) ?_
          show Steps p.tables e below (s₁.setTop (mkF m 108 #[.val (.int p0)] [])) _
          refine XS.iconst X0.here hx rfl (hb hby d1_108) ?_
          show Steps p.tables e below (s₁.setTop (mkF m 109 #[.val (.int p0)] [(.int (1 : Int32))])) _
          refine XS.goto X0.here hx rfl (pc0 := 109) (pc' := 113) rfl (hb hby d1_109) (by decide) (by decide) ?_
          show Steps p.tables e below (s₁.setTop (mkF m 113 #[.val (.int p0)] [(.int (1 : Int32))])) _
          exact k_
        obtain ⟨fs, hr, hrun, hended, hW, hsame⟩ := X0.leave (v := some (.int (1 : Int32))) (fun h => by rw [Bd.returns] at h; cases h)
        refine own_at ?_ (hG _ _ ⟨hrun, hended, _, _, rfl, ?_, ⟨_, rfl⟩, hW, hsame.mono (by decide) (by decide)⟩)
        · show Steps p.tables e below (s₁.setTop (mkF m 113 #[.val (.int p0)] [(.int (1 : Int32))])) _
          exact retN X0 hx (t := .boolean) Bd.returns (by simp) (hb hby d1_113) hr
        · show Q1 Z p0 h0 n0 _ s₁.heap _
          rw [e0]
          exact ⟨by unfold own_isl; rw [if_pos (Or.inr (Or.inr (Or.inr (Or.inr (Or.inl hc51)))))], N0, rfl⟩
      · refine own_go (B := s₁.setTop (mkF m 57 #[.val (.int p0)] [(.int (63 : Int32)), (.int p0)])) (fun t_ k_ => ?_) ?_
        · show Steps p.tables e below (s₁.setTop (mkF m 51 #[.val (.int p0)] [(.int (45 : Int32)), (.int p0)])) _
          refine XS.icmpNo X0.here hx rfl (hb hby d1_51) rfl (feq hc51).1 ?_
          show Steps p.tables e below (s₁.setTop (mkF m 54 #[.val (.int p0)] [])) _
          refine XS.iloadN X0.here hx rfl (hb hby d1_54) rfl ?_
          show Steps p.tables e below (s₁.setTop (mkF m 55 #[.val (.int p0)] [(.int p0)])) _
          refine XS.bipush X0.here hx rfl (hb hby d1_55) ?_
          show Steps p.tables e below (s₁.setTop (mkF m 57 #[.val (.int p0)] [(.int (63 : Int32)), (.int p0)])) _
          exact k_
        by_cases hc57 : p0 = (63 : Int32)
        · refine own_go (B := s₁.setTop (mkF m 113 #[.val (.int p0)] [(.int (1 : Int32))])) (fun t_ k_ => ?_) ?_
          · show Steps p.tables e below (s₁.setTop (mkF m 57 #[.val (.int p0)] [(.int (63 : Int32)), (.int p0)])) _
            refine XS.icmpYes X0.here hx rfl (pc0 := 57) (pc' := 108) rfl (hb hby d1_57) rfl (teq hc57).1 (by decide) (by decide) ?_
            show Steps p.tables e below (s₁.setTop (mkF m 108 #[.val (.int p0)] [])) _
            refine XS.iconst X0.here hx rfl (hb hby d1_108) ?_
            show Steps p.tables e below (s₁.setTop (mkF m 109 #[.val (.int p0)] [(.int (1 : Int32))])) _
            refine XS.goto X0.here hx rfl (pc0 := 109) (pc' := 113) rfl (hb hby d1_109) (by decide) (by decide) ?_
            show Steps p.tables e below (s₁.setTop (mkF m 113 #[.val (.int p0)] [(.int (1 : Int32))])) _
            exact k_
          obtain ⟨fs, hr, hrun, hended, hW, hsame⟩ := X0.leave (v := some (.int (1 : Int32))) (fun h => by rw [Bd.returns] at h; cases h)
          refine own_at ?_ (hG _ _ ⟨hrun, hended, _, _, rfl, ?_, ⟨_, rfl⟩, hW, hsame.mono (by decide) (by decide)⟩)
          · show Steps p.tables e below (s₁.setTop (mkF m 113 #[.val (.int p0)] [(.int (1 : Int32))])) _
            exact retN X0 hx (t := .boolean) Bd.returns (by simp) (hb hby d1_113) hr
          · show Q1 Z p0 h0 n0 _ s₁.heap _
            rw [e0]
            exact ⟨by unfold own_isl; rw [if_pos (Or.inr (Or.inr (Or.inr (Or.inr (Or.inr (Or.inl hc57))))))], N0, rfl⟩
        · refine own_go (B := s₁.setTop (mkF m 63 #[.val (.int p0)] [(.int (58 : Int32)), (.int p0)])) (fun t_ k_ => ?_) ?_
          · show Steps p.tables e below (s₁.setTop (mkF m 57 #[.val (.int p0)] [(.int (63 : Int32)), (.int p0)])) _
            refine XS.icmpNo X0.here hx rfl (hb hby d1_57) rfl (feq hc57).1 ?_
            show Steps p.tables e below (s₁.setTop (mkF m 60 #[.val (.int p0)] [])) _
            refine XS.iloadN X0.here hx rfl (hb hby d1_60) rfl ?_
            show Steps p.tables e below (s₁.setTop (mkF m 61 #[.val (.int p0)] [(.int p0)])) _
            refine XS.bipush X0.here hx rfl (hb hby d1_61) ?_
            show Steps p.tables e below (s₁.setTop (mkF m 63 #[.val (.int p0)] [(.int (58 : Int32)), (.int p0)])) _
            exact k_
          by_cases hc63 : p0 = (58 : Int32)
          · refine own_go (B := s₁.setTop (mkF m 113 #[.val (.int p0)] [(.int (1 : Int32))])) (fun t_ k_ => ?_) ?_
            · show Steps p.tables e below (s₁.setTop (mkF m 63 #[.val (.int p0)] [(.int (58 : Int32)), (.int p0)])) _
              refine XS.icmpYes X0.here hx rfl (pc0 := 63) (pc' := 108) rfl (hb hby d1_63) rfl (teq hc63).1 (by decide) (by decide) ?_
              show Steps p.tables e below (s₁.setTop (mkF m 108 #[.val (.int p0)] [])) _
              refine XS.iconst X0.here hx rfl (hb hby d1_108) ?_
              show Steps p.tables e below (s₁.setTop (mkF m 109 #[.val (.int p0)] [(.int (1 : Int32))])) _
              refine XS.goto X0.here hx rfl (pc0 := 109) (pc' := 113) rfl (hb hby d1_109) (by decide) (by decide) ?_
              show Steps p.tables e below (s₁.setTop (mkF m 113 #[.val (.int p0)] [(.int (1 : Int32))])) _
              exact k_
            obtain ⟨fs, hr, hrun, hended, hW, hsame⟩ := X0.leave (v := some (.int (1 : Int32))) (fun h => by rw [Bd.returns] at h; cases h)
            refine own_at ?_ (hG _ _ ⟨hrun, hended, _, _, rfl, ?_, ⟨_, rfl⟩, hW, hsame.mono (by decide) (by decide)⟩)
            · show Steps p.tables e below (s₁.setTop (mkF m 113 #[.val (.int p0)] [(.int (1 : Int32))])) _
              exact retN X0 hx (t := .boolean) Bd.returns (by simp) (hb hby d1_113) hr
            · show Q1 Z p0 h0 n0 _ s₁.heap _
              rw [e0]
              exact ⟨by unfold own_isl; rw [if_pos (Or.inr (Or.inr (Or.inr (Or.inr (Or.inr (Or.inr (Or.inl hc63)))))))], N0, rfl⟩
          · refine own_go (B := s₁.setTop (mkF m 69 #[.val (.int p0)] [(.int (40 : Int32)), (.int p0)])) (fun t_ k_ => ?_) ?_
            · show Steps p.tables e below (s₁.setTop (mkF m 63 #[.val (.int p0)] [(.int (58 : Int32)), (.int p0)])) _
              refine XS.icmpNo X0.here hx rfl (hb hby d1_63) rfl (feq hc63).1 ?_
              show Steps p.tables e below (s₁.setTop (mkF m 66 #[.val (.int p0)] [])) _
              refine XS.iloadN X0.here hx rfl (hb hby d1_66) rfl ?_
              show Steps p.tables e below (s₁.setTop (mkF m 67 #[.val (.int p0)] [(.int p0)])) _
              refine XS.bipush X0.here hx rfl (hb hby d1_67) ?_
              show Steps p.tables e below (s₁.setTop (mkF m 69 #[.val (.int p0)] [(.int (40 : Int32)), (.int p0)])) _
              exact k_
            by_cases hc69 : p0 = (40 : Int32)
            · refine own_go (B := s₁.setTop (mkF m 113 #[.val (.int p0)] [(.int (1 : Int32))])) (fun t_ k_ => ?_) ?_
              · show Steps p.tables e below (s₁.setTop (mkF m 69 #[.val (.int p0)] [(.int (40 : Int32)), (.int p0)])) _
                refine XS.icmpYes X0.here hx rfl (pc0 := 69) (pc' := 108) rfl (hb hby d1_69) rfl (teq hc69).1 (by decide) (by decide) ?_
                show Steps p.tables e below (s₁.setTop (mkF m 108 #[.val (.int p0)] [])) _
                refine XS.iconst X0.here hx rfl (hb hby d1_108) ?_
                show Steps p.tables e below (s₁.setTop (mkF m 109 #[.val (.int p0)] [(.int (1 : Int32))])) _
                refine XS.goto X0.here hx rfl (pc0 := 109) (pc' := 113) rfl (hb hby d1_109) (by decide) (by decide) ?_
                show Steps p.tables e below (s₁.setTop (mkF m 113 #[.val (.int p0)] [(.int (1 : Int32))])) _
                exact k_
              obtain ⟨fs, hr, hrun, hended, hW, hsame⟩ := X0.leave (v := some (.int (1 : Int32))) (fun h => by rw [Bd.returns] at h; cases h)
              refine own_at ?_ (hG _ _ ⟨hrun, hended, _, _, rfl, ?_, ⟨_, rfl⟩, hW, hsame.mono (by decide) (by decide)⟩)
              · show Steps p.tables e below (s₁.setTop (mkF m 113 #[.val (.int p0)] [(.int (1 : Int32))])) _
                exact retN X0 hx (t := .boolean) Bd.returns (by simp) (hb hby d1_113) hr
              · show Q1 Z p0 h0 n0 _ s₁.heap _
                rw [e0]
                exact ⟨by unfold own_isl; rw [if_pos (Or.inr (Or.inr (Or.inr (Or.inr (Or.inr (Or.inr (Or.inr (Or.inl hc69))))))))], N0, rfl⟩
            · refine own_go (B := s₁.setTop (mkF m 75 #[.val (.int p0)] [(.int (41 : Int32)), (.int p0)])) (fun t_ k_ => ?_) ?_
              · show Steps p.tables e below (s₁.setTop (mkF m 69 #[.val (.int p0)] [(.int (40 : Int32)), (.int p0)])) _
                refine XS.icmpNo X0.here hx rfl (hb hby d1_69) rfl (feq hc69).1 ?_
                show Steps p.tables e below (s₁.setTop (mkF m 72 #[.val (.int p0)] [])) _
                refine XS.iloadN X0.here hx rfl (hb hby d1_72) rfl ?_
                show Steps p.tables e below (s₁.setTop (mkF m 73 #[.val (.int p0)] [(.int p0)])) _
                refine XS.bipush X0.here hx rfl (hb hby d1_73) ?_
                show Steps p.tables e below (s₁.setTop (mkF m 75 #[.val (.int p0)] [(.int (41 : Int32)), (.int p0)])) _
                exact k_
              by_cases hc75 : p0 = (41 : Int32)
              · refine own_go (B := s₁.setTop (mkF m 113 #[.val (.int p0)] [(.int (1 : Int32))])) (fun t_ k_ => ?_) ?_
                · show Steps p.tables e below (s₁.setTop (mkF m 75 #[.val (.int p0)] [(.int (41 : Int32)), (.int p0)])) _
                  refine XS.icmpYes X0.here hx rfl (pc0 := 75) (pc' := 108) rfl (hb hby d1_75) rfl (teq hc75).1 (by decide) (by decide) ?_
                  show Steps p.tables e below (s₁.setTop (mkF m 108 #[.val (.int p0)] [])) _
                  refine XS.iconst X0.here hx rfl (hb hby d1_108) ?_
                  show Steps p.tables e below (s₁.setTop (mkF m 109 #[.val (.int p0)] [(.int (1 : Int32))])) _
                  refine XS.goto X0.here hx rfl (pc0 := 109) (pc' := 113) rfl (hb hby d1_109) (by decide) (by decide) ?_
                  show Steps p.tables e below (s₁.setTop (mkF m 113 #[.val (.int p0)] [(.int (1 : Int32))])) _
                  exact k_
                obtain ⟨fs, hr, hrun, hended, hW, hsame⟩ := X0.leave (v := some (.int (1 : Int32))) (fun h => by rw [Bd.returns] at h; cases h)
                refine own_at ?_ (hG _ _ ⟨hrun, hended, _, _, rfl, ?_, ⟨_, rfl⟩, hW, hsame.mono (by decide) (by decide)⟩)
                · show Steps p.tables e below (s₁.setTop (mkF m 113 #[.val (.int p0)] [(.int (1 : Int32))])) _
                  exact retN X0 hx (t := .boolean) Bd.returns (by simp) (hb hby d1_113) hr
                · show Q1 Z p0 h0 n0 _ s₁.heap _
                  rw [e0]
                  exact ⟨by unfold own_isl; rw [if_pos (Or.inr (Or.inr (Or.inr (Or.inr (Or.inr (Or.inr (Or.inr (Or.inr (Or.inl hc75)))))))))], N0, rfl⟩
              · refine own_go (B := s₁.setTop (mkF m 81 #[.val (.int p0)] [(.int (46 : Int32)), (.int p0)])) (fun t_ k_ => ?_) ?_
                · show Steps p.tables e below (s₁.setTop (mkF m 75 #[.val (.int p0)] [(.int (41 : Int32)), (.int p0)])) _
                  refine XS.icmpNo X0.here hx rfl (hb hby d1_75) rfl (feq hc75).1 ?_
                  show Steps p.tables e below (s₁.setTop (mkF m 78 #[.val (.int p0)] [])) _
                  refine XS.iloadN X0.here hx rfl (hb hby d1_78) rfl ?_
                  show Steps p.tables e below (s₁.setTop (mkF m 79 #[.val (.int p0)] [(.int p0)])) _
                  refine XS.bipush X0.here hx rfl (hb hby d1_79) ?_
                  show Steps p.tables e below (s₁.setTop (mkF m 81 #[.val (.int p0)] [(.int (46 : Int32)), (.int p0)])) _
                  exact k_
                by_cases hc81 : p0 = (46 : Int32)
                · refine own_go (B := s₁.setTop (mkF m 113 #[.val (.int p0)] [(.int (1 : Int32))])) (fun t_ k_ => ?_) ?_
                  · show Steps p.tables e below (s₁.setTop (mkF m 81 #[.val (.int p0)] [(.int (46 : Int32)), (.int p0)])) _
                    refine XS.icmpYes X0.here hx rfl (pc0 := 81) (pc' := 108) rfl (hb hby d1_81) rfl (teq hc81).1 (by decide) (by decide) ?_
                    show Steps p.tables e below (s₁.setTop (mkF m 108 #[.val (.int p0)] [])) _
                    refine XS.iconst X0.here hx rfl (hb hby d1_108) ?_
                    show Steps p.tables e below (s₁.setTop (mkF m 109 #[.val (.int p0)] [(.int (1 : Int32))])) _
                    refine XS.goto X0.here hx rfl (pc0 := 109) (pc' := 113) rfl (hb hby d1_109) (by decide) (by decide) ?_
                    show Steps p.tables e below (s₁.setTop (mkF m 113 #[.val (.int p0)] [(.int (1 : Int32))])) _
                    exact k_
                  obtain ⟨fs, hr, hrun, hended, hW, hsame⟩ := X0.leave (v := some (.int (1 : Int32))) (fun h => by rw [Bd.returns] at h; cases h)
                  refine own_at ?_ (hG _ _ ⟨hrun, hended, _, _, rfl, ?_, ⟨_, rfl⟩, hW, hsame.mono (by decide) (by decide)⟩)
                  · show Steps p.tables e below (s₁.setTop (mkF m 113 #[.val (.int p0)] [(.int (1 : Int32))])) _
                    exact retN X0 hx (t := .boolean) Bd.returns (by simp) (hb hby d1_113) hr
                  · show Q1 Z p0 h0 n0 _ s₁.heap _
                    rw [e0]
                    exact ⟨by unfold own_isl; rw [if_pos (Or.inr (Or.inr (Or.inr (Or.inr (Or.inr (Or.inr (Or.inr (Or.inr (Or.inr (Or.inl hc81))))))))))], N0, rfl⟩
                · refine own_go (B := s₁.setTop (mkF m 87 #[.val (.int p0)] [(.int (44 : Int32)), (.int p0)])) (fun t_ k_ => ?_) ?_
                  · show Steps p.tables e below (s₁.setTop (mkF m 81 #[.val (.int p0)] [(.int (46 : Int32)), (.int p0)])) _
                    refine XS.icmpNo X0.here hx rfl (hb hby d1_81) rfl (feq hc81).1 ?_
                    show Steps p.tables e below (s₁.setTop (mkF m 84 #[.val (.int p0)] [])) _
                    refine XS.iloadN X0.here hx rfl (hb hby d1_84) rfl ?_
                    show Steps p.tables e below (s₁.setTop (mkF m 85 #[.val (.int p0)] [(.int p0)])) _
                    refine XS.bipush X0.here hx rfl (hb hby d1_85) ?_
                    show Steps p.tables e below (s₁.setTop (mkF m 87 #[.val (.int p0)] [(.int (44 : Int32)), (.int p0)])) _
                    exact k_
                  by_cases hc87 : p0 = (44 : Int32)
                  · refine own_go (B := s₁.setTop (mkF m 113 #[.val (.int p0)] [(.int (1 : Int32))])) (fun t_ k_ => ?_) ?_
                    · show Steps p.tables e below (s₁.setTop (mkF m 87 #[.val (.int p0)] [(.int (44 : Int32)), (.int p0)])) _
                      refine XS.icmpYes X0.here hx rfl (pc0 := 87) (pc' := 108) rfl (hb hby d1_87) rfl (teq hc87).1 (by decide) (by decide) ?_
                      show Steps p.tables e below (s₁.setTop (mkF m 108 #[.val (.int p0)] [])) _
                      refine XS.iconst X0.here hx rfl (hb hby d1_108) ?_
                      show Steps p.tables e below (s₁.setTop (mkF m 109 #[.val (.int p0)] [(.int (1 : Int32))])) _
                      refine XS.goto X0.here hx rfl (pc0 := 109) (pc' := 113) rfl (hb hby d1_109) (by decide) (by decide) ?_
                      show Steps p.tables e below (s₁.setTop (mkF m 113 #[.val (.int p0)] [(.int (1 : Int32))])) _
                      exact k_
                    obtain ⟨fs, hr, hrun, hended, hW, hsame⟩ := X0.leave (v := some (.int (1 : Int32))) (fun h => by rw [Bd.returns] at h; cases h)
                    refine own_at ?_ (hG _ _ ⟨hrun, hended, _, _, rfl, ?_, ⟨_, rfl⟩, hW, hsame.mono (by decide) (by decide)⟩)
                    · show Steps p.tables e below (s₁.setTop (mkF m 113 #[.val (.int p0)] [(.int (1 : Int32))])) _
                      exact retN X0 hx (t := .boolean) Bd.returns (by simp) (hb hby d1_113) hr
                    · show Q1 Z p0 h0 n0 _ s₁.heap _
                      rw [e0]
                      exact ⟨by unfold own_isl; rw [if_pos (Or.inr (Or.inr (Or.inr (Or.inr (Or.inr (Or.inr (Or.inr (Or.inr (Or.inr (Or.inr (Or.inl hc87)))))))))))], N0, rfl⟩
                  · refine own_go (B := s₁.setTop (mkF m 93 #[.val (.int p0)] [(.int (39 : Int32)), (.int p0)])) (fun t_ k_ => ?_) ?_
                    · show Steps p.tables e below (s₁.setTop (mkF m 87 #[.val (.int p0)] [(.int (44 : Int32)), (.int p0)])) _
                      refine XS.icmpNo X0.here hx rfl (hb hby d1_87) rfl (feq hc87).1 ?_
                      show Steps p.tables e below (s₁.setTop (mkF m 90 #[.val (.int p0)] [])) _
                      refine XS.iloadN X0.here hx rfl (hb hby d1_90) rfl ?_
                      show Steps p.tables e below (s₁.setTop (mkF m 91 #[.val (.int p0)] [(.int p0)])) _
                      refine XS.bipush X0.here hx rfl (hb hby d1_91) ?_
                      show Steps p.tables e below (s₁.setTop (mkF m 93 #[.val (.int p0)] [(.int (39 : Int32)), (.int p0)])) _
                      exact k_
                    by_cases hc93 : p0 = (39 : Int32)
                    · refine own_go (B := s₁.setTop (mkF m 113 #[.val (.int p0)] [(.int (1 : Int32))])) (fun t_ k_ => ?_) ?_
                      · show Steps p.tables e below (s₁.setTop (mkF m 93 #[.val (.int p0)] [(.int (39 : Int32)), (.int p0)])) _
                        refine XS.icmpYes X0.here hx rfl (pc0 := 93) (pc' := 108) rfl (hb hby d1_93) rfl (teq hc93).1 (by decide) (by decide) ?_
                        show Steps p.tables e below (s₁.setTop (mkF m 108 #[.val (.int p0)] [])) _
                        refine XS.iconst X0.here hx rfl (hb hby d1_108) ?_
                        show Steps p.tables e below (s₁.setTop (mkF m 109 #[.val (.int p0)] [(.int (1 : Int32))])) _
                        refine XS.goto X0.here hx rfl (pc0 := 109) (pc' := 113) rfl (hb hby d1_109) (by decide) (by decide) ?_
                        show Steps p.tables e below (s₁.setTop (mkF m 113 #[.val (.int p0)] [(.int (1 : Int32))])) _
                        exact k_
                      obtain ⟨fs, hr, hrun, hended, hW, hsame⟩ := X0.leave (v := some (.int (1 : Int32))) (fun h => by rw [Bd.returns] at h; cases h)
                      refine own_at ?_ (hG _ _ ⟨hrun, hended, _, _, rfl, ?_, ⟨_, rfl⟩, hW, hsame.mono (by decide) (by decide)⟩)
                      · show Steps p.tables e below (s₁.setTop (mkF m 113 #[.val (.int p0)] [(.int (1 : Int32))])) _
                        exact retN X0 hx (t := .boolean) Bd.returns (by simp) (hb hby d1_113) hr
                      · show Q1 Z p0 h0 n0 _ s₁.heap _
                        rw [e0]
                        exact ⟨by unfold own_isl; rw [if_pos (Or.inr (Or.inr (Or.inr (Or.inr (Or.inr (Or.inr (Or.inr (Or.inr (Or.inr (Or.inr (Or.inr (Or.inl hc93))))))))))))], N0, rfl⟩
                    · refine own_go (B := s₁.setTop (mkF m 99 #[.val (.int p0)] [(.int (43 : Int32)), (.int p0)])) (fun t_ k_ => ?_) ?_
                      · show Steps p.tables e below (s₁.setTop (mkF m 93 #[.val (.int p0)] [(.int (39 : Int32)), (.int p0)])) _
                        refine XS.icmpNo X0.here hx rfl (hb hby d1_93) rfl (feq hc93).1 ?_
                        show Steps p.tables e below (s₁.setTop (mkF m 96 #[.val (.int p0)] [])) _
                        refine XS.iloadN X0.here hx rfl (hb hby d1_96) rfl ?_
                        show Steps p.tables e below (s₁.setTop (mkF m 97 #[.val (.int p0)] [(.int p0)])) _
                        refine XS.bipush X0.here hx rfl (hb hby d1_97) ?_
                        show Steps p.tables e below (s₁.setTop (mkF m 99 #[.val (.int p0)] [(.int (43 : Int32)), (.int p0)])) _
                        exact k_
                      by_cases hc99 : p0 = (43 : Int32)
                      · refine own_go (B := s₁.setTop (mkF m 113 #[.val (.int p0)] [(.int (1 : Int32))])) (fun t_ k_ => ?_) ?_
                        · show Steps p.tables e below (s₁.setTop (mkF m 99 #[.val (.int p0)] [(.int (43 : Int32)), (.int p0)])) _
                          refine XS.icmpYes X0.here hx rfl (pc0 := 99) (pc' := 108) rfl (hb hby d1_99) rfl (teq hc99).1 (by decide) (by decide) ?_
                          show Steps p.tables e below (s₁.setTop (mkF m 108 #[.val (.int p0)] [])) _
                          refine XS.iconst X0.here hx rfl (hb hby d1_108) ?_
                          show Steps p.tables e below (s₁.setTop (mkF m 109 #[.val (.int p0)] [(.int (1 : Int32))])) _
                          refine XS.goto X0.here hx rfl (pc0 := 109) (pc' := 113) rfl (hb hby d1_109) (by decide) (by decide) ?_
                          show Steps p.tables e below (s₁.setTop (mkF m 113 #[.val (.int p0)] [(.int (1 : Int32))])) _
                          exact k_
                        obtain ⟨fs, hr, hrun, hended, hW, hsame⟩ := X0.leave (v := some (.int (1 : Int32))) (fun h => by rw [Bd.returns] at h; cases h)
                        refine own_at ?_ (hG _ _ ⟨hrun, hended, _, _, rfl, ?_, ⟨_, rfl⟩, hW, hsame.mono (by decide) (by decide)⟩)
                        · show Steps p.tables e below (s₁.setTop (mkF m 113 #[.val (.int p0)] [(.int (1 : Int32))])) _
                          exact retN X0 hx (t := .boolean) Bd.returns (by simp) (hb hby d1_113) hr
                        · show Q1 Z p0 h0 n0 _ s₁.heap _
                          rw [e0]
                          exact ⟨by unfold own_isl; rw [if_pos (Or.inr (Or.inr (Or.inr (Or.inr (Or.inr (Or.inr (Or.inr (Or.inr (Or.inr (Or.inr (Or.inr (Or.inr (Or.inl hc99)))))))))))))], N0, rfl⟩
                      · refine own_go (B := s₁.setTop (mkF m 105 #[.val (.int p0)] [(.int (32 : Int32)), (.int p0)])) (fun t_ k_ => ?_) ?_
                        · show Steps p.tables e below (s₁.setTop (mkF m 99 #[.val (.int p0)] [(.int (43 : Int32)), (.int p0)])) _
                          refine XS.icmpNo X0.here hx rfl (hb hby d1_99) rfl (feq hc99).1 ?_
                          show Steps p.tables e below (s₁.setTop (mkF m 102 #[.val (.int p0)] [])) _
                          refine XS.iloadN X0.here hx rfl (hb hby d1_102) rfl ?_
                          show Steps p.tables e below (s₁.setTop (mkF m 103 #[.val (.int p0)] [(.int p0)])) _
                          refine XS.bipush X0.here hx rfl (hb hby d1_103) ?_
                          show Steps p.tables e below (s₁.setTop (mkF m 105 #[.val (.int p0)] [(.int (32 : Int32)), (.int p0)])) _
                          exact k_
                        by_cases hc105 : p0 = (32 : Int32)
                        · refine own_go (B := s₁.setTop (mkF m 113 #[.val (.int p0)] [(.int (1 : Int32))])) (fun t_ k_ => ?_) ?_
                          · show Steps p.tables e below (s₁.setTop (mkF m 105 #[.val (.int p0)] [(.int (32 : Int32)), (.int p0)])) _
                            refine XS.icmpNo X0.here hx rfl (hb hby d1_105) rfl (teq hc105).2 ?_
                            show Steps p.tables e below (s₁.setTop (mkF m 108 #[.val (.int p0)] [])) _
                            refine XS.iconst X0.here hx rfl (hb hby d1_108) ?_
                            show Steps p.tables e below (s₁.setTop (mkF m 109 #[.val (.int p0)] [(.int (1 : Int32))])) _
                            refine XS.goto X0.here hx rfl (pc0 := 109) (pc' := 113) rfl (hb hby d1_109) (by decide) (by decide) ?_
                            show Steps p.tables e below (s₁.setTop (mkF m 113 #[.val (.int p0)] [(.int (1 : Int32))])) _
                            exact k_
                          obtain ⟨fs, hr, hrun, hended, hW, hsame⟩ := X0.leave (v := some (.int (1 : Int32))) (fun h => by rw [Bd.returns] at h; cases h)
                          refine own_at ?_ (hG _ _ ⟨hrun, hended, _, _, rfl, ?_, ⟨_, rfl⟩, hW, hsame.mono (by decide) (by decide)⟩)
                          · show Steps p.tables e below (s₁.setTop (mkF m 113 #[.val (.int p0)] [(.int (1 : Int32))])) _
                            exact retN X0 hx (t := .boolean) Bd.returns (by simp) (hb hby d1_113) hr
                          · show Q1 Z p0 h0 n0 _ s₁.heap _
                            rw [e0]
                            exact ⟨by unfold own_isl; rw [if_pos (Or.inr (Or.inr (Or.inr (Or.inr (Or.inr (Or.inr (Or.inr (Or.inr (Or.inr (Or.inr (Or.inr (Or.inr (Or.inr hc105)))))))))))))], N0, rfl⟩
                        · refine own_go (B := s₁.setTop (mkF m 113 #[.val (.int p0)] [(.int (0 : Int32))])) (fun t_ k_ => ?_) ?_
                          · show Steps p.tables e below (s₁.setTop (mkF m 105 #[.val (.int p0)] [(.int (32 : Int32)), (.int p0)])) _
                            refine XS.icmpYes X0.here hx rfl (pc0 := 105) (pc' := 112) rfl (hb hby d1_105) rfl (feq hc105).2 (by decide) (by decide) ?_
                            show Steps p.tables e below (s₁.setTop (mkF m 112 #[.val (.int p0)] [])) _
                            refine XS.iconst X0.here hx rfl (hb hby d1_112) ?_
                            show Steps p.tables e below (s₁.setTop (mkF m 113 #[.val (.int p0)] [(.int (0 : Int32))])) _
                            exact k_
                          obtain ⟨fs, hr, hrun, hended, hW, hsame⟩ := X0.leave (v := some (.int (0 : Int32))) (fun h => by rw [Bd.returns] at h; cases h)
                          refine own_at ?_ (hG _ _ ⟨hrun, hended, _, _, rfl, ?_, ⟨_, rfl⟩, hW, hsame.mono (by decide) (by decide)⟩)
                          · show Steps p.tables e below (s₁.setTop (mkF m 113 #[.val (.int p0)] [(.int (0 : Int32))])) _
                            exact retN X0 hx (t := .boolean) Bd.returns (by simp) (hb hby d1_113) hr
                          · show Q1 Z p0 h0 n0 _ s₁.heap _
                            rw [e0]
                            refine ⟨?_, N0, rfl⟩
                            unfold own_isl
                            rw [if_neg]
                            rintro (q | q | q | q | q | q | q | q | q | q | q | q | q | q)
                            · exact nl0 q
                            · exact nl1 q
                            · exact nl2 q
                            · exact hc45 q
                            · exact hc51 q
                            · exact hc57 q
                            · exact hc63 q
                            · exact hc69 q
                            · exact hc75 q
                            · exact hc81 q
                            · exact hc87 q
                            · exact hc93 q
                            · exact hc99 q
                            · exact hc105 q
  have K28 : ¬ (¬ p0 < 97 ∧ ¬ 122 < p0) → ¬ (¬ p0 < 65 ∧ ¬ 90 < p0) → own_R p.tables e below G (s₁.setTop (mkF m 28 #[.val (.int p0)] [])) := by
    intro nl0 nl1
    refine own_go (B := s₁.setTop (mkF m 31 #[.val (.int p0)] [(.int (48 : Int32)), (.int p0)])) (fun t_ k_ => ?_) ?_
    · show Steps p.tables e below (s₁.setTop (mkF m 28 #[.val (.int p0)] [])) _
      refine XS.iloadN X0.here hx rfl (hb hby d1_28) rfl ?_
      show Steps p.tables e below (s₁.setTop (mkF m 29 #[.val (.int p0)] [(.int p0)])) _
      refine XS.bipush X0.here hx rfl (hb hby d1_29) ?_
      show Steps p.tables e below (s₁.setTop (mkF m 31 #[.val (.int p0)] [(.int (48 : Int32)), (.int p0)])) _
      exact k_
    by_cases hc31 : p0 < (48 : Int32)
    · refine own_go (B := s₁.setTop (mkF m 42 #[.val (.int p0)] [])) (fun t_ k_ => ?_) ?_
      · show Steps p.tables e below (s₁.setTop (mkF m 31 #[.val (.int p0)] [(.int (48 : Int32)), (.int p0)])) _
        refine XS.icmpYes X0.here hx rfl (pc0 := 31) (pc' := 42) rfl (hb hby d1_31) rfl (tlt hc31).1 (by decide) (by decide) ?_
        show Steps p.tables e below (s₁.setTop (mkF m 42 #[.val (.int p0)] [])) _
        exact k_
      exact K42 nl0 nl1 (fun q => q.1 hc31)
    · refine own_go (B := s₁.setTop (mkF m 37 #[.val (.int p0)] [(.int (57 : Int32)), (.int p0)])) (fun t_ k_ => ?_) ?_
      · show Steps p.tables e below (s₁.setTop (mkF m 31 #[.val (.int p0)] [(.int (48 : Int32)), (.int p0)])) _
        refine XS.icmpNo X0.here hx rfl (hb hby d1_31) rfl (flt hc31).1 ?_
        show Steps p.tables e below (s₁.setTop (mkF m 34 #[.val (.int p0)] [])) _
        refine XS.iloadN X0.here hx rfl (hb hby d1_34) rfl ?_
        show Steps p.tables e below (s₁.setTop (mkF m 35 #[.val (.int p0)] [(.int p0)])) _
        refine XS.bipush X0.here hx rfl (hb hby d1_35) ?_
        show Steps p.tables e below (s₁.setTop (mkF m 37 #[.val (.int p0)] [(.int (57 : Int32)), (.int p0)])) _
        exact k_
      by_cases hc37 : (57 : Int32) < p0
      · refine own_go (B := s₁.setTop (mkF m 42 #[.val (.int p0)] [])) (fun t_ k_ => ?_) ?_
        · show Steps p.tables e below (s₁.setTop (mkF m 37 #[.val (.int p0)] [(.int (57 : Int32)), (.int p0)])) _
          refine XS.icmpYes X0.here hx rfl (pc0 := 37) (pc' := 42) rfl (hb hby d1_37) rfl (tlt hc37).2.2.1 (by decide) (by decide) ?_
          show Steps p.tables e below (s₁.setTop (mkF m 42 #[.val (.int p0)] [])) _
          exact k_
        exact K42 nl0 nl1 (fun q => q.2 hc37)
      · refine own_go (B := s₁.setTop (mkF m 41 #[.val (.int p0)] [(.int (1 : Int32))])) (fun t_ k_ => ?_) ?_
        · show Steps p.tables e below (s₁.setTop (mkF m 37 #[.val (.int p0)] [(.int (57 : Int32)), (.int p0)])) _
          refine XS.icmpNo X0.here hx rfl (hb hby d1_37) rfl (flt hc37).2.2.1 ?_
          show Steps p.tables e below (s₁.setTop (mkF m 40 #[.val (.int p0)] [])) _
          refine XS.iconst X0.here hx rfl (hb hby d1_40) ?_
          show Steps p.tables e below (s₁.setTop (mkF m 41 #[.val (.int p0)] [(.int (1 : Int32))])) _
          exact k_
        obtain ⟨fs, hr, hrun, hended, hW, hsame⟩ := X0.leave (v := some (.int (1 : Int32))) (fun h => by rw [Bd.returns] at h; cases h)
        refine own_at ?_ (hG _ _ ⟨hrun, hended, _, _, rfl, ?_, ⟨_, rfl⟩, hW, hsame.mono (by decide) (by decide)⟩)
        · show Steps p.tables e below (s₁.setTop (mkF m 41 #[.val (.int p0)] [(.int (1 : Int32))])) _
          exact retN X0 hx (t := .boolean) Bd.returns (by simp) (hb hby d1_41) hr
        · show Q1 Z p0 h0 n0 _ s₁.heap _
          rw [e0]
          exact ⟨by unfold own_isl; rw [if_pos (Or.inr (Or.inr (Or.inl ⟨hc31, hc37⟩)))], N0, rfl⟩
  have K14 : ¬ (¬ p0 < 97 ∧ ¬ 122 < p0) → own_R p.tables e below G (s₁.setTop (mkF m 14 #[.val (.int p0)] [])) := by
    intro nl0
    refine own_go (B := s₁.setTop (mkF m 17 #[.val (.int p0)] [(.int (65 : Int32)), (.int p0)])) (fun t_ k_ => ?_) ?_
    · show Steps p.tables e below (s₁.setTop (mkF m 14 #[.val (.int p0)] [])) _
      refine XS.iloadN X0.here hx rfl (hb hby d1_14) rfl ?_
      show Steps p.tables e below (s₁.setTop (mkF m 15 #[.val (.int p0)] [(.int p0)])) _
      refine XS.bipush X0.here hx rfl (hb hby d1_15) ?_
      show Steps p.tables e below (s₁.setTop (mkF m 17 #[.val (.int p0)] [(.int (65 : Int32)), (.int p0)])) _
      exact k_
    by_cases hc17 : p0 < (65 : Int32)
    · refine own_go (B := s₁.setTop (mkF m 28 #[.val (.int p0)] [])) (fun t_ k_ => ?_) ?_
      · show Steps p.tables e below (s₁.setTop (mkF m 17 #[.val (.int p0)] [(.int (65 : Int32)), (.int p0)])) _
        refine XS.icmpYes X0.here hx rfl (pc0 := 17) (pc' := 28) rfl (hb hby d1_17) rfl (tlt hc17).1 (by decide) (by decide) ?_
        show Steps p.tables e below (s₁.setTop (mkF m 28 #[.val (.int p0)] [])) _
        exact k_
      exact K28 nl0 (fun q => q.1 hc17)
    · refine own_go (B := s₁.setTop (mkF m 23 #[.val (.int p0)] [(.int (90 : Int32)), (.int p0)])) (fun t_ k_ => ?_) ?_
      · show Steps p.tables e below (s₁.setTop (mkF m 17 #[.val (.int p0)] [(.int (65 : Int32)), (.int p0)])) _
        refine XS.icmpNo X0.here hx rfl (hb hby d1_17) rfl (flt hc17).1 ?_
        show Steps p.tables e below (s₁.setTop (mkF m 20 #[.val (.int p0)] [])) _
        refine XS.iloadN X0.here hx rfl (hb hby d1_20) rfl ?_
        show Steps p.tables e below (s₁.setTop (mkF m 21 #[.val (.int p0)] [(.int p0)])) _
        refine XS.bipush X0.here hx rfl (hb hby d1_21) ?_
        show Steps p.tables e below (s₁.setTop (mkF m 23 #[.val (.int p0)] [(.int (90 : Int32)), (.int p0)])) _
        exact k_
      by_cases hc23 : (90 : Int32) < p0
      · refine own_go (B := s₁.setTop (mkF m 28 #[.val (.int p0)] [])) (fun t_ k_ => ?_) ?_
        · show Steps p.tables e below (s₁.setTop (mkF m 23 #[.val (.int p0)] [(.int (90 : Int32)), (.int p0)])) _
          refine XS.icmpYes X0.here hx rfl (pc0 := 23) (pc' := 28) rfl (hb hby d1_23) rfl (tlt hc23).2.2.1 (by decide) (by decide) ?_
          show Steps p.tables e below (s₁.setTop (mkF m 28 #[.val (.int p0)] [])) _
          exact k_
        exact K28 nl0 (fun q => q.2 hc23)
      · refine own_go (B := s₁.setTop (mkF m 27 #[.val (.int p0)] [(.int (1 : Int32))])) (fun t_ k_ => ?_) ?_
        · show Steps p.tables e below (s₁.setTop (mkF m 23 #[.val (.int p0)] [(.int (90 : Int32)), (.int p0)])) _
          refine XS.icmpNo X0.here hx rfl (hb hby d1_23) rfl (flt hc23).2.2.1 ?_
          show Steps p.tables e below (s₁.setTop (mkF m 26 #[.val (.int p0)] [])) _
          refine XS.iconst X0.here hx rfl (hb hby d1_26) ?_
          show Steps p.tables e below (s₁.setTop (mkF m 27 #[.val (.int p0)] [(.int (1 : Int32))])) _
          exact k_
        obtain ⟨fs, hr, hrun, hended, hW, hsame⟩ := X0.leave (v := some (.int (1 : Int32))) (fun h => by rw [Bd.returns] at h; cases h)
        refine own_at ?_ (hG _ _ ⟨hrun, hended, _, _, rfl, ?_, ⟨_, rfl⟩, hW, hsame.mono (by decide) (by decide)⟩)
        · show Steps p.tables e below (s₁.setTop (mkF m 27 #[.val (.int p0)] [(.int (1 : Int32))])) _
          exact retN X0 hx (t := .boolean) Bd.returns (by simp) (hb hby d1_27) hr
        · show Q1 Z p0 h0 n0 _ s₁.heap _
          rw [e0]
          exact ⟨by unfold own_isl; rw [if_pos (Or.inr (Or.inl ⟨hc17, hc23⟩))], N0, rfl⟩
  refine own_go (B := s₁.setTop (mkF m 3 #[.val (.int p0)] [(.int (97 : Int32)), (.int p0)])) (fun t_ k_ => ?_) ?_
  · show Steps p.tables e below (s₁.setTop (mkF m 0 #[.val (.int p0)] [])) _
    refine XS.iloadN X0.here hx rfl (hb hby d1_0) rfl ?_
    show Steps p.tables e below (s₁.setTop (mkF m 1 #[.val (.int p0)] [(.int p0)])) _
    refine XS.bipush X0.here hx rfl (hb hby d1_1) ?_
    show Steps p.tables e below (s₁.setTop (mkF m 3 #[.val (.int p0)] [(.int (97 : Int32)), (.int p0)])) _
    exact k_
  by_cases hc3 : p0 < (97 : Int32)
  · refine own_go (B := s₁.setTop (mkF m 14 #[.val (.int p0)] [])) (fun t_ k_ => ?_) ?_
    · show Steps p.tables e below (s₁.setTop (mkF m 3 #[.val (.int p0)] [(.int (97 : Int32)), (.int p0)])) _
      refine XS.icmpYes X0.here hx rfl (pc0 := 3) (pc' := 14) rfl (hb hby d1_3) rfl (tlt hc3).1 (by decide) (by decide) ?_
      show Steps p.tables e below (s₁.setTop (mkF m 14 #[.val (.int p0)] [])) _
      exact k_
    exact K14 (fun q => q.1 hc3)
  · refine own_go (B := s₁.setTop (mkF m 9 #[.val (.int p0)] [(.int (122 : Int32)), (.int p0)])) (fun t_ k_ => ?_) ?_
    · show Steps p.tables e below (s₁.setTop (mkF m 3 #[.val (.int p0)] [(.int (97 : Int32)), (.int p0)])) _
      refine XS.icmpNo X0.here hx rfl (hb hby d1_3) rfl (flt hc3).1 ?_
      show Steps p.tables e below (s₁.setTop (mkF m 6 #[.val (.int p0)] [])) _
      refine XS.iloadN X0.here hx rfl (hb hby d1_6) rfl ?_
      show Steps p.tables e below (s₁.setTop (mkF m 7 #[.val (.int p0)] [(.int p0)])) _
      refine XS.bipush X0.here hx rfl (hb hby d1_7) ?_
      show Steps p.tables e below (s₁.setTop (mkF m 9 #[.val (.int p0)] [(.int (122 : Int32)), (.int p0)])) _
      exact k_
    by_cases hc9 : (122 : Int32) < p0
    · refine own_go (B := s₁.setTop (mkF m 14 #[.val (.int p0)] [])) (fun t_ k_ => ?_) ?_
      · show Steps p.tables e below (s₁.setTop (mkF m 9 #[.val (.int p0)] [(.int (122 : Int32)), (.int p0)])) _
        refine XS.icmpYes X0.here hx rfl (pc0 := 9) (pc' := 14) rfl (hb hby d1_9) rfl (tlt hc9).2.2.1 (by decide) (by decide) ?_
        show Steps p.tables e below (s₁.setTop (mkF m 14 #[.val (.int p0)] [])) _
        exact k_
      exact K14 (fun q => q.2 hc9)
    · refine own_go (B := s₁.setTop (mkF m 13 #[.val (.int p0)] [(.int (1 : Int32))])) (fun t_ k_ => ?_) ?_
      · show Steps p.tables e below (s₁.setTop (mkF m 9 #[.val (.int p0)] [(.int (122 : Int32)), (.int p0)])) _
        refine XS.icmpNo X0.here hx rfl (hb hby d1_9) rfl (flt hc9).2.2.1 ?_
        show Steps p.tables e below (s₁.setTop (mkF m 12 #[.val (.int p0)] [])) _
        refine XS.iconst X0.here hx rfl (hb hby d1_12) ?_
        show Steps p.tables e below (s₁.setTop (mkF m 13 #[.val (.int p0)] [(.int (1 : Int32))])) _
        exact k_
      obtain ⟨fs, hr, hrun, hended, hW, hsame⟩ := X0.leave (v := some (.int (1 : Int32))) (fun h => by rw [Bd.returns] at h; cases h)
      refine own_at ?_ (hG _ _ ⟨hrun, hended, _, _, rfl, ?_, ⟨_, rfl⟩, hW, hsame.mono (by decide) (by decide)⟩)
      · show Steps p.tables e below (s₁.setTop (mkF m 13 #[.val (.int p0)] [(.int (1 : Int32))])) _
        exact retN X0 hx (t := .boolean) Bd.returns (by simp) (hb hby d1_13) hr
      · show Q1 Z p0 h0 n0 _ s₁.heap _
        rw [e0]
        exact ⟨by unfold own_isl; rw [if_pos (Or.inl ⟨hc3, hc9⟩)], N0, rfl⟩
theorem d2_0 : decode prog_166_method_6_code 0 = .ok (.aload_n 0, 1) := by decide +kernel
theorem d2_1 : decode prog_166_method_6_code 1 = .ok (.getstatic 7, 3) := by decide +kernel
theorem d2_4 : decode prog_166_method_6_code 4 = .ok (.if_acmp .eq 19, 3) := by decide +kernel
theorem d2_7 : decode prog_166_method_6_code 7 = .ok (.iload_n 1, 1) := by decide +kernel
theorem d2_8 : decode prog_166_method_6_code 8 = .ok (.getstatic 47, 3) := by decide +kernel
theorem d2_11 : decode prog_166_method_6_code 11 = .ok (.arraylength, 1) := by decide +kernel
theorem d2_12 : decode prog_166_method_6_code 12 = .ok (.if_icmp .ge 15, 3) := by decide +kernel
theorem d2_15 : decode prog_166_method_6_code 15 = .ok (.getstatic 47, 3) := by decide +kernel
theorem d2_18 : decode prog_166_method_6_code 18 = .ok (.iload_n 1, 1) := by decide +kernel
theorem d2_19 : decode prog_166_method_6_code 19 = .ok (.baload, 1) := by decide +kernel
theorem d2_20 : decode prog_166_method_6_code 20 = .ok (.ifCond .eq 7, 3) := by decide +kernel
theorem d2_23 : decode prog_166_method_6_code 23 = .ok (.iconst 1, 1) := by decide +kernel
theorem d2_24 : decode prog_166_method_6_code 24 = .ok (.goto 4, 3) := by decide +kernel
theorem d2_27 : decode prog_166_method_6_code 27 = .ok (.iconst 0, 1) := by decide +kernel
theorem d2_28 : decode prog_166_method_6_code 28 = .ok (.ireturn, 1) := by decide +kernel
theorem pn_2 : plainName "com/example/lastschrift/lastschrift/rules/CharacterSet" = true := by first | (simp [plainName, overriddenIn]; done) | decide +kernel
theorem ef_rmU (m : MethodId) (x0 : Addr) (x1 : Int32) : entryFrame m #[(.ref x0), (.int x1)] 2 = mkF m 0 #[.val (.ref x0), .val (.int x1)] [] := by first | (simp [entryFrame, mkF, argsToLocals, Value.category]; done) | rfl
def QU (Z : State) (r0 : Addr) (p1 : Int32) (h0 : Heap) (n0 : Nat) (v : Option Value) (h : Heap) (L : List Loc) : Prop := v = some (.int 1) ∧ Fr n0 L ∧ h = h0
set_option maxRecDepth 65536 in
set_option maxHeartbeats 40000000 in
theorem rmU (l : Launch) (Z : State) (a0 : Array Value) (hw : ∀ d ∈ tables_1, d.before a0 Z = true) (ws : List Jvm.Cond) (r0 : Addr) (p1 : Int32) (h0 : Heap) (n0 : Nat) (Z0 : n0 ≤ h0.size) (O0 : Old Z n0 h0) (S0 : Sta Z Z.heap "com/example/lastschrift/lastschrift/rules/CharacterSet" "UTF8" "Lcom/example/lastschrift/lastschrift/rules/CharacterSet;" (.ref r0)) :
    MetFree l (⟨"com/example/lastschrift/lastschrift/rules/CharacterSet", "contains", "(I)Z"⟩ : MethodName) (head1 (Jvm.Cond.code (⟨"com/example/lastschrift/lastschrift/rules/CharacterSet", "contains", "(I)Z"⟩ : MethodName) prog_166_method_6_code 2 (some .boolean) :: ws) ({ frames := 0, cells := 0, slots := 0, locals := 0 } : Room)) (fun a U => a = #[(.ref r0), (.int p1)] ∧ Z.Warmed39 U.vm ∧ U.heap = h0) (fun _ _ _ _ _ => True) (fun _ U o U' => ∃ v L, o = .returned v ∧ QU Z r0 p1 h0 n0 v U'.heap L ∧ FrameEnd U o U' L ({ frames := 0, cells := 0, slots := 0, locals := 0 } : Room).cells ({ frames := 0, cells := 0, slots := 0, locals := 0 } : Room).slots) := by
  refine MetFree.of_bodySF (plainFor_of_name pn_2) hisR ?_
  intro p e s m args below meth c s₁ Bd hml0 hP hK
  obtain ⟨rfl, hZ, hh⟩ := hP
  have hx := Bd.exec
  have hby := Bd.bytes
  have hml : c.maxLocals = 2 := hml0
  have hown : s.vm.findClass "com/example/lastschrift/lastschrift/rules/CharacterSet" = some m.cls := findClass_of_methodNamed Bd.named
  have hnm := (name_of_methodNamed Bd.named Bd.method).1
  have X0 : Stand p l e ({ frames := 0, cells := 0, slots := 0, locals := 0 } : Room) s m #[(.ref r0), (.int p1)] below meth c s₁ [] 0 0 := Stand.of_body Bd
  have e0 : s₁.heap = h0 := by rw [← hh, Bd.state]; rfl
  have N0 := Fr.nil n0
  refine own_open fun G hG => ?_
  refine own_go (B := s₁.setTop (mkF m 0 #[.val (.ref r0), .val (.int p1)] [])) (fun t_ k_ => castTop (ef_rmU m r0 p1) k_) ?_
  refine own_go (B := s₁.setTop (mkF m 1 #[.val (.ref r0), .val (.int p1)] [(.ref r0)])) (fun t_ k_ => ?_) ?_
  · show Steps p.tables e below (s₁.setTop (mkF m 0 #[.val (.ref r0), .val (.int p1)] [])) _
    refine XS.aloadN X0.here hx rfl (hb hby d2_0) rfl rfl ?_
    show Steps p.tables e below (s₁.setTop (mkF m 1 #[.val (.ref r0), .val (.int p1)] [(.ref r0)])) _
    exact k_
  obtain ⟨T16, X16, e16, st16⟩ := getS2 X0 hx hZ hown (host := "") (Or.inl (hw _ (List.mem_of_getElem? (i := 12) rfl))) Via.refl e0 (S0.ext O0.2) (g := (mkF m 1 #[.val (.ref r0), .val (.int p1)] [(.ref r0)])) rfl (hb hby d2_1)
  refine own_go (B := T16.setTop (mkF m 4 #[.val (.ref r0), .val (.int p1)] [(.ref r0), (.ref r0)])) (fun t_ k_ => st16 _ k_) ?_
  refine own_go (B := T16.setTop (mkF m 28 #[.val (.ref r0), .val (.int p1)] [(.int (1 : Int32))])) (fun t_ k_ => ?_) ?_
  · show Steps p.tables e below (T16.setTop (mkF m 4 #[.val (.ref r0), .val (.int p1)] [(.ref r0), (.ref r0)])) _
    refine Jvm.RoadKit.acmp (g := (mkF m 4 #[.val (.ref r0), .val (.int p1)] [(.ref r0), (.ref r0)])) X16 hx rfl rfl rfl (pc0 := 4) (pc' := 23) (same := true) rfl (hb hby d2_4) rfl (decide_eq_true rfl) (by decide) (by decide) ?_
    show Steps p.tables e below (T16.setTop (mkF m 23 #[.val (.ref r0), .val (.int p1)] [])) _
    refine XS.iconst X16.here hx rfl (hb hby d2_23) ?_
    show Steps p.tables e below (T16.setTop (mkF m 24 #[.val (.ref r0), .val (.int p1)] [(.int (1 : Int32))])) _
    refine XS.goto X16.here hx rfl (pc0 := 24) (pc' := 28) rfl (hb hby d2_24) (by decide) (by decide) ?_
    show Steps p.tables e below (T16.setTop (mkF m 28 #[.val (.ref r0), .val (.int p1)] [(.int (1 : Int32))])) _
    exact k_
  obtain ⟨fs, hr, hrun, hended, hW, hsame⟩ := X16.leave (v := some (.int (1 : Int32))) (fun h => by rw [Bd.returns] at h; cases h)
  refine own_at ?_ (hG _ _ ⟨hrun, hended, _, _, rfl, ?_, ⟨_, rfl⟩, hW, hsame.mono (by decide) (by decide)⟩)
  · show Steps p.tables e below (T16.setTop (mkF m 28 #[.val (.ref r0), .val (.int p1)] [(.int (1 : Int32))])) _
    exact retN X16 hx (t := .boolean) Bd.returns (by simp) (hb hby d2_28) hr
  · show QU Z r0 p1 h0 n0 _ T16.heap _
    rw [e16]
    exact ⟨rfl, N0, rfl⟩
theorem ef_rmL (m : MethodId) (x0 : Addr) (x1 : Int32) : entryFrame m #[(.ref x0), (.int x1)] 2 = mkF m 0 #[.val (.ref x0), .val (.int x1)] [] := by first | (simp [entryFrame, mkF, argsToLocals, Value.category]; done) | rfl
def QL (Z : State) (r0 : Addr) (p1 : Int32) (wU : Addr) (wT : Addr) (cl : Cell) (h0 : Heap) (n0 : Nat) (v : Option Value) (h : Heap) (L : List Loc) : Prop := v = some (.int (own_isl p1)) ∧ Fr n0 L ∧ h = h0
set_option maxRecDepth 65536 in
set_option maxHeartbeats 40000000 in
theorem rmL (l : Launch) (Z : State) (a0 : Array Value) (hw : ∀ d ∈ tables_1, d.before a0 Z = true) (ws : List Jvm.Cond) (r0 : Addr) (p1 : Int32) (wU : Addr) (wT : Addr) (cl : Cell) (h0 : Heap) (n0 : Nat) (Z0 : n0 ≤ h0.size) (O0 : Old Z n0 h0) (SU : Sta Z Z.heap "com/example/lastschrift/lastschrift/rules/CharacterSet" "UTF8" "Lcom/example/lastschrift/lastschrift/rules/CharacterSet;" (.ref wU)) (ST : Sta Z Z.heap "com/example/lastschrift/lastschrift/rules/CharacterSet" "IN_LATIN" "[Z" (.ref wT)) (Ar : Arr Z Z.heap wT cl .boolean) (hsz : cl.slots.size = (128 : Int32).toNatClampNeg) (htab : ∀ j : Int32, ¬ j < 0 → j < 128 → cl.slots[j.toNatClampNeg]? = some (.int (own_isl j))) (hne : ¬ r0 = wU) (hp : ¬ p1 < 0) :
    MetFree l (⟨"com/example/lastschrift/lastschrift/rules/CharacterSet", "contains", "(I)Z"⟩ : MethodName) (head1 (Jvm.Cond.code (⟨"com/example/lastschrift/lastschrift/rules/CharacterSet", "contains", "(I)Z"⟩ : MethodName) prog_166_method_6_code 2 (some .boolean) :: ws) ({ frames := 0, cells := 0, slots := 0, locals := 0 } : Room)) (fun a U => a = #[(.ref r0), (.int p1)] ∧ Z.Warmed39 U.vm ∧ U.heap = h0) (fun _ _ _ _ _ => True) (fun _ U o U' => ∃ v L, o = .returned v ∧ QL Z r0 p1 wU wT cl h0 n0 v U'.heap L ∧ FrameEnd U o U' L ({ frames := 0, cells := 0, slots := 0, locals := 0 } : Room).cells ({ frames := 0, cells := 0, slots := 0, locals := 0 } : Room).slots) := by
  refine MetFree.of_bodySF (plainFor_of_name pn_2) hisR ?_
  intro p e s m args below meth c s₁ Bd hml0 hP hK
  obtain ⟨rfl, hZ, hh⟩ := hP
  have hx := Bd.exec
  have hby := Bd.bytes
  have hml : c.maxLocals = 2 := hml0
  have hown : s.vm.findClass "com/example/lastschrift/lastschrift/rules/CharacterSet" = some m.cls := findClass_of_methodNamed Bd.named
  have hnm := (name_of_methodNamed Bd.named Bd.method).1
  have X0 : Stand p l e ({ frames := 0, cells := 0, slots := 0, locals := 0 } : Room) s m #[(.ref r0), (.int p1)] below meth c s₁ [] 0 0 := Stand.of_body Bd
  have e0 : s₁.heap = h0 := by rw [← hh, Bd.state]; rfl
  have N0 := Fr.nil n0
  refine own_open fun G hG => ?_
  refine own_go (B := s₁.setTop (mkF m 0 #[.val (.ref r0), .val (.int p1)] [])) (fun t_ k_ => castTop (ef_rmL m r0 p1) k_) ?_
  have ArH : Arr Z h0 wT cl .boolean := Ar.ext O0.2
  refine own_go (B := s₁.setTop (mkF m 1 #[.val (.ref r0), .val (.int p1)] [(.ref r0)])) (fun t_ k_ => ?_) ?_
  · show Steps p.tables e below (s₁.setTop (mkF m 0 #[.val (.ref r0), .val (.int p1)] [])) _
    refine XS.aloadN X0.here hx rfl (hb hby d2_0) rfl rfl ?_
    show Steps p.tables e below (s₁.setTop (mkF m 1 #[.val (.ref r0), .val (.int p1)] [(.ref r0)])) _
    exact k_
  obtain ⟨T18, X18, e18, st18⟩ := getS2 X0 hx hZ hown (host := "") (Or.inl (hw _ (List.mem_of_getElem? (i := 12) rfl))) Via.refl e0 (SU.ext O0.2) (g := (mkF m 1 #[.val (.ref r0), .val (.int p1)] [(.ref r0)])) rfl (hb hby d2_1)
  refine own_go (B := T18.setTop (mkF m 4 #[.val (.ref r0), .val (.int p1)] [(.ref wU), (.ref r0)])) (fun t_ k_ => st18 _ k_) ?_
  refine own_go (B := T18.setTop (mkF m 8 #[.val (.ref r0), .val (.int p1)] [(.int p1)])) (fun t_ k_ => ?_) ?_
  · show Steps p.tables e below (T18.setTop (mkF m 4 #[.val (.ref r0), .val (.int p1)] [(.ref wU), (.ref r0)])) _
    refine Jvm.RoadKit.acmp (g := (mkF m 4 #[.val (.ref r0), .val (.int p1)] [(.ref wU), (.ref r0)])) X18 hx rfl rfl rfl (pc0 := 4) (pc' := 7) (same := false) rfl (hb hby d2_4) rfl (decide_eq_false fun q => hne (Value.ref.inj q)) (by decide) (by decide) ?_
    show Steps p.tables e below (T18.setTop (mkF m 7 #[.val (.ref r0), .val (.int p1)] [])) _
    refine XS.iloadN X18.here hx rfl (hb hby d2_7) rfl ?_
    show Steps p.tables e below (T18.setTop (mkF m 8 #[.val (.ref r0), .val (.int p1)] [(.int p1)])) _
    exact k_
  obtain ⟨T19, X19, e19, st19⟩ := getS2 X18 hx hZ hown (host := "") (Or.inl (hw _ (List.mem_of_getElem? (i := 14) rfl))) Via.refl e18 (ST.ext O0.2) (g := (mkF m 8 #[.val (.ref r0), .val (.int p1)] [(.int p1)])) rfl (hb hby d2_8)
  refine own_go (B := T19.setTop (mkF m 11 #[.val (.ref r0), .val (.int p1)] [(.ref wT), (.int p1)])) (fun t_ k_ => st19 _ k_) ?_
  refine own_go (B := T19.setTop (mkF m 12 #[.val (.ref r0), .val (.int p1)] [(.int (128 : Int32)), (.int p1)])) (fun t_ k_ => ?_) ?_
  · refine X19.arraylength hx (by rw [e19]; exact ArH.1) (State.isArrayOf_alike hZ.alike ArH.2.1) (g := (mkF m 11 #[.val (.ref r0), .val (.int p1)] [(.ref wT), (.int p1)])) rfl rfl (hb hby d2_11) _ ?_
    rw [len_of hsz (by decide)]
    exact k_
  by_cases hc12 : p1 < (128 : Int32)
  · refine own_go (B := T19.setTop (mkF m 15 #[.val (.ref r0), .val (.int p1)] [])) (fun t_ k_ => ?_) ?_
    · show Steps p.tables e below (T19.setTop (mkF m 12 #[.val (.ref r0), .val (.int p1)] [(.int (128 : Int32)), (.int p1)])) _
      refine XS.icmpNo X19.here hx rfl (hb hby d2_12) rfl (tlt hc12).2.1 ?_
      show Steps p.tables e below (T19.setTop (mkF m 15 #[.val (.ref r0), .val (.int p1)] [])) _
      exact k_
    obtain ⟨T20, X20, e20, st20⟩ := getS2 X19 hx hZ hown (host := "") (Or.inl (hw _ (List.mem_of_getElem? (i := 14) rfl))) Via.refl e19 (ST.ext O0.2) (g := (mkF m 15 #[.val (.ref r0), .val (.int p1)] [])) rfl (hb hby d2_15)
    refine own_go (B := T20.setTop (mkF m 18 #[.val (.ref r0), .val (.int p1)] [(.ref wT)])) (fun t_ k_ => st20 _ k_) ?_
    refine own_go (B := T20.setTop (mkF m 19 #[.val (.ref r0), .val (.int p1)] [(.int p1), (.ref wT)])) (fun t_ k_ => ?_) ?_
    · show Steps p.tables e below (T20.setTop (mkF m 18 #[.val (.ref r0), .val (.int p1)] [(.ref wT)])) _
      refine XS.iloadN X20.here hx rfl (hb hby d2_18) rfl ?_
      show Steps p.tables e below (T20.setTop (mkF m 19 #[.val (.ref r0), .val (.int p1)] [(.int p1), (.ref wT)])) _
      exact k_
    refine own_go (B := T20.setTop (mkF m 20 #[.val (.ref r0), .val (.int p1)] [(.int (own_isl p1))])) (fun t_ k_ => X20.baloadBooleans hx (j := p1) (v := .int (own_isl p1)) (by rw [e20]; exact ArH.1) (State.isArrayOf_alike hZ.alike ArH.2.1) ArH.2.2 (inb_of hsz ⟨hp, hc12⟩) (htab p1 hp hc12) (g := (mkF m 19 #[.val (.ref r0), .val (.int p1)] [(.int p1), (.ref wT)])) rfl rfl (hb hby d2_19) _ k_) ?_
    by_cases hc20 : (own_isl p1) = (0 : Int32)
    · refine own_go (B := T20.setTop (mkF m 28 #[.val (.ref r0), .val (.int p1)] [(.int (0 : Int32))])) (fun t_ k_ => ?_) ?_
      · show Steps p.tables e below (T20.setTop (mkF m 20 #[.val (.ref r0), .val (.int p1)] [(.int (own_isl p1))])) _
        refine XS.ifYes X20.here hx rfl (pc0 := 20) (pc' := 27) rfl (hb hby d2_20) rfl ((if0 _ _).trans (teq hc20).1) (by decide) (by decide) ?_
        show Steps p.tables e below (T20.setTop (mkF m 27 #[.val (.ref r0), .val (.int p1)] [])) _
        refine XS.iconst X20.here hx rfl (hb hby d2_27) ?_
        show Steps p.tables e below (T20.setTop (mkF m 28 #[.val (.ref r0), .val (.int p1)] [(.int (0 : Int32))])) _
        exact k_
      obtain ⟨fs, hr, hrun, hended, hW, hsame⟩ := X20.leave (v := some (.int (0 : Int32))) (fun h => by rw [Bd.returns] at h; cases h)
      refine own_at ?_ (hG _ _ ⟨hrun, hended, _, _, rfl, ?_, ⟨_, rfl⟩, hW, hsame.mono (by decide) (by decide)⟩)
      · show Steps p.tables e below (T20.setTop (mkF m 28 #[.val (.ref r0), .val (.int p1)] [(.int (0 : Int32))])) _
        exact retN X20 hx (t := .boolean) Bd.returns (by simp) (hb hby d2_28) hr
      · show QL Z r0 p1 wU wT cl h0 n0 _ T20.heap _
        rw [e20]
        exact ⟨by rw [hc20], N0, rfl⟩
    · refine own_go (B := T20.setTop (mkF m 28 #[.val (.ref r0), .val (.int p1)] [(.int (1 : Int32))])) (fun t_ k_ => ?_) ?_
      · show Steps p.tables e below (T20.setTop (mkF m 20 #[.val (.ref r0), .val (.int p1)] [(.int (own_isl p1))])) _
        refine XS.ifNo X20.here hx rfl (hb hby d2_20) rfl ((if0 _ _).trans (feq hc20).1) ?_
        show Steps p.tables e below (T20.setTop (mkF m 23 #[.val (.ref r0), .val (.int p1)] [])) _
        refine XS.iconst X20.here hx rfl (hb hby d2_23) ?_
        show Steps p.tables e below (T20.setTop (mkF m 24 #[.val (.ref r0), .val (.int p1)] [(.int (1 : Int32))])) _
        refine XS.goto X20.here hx rfl (pc0 := 24) (pc' := 28) rfl (hb hby d2_24) (by decide) (by decide) ?_
        show Steps p.tables e below (T20.setTop (mkF m 28 #[.val (.ref r0), .val (.int p1)] [(.int (1 : Int32))])) _
        exact k_
      obtain ⟨fs, hr, hrun, hended, hW, hsame⟩ := X20.leave (v := some (.int (1 : Int32))) (fun h => by rw [Bd.returns] at h; cases h)
      refine own_at ?_ (hG _ _ ⟨hrun, hended, _, _, rfl, ?_, ⟨_, rfl⟩, hW, hsame.mono (by decide) (by decide)⟩)
      · show Steps p.tables e below (T20.setTop (mkF m 28 #[.val (.ref r0), .val (.int p1)] [(.int (1 : Int32))])) _
        exact retN X20 hx (t := .boolean) Bd.returns (by simp) (hb hby d2_28) hr
      · show QL Z r0 p1 wU wT cl h0 n0 _ T20.heap _
        rw [e20]
        exact ⟨by rw [(own_01 p1).resolve_left hc20], N0, rfl⟩
  · refine own_go (B := T19.setTop (mkF m 28 #[.val (.ref r0), .val (.int p1)] [(.int (0 : Int32))])) (fun t_ k_ => ?_) ?_
    · show Steps p.tables e below (T19.setTop (mkF m 12 #[.val (.ref r0), .val (.int p1)] [(.int (128 : Int32)), (.int p1)])) _
      refine XS.icmpYes X19.here hx rfl (pc0 := 12) (pc' := 27) rfl (hb hby d2_12) rfl (flt hc12).2.1 (by decide) (by decide) ?_
      show Steps p.tables e below (T19.setTop (mkF m 27 #[.val (.ref r0), .val (.int p1)] [])) _
      refine XS.iconst X19.here hx rfl (hb hby d2_27) ?_
      show Steps p.tables e below (T19.setTop (mkF m 28 #[.val (.ref r0), .val (.int p1)] [(.int (0 : Int32))])) _
      exact k_
    obtain ⟨fs, hr, hrun, hended, hW, hsame⟩ := X19.leave (v := some (.int (0 : Int32))) (fun h => by rw [Bd.returns] at h; cases h)
    refine own_at ?_ (hG _ _ ⟨hrun, hended, _, _, rfl, ?_, ⟨_, rfl⟩, hW, hsame.mono (by decide) (by decide)⟩)
    · show Steps p.tables e below (T19.setTop (mkF m 28 #[.val (.ref r0), .val (.int p1)] [(.int (0 : Int32))])) _
      exact retN X19 hx (t := .boolean) Bd.returns (by simp) (hb hby d2_28) hr
    · show QL Z r0 p1 wU wT cl h0 n0 _ T19.heap _
      rw [e19]
      exact ⟨by rw [own_big hc12], N0, rfl⟩
theorem own_nn (x m : Int32) (h : 0 ≤ m.toInt) : ¬ (x &&& m) < 0 := by
  intro q
  have q' := Int32.lt_iff_toInt_lt.mp q
  rw [own_z32] at q'
  have := c_and x m h
  omega
theorem pn_0 : plainName "com/example/lastschrift/lastschrift/rules/CharacterSetContainsPinLaw" = true := by first | (simp [plainName, overriddenIn]; done) | decide +kernel
theorem ef_rm0 (m : MethodId) (x0 : Int32) (x1 : Int32) : entryFrame m #[(.int x0), (.int x1)] maxLocals = mkF m 0 #[.val (.int x0), .val (.int x1), .unset, .unset, .unset, .unset, .unset] [] := by first | (simp [entryFrame, mkF, argsToLocals, Value.category, maxLocals]; done) | rfl
def Q0 (Z : State) (p0 : Int32) (p1 : Int32) (wU : Addr) (wL : Addr) (wT : Addr) (cl : Cell) (h0 : Heap) (n0 : Nat) (v : Option Value) (h : Heap) (L : List Loc) : Prop := v = some (.int 1) ∧ Fr n0 L
set_option maxRecDepth 65536 in
set_option maxHeartbeats 40000000 in
theorem rm0 (l : Launch) (Z : State) (a0 : Array Value) (hw : ∀ d ∈ tables_1, d.before a0 Z = true) (ws : List Jvm.Cond) (p0 : Int32) (p1 : Int32) (wU : Addr) (wL : Addr) (wT : Addr) (cl : Cell) (h0 : Heap) (n0 : Nat) (Z0 : n0 ≤ h0.size) (O0 : Old Z n0 h0) (SU : Sta Z Z.heap "com/example/lastschrift/lastschrift/rules/CharacterSet" "UTF8" "Lcom/example/lastschrift/lastschrift/rules/CharacterSet;" (.ref wU)) (SL : Sta Z Z.heap "com/example/lastschrift/lastschrift/rules/CharacterSet" "LATIN" "Lcom/example/lastschrift/lastschrift/rules/CharacterSet;" (.ref wL)) (ST : Sta Z Z.heap "com/example/lastschrift/lastschrift/rules/CharacterSet" "IN_LATIN" "[Z" (.ref wT)) (EU : Exa Z h0 wU "com/example/lastschrift/lastschrift/rules/CharacterSet") (EL : Exa Z h0 wL "com/example/lastschrift/lastschrift/rules/CharacterSet") (Ar : Arr Z Z.heap wT cl .boolean) (hsz : cl.slots.size = (128 : Int32).toNatClampNeg) (htab : ∀ j : Int32, ¬ j < 0 → j < 128 → cl.slots[j.toNatClampNeg]? = some (.int (own_isl j))) (hne : ¬ wL = wU) :
    MetFree l x (head1 (Jvm.Cond.code x code maxLocals ret :: ws) room_1) (fun a U => a = #[(.int p0), (.int p1)] ∧ Z.Warmed39 U.vm ∧ U.heap = h0) (fun _ _ _ _ _ => True) (fun _ U o U' => ∃ v L, o = .returned v ∧ Q0 Z p0 p1 wU wL wT cl h0 n0 v U'.heap L ∧ FrameEnd U o U' L room_1.cells room_1.slots) := by
  refine MetFree.of_bodySF (plainFor_of_name pn_0) hisR ?_
  intro p e s m args below meth c s₁ Bd hml0 hP hK
  obtain ⟨rfl, hZ, hh⟩ := hP
  have hx := Bd.exec
  have hby := Bd.bytes
  have hml : c.maxLocals = 7 := hml0
  have hown : s.vm.findClass "com/example/lastschrift/lastschrift/rules/CharacterSetContainsPinLaw" = some m.cls := findClass_of_methodNamed Bd.named
  have hnm := (name_of_methodNamed Bd.named Bd.method).1
  have X0 : Stand p l e room_1 s m #[(.int p0), (.int p1)] below meth c s₁ [] 0 0 := Stand.of_body Bd
  have e0 : s₁.heap = h0 := by rw [← hh, Bd.state]; rfl
  have N0 := Fr.nil n0
  refine own_open fun G hG => ?_
  refine own_go (B := s₁.setTop (mkF m 0 #[.val (.int p0), .val (.int p1), .unset, .unset, .unset, .unset, .unset] [])) (fun t_ k_ => castTop (ef_rm0 m p0 p1) k_) ?_
  refine own_go (B := s₁.setTop (mkF m 3 #[.val (.int p0), .val (.int p1), .unset, .unset, .unset, .unset, .unset] [(.int (p0 &&& (1 : Int32)))])) (fun t_ k_ => ?_) ?_
  · show Steps p.tables e below (s₁.setTop (mkF m 0 #[.val (.int p0), .val (.int p1), .unset, .unset, .unset, .unset, .unset] [])) _
    refine XS.iloadN X0.here hx rfl (hb hby at_0) rfl ?_
    show Steps p.tables e below (s₁.setTop (mkF m 1 #[.val (.int p0), .val (.int p1), .unset, .unset, .unset, .unset, .unset] [(.int p0)])) _
    refine XS.iconst X0.here hx rfl (hb hby at_1) ?_
    show Steps p.tables e below (s₁.setTop (mkF m 2 #[.val (.int p0), .val (.int p1), .unset, .unset, .unset, .unset, .unset] [(.int (1 : Int32)), (.int p0)])) _
    refine XS.iand X0.here hx rfl (hb hby at_2) rfl ?_
    show Steps p.tables e below (s₁.setTop (mkF m 3 #[.val (.int p0), .val (.int p1), .unset, .unset, .unset, .unset, .unset] [(.int (p0 &&& (1 : Int32)))])) _
    exact k_
  by_cases hc3 : (p0 &&& (1 : Int32)) = (0 : Int32)
  · refine own_go (B := s₁.setTop (mkF m 22 #[.val (.int p0), .val (.int p1), .val (.int (0 : Int32)), .unset, .unset, .unset, .unset] [])) (fun t_ k_ => ?_) ?_
    · show Steps p.tables e below (s₁.setTop (mkF m 3 #[.val (.int p0), .val (.int p1), .unset, .unset, .unset, .unset, .unset] [(.int (p0 &&& (1 : Int32)))])) _
      refine XS.ifYes X0.here hx rfl (pc0 := 3) (pc' := 10) rfl (hb hby at_3) rfl ((if0 _ _).trans (teq hc3).1) (by decide) (by decide) ?_
      show Steps p.tables e below (s₁.setTop (mkF m 10 #[.val (.int p0), .val (.int p1), .unset, .unset, .unset, .unset, .unset] [])) _
      refine XS.iconst X0.here hx rfl (hb hby at_10) ?_
      show Steps p.tables e below (s₁.setTop (mkF m 11 #[.val (.int p0), .val (.int p1), .unset, .unset, .unset, .unset, .unset] [(.int (0 : Int32))])) _
      refine XS.istoreN X0.here hx rfl (hb hby at_11) rfl (l' := #[.val (.int p0), .val (.int p1), .val (.int (0 : Int32)), .unset, .unset, .unset, .unset]) rfl ?_
      show Steps p.tables e below (s₁.setTop (mkF m 12 #[.val (.int p0), .val (.int p1), .val (.int (0 : Int32)), .unset, .unset, .unset, .unset] [])) _
      refine XS.iloadN X0.here hx rfl (hb hby at_12) rfl ?_
      show Steps p.tables e below (s₁.setTop (mkF m 13 #[.val (.int p0), .val (.int p1), .val (.int (0 : Int32)), .unset, .unset, .unset, .unset] [(.int (0 : Int32))])) _
      refine XS.ifYes X0.here hx rfl (pc0 := 13) (pc' := 22) rfl (hb hby at_13) rfl ((if0 _ _).trans (teq (by decide : (0 : Int32) = (0 : Int32))).1) (by decide) (by decide) ?_
      show Steps p.tables e below (s₁.setTop (mkF m 22 #[.val (.int p0), .val (.int p1), .val (.int (0 : Int32)), .unset, .unset, .unset, .unset] [])) _
      exact k_
    obtain ⟨T24, X24, e24, st24⟩ := getS2 X0 hx hZ hown (host := "") (Or.inl (hw _ (List.mem_of_getElem? (i := 0) rfl))) Via.refl e0 (SL.ext O0.2) (g := (mkF m 22 #[.val (.int p0), .val (.int p1), .val (.int (0 : Int32)), .unset, .unset, .unset, .unset] [])) rfl (hb hby at_22)
    refine own_go (B := T24.setTop (mkF m 25 #[.val (.int p0), .val (.int p1), .val (.int (0 : Int32)), .unset, .unset, .unset, .unset] [(.ref wL)])) (fun t_ k_ => st24 _ k_) ?_
    refine own_go (B := T24.setTop (mkF m 26 #[.val (.int p0), .val (.int p1), .val (.int (0 : Int32)), .val (.ref wL), .unset, .unset, .unset] [])) (fun t_ k_ => ?_) ?_
    · show Steps p.tables e below (T24.setTop (mkF m 25 #[.val (.int p0), .val (.int p1), .val (.int (0 : Int32)), .unset, .unset, .unset, .unset] [(.ref wL)])) _
      refine XS.astoreN X24.here hx rfl (hb hby at_25) rfl rfl (l' := #[.val (.int p0), .val (.int p1), .val (.int (0 : Int32)), .val (.ref wL), .unset, .unset, .unset]) rfl ?_
      show Steps p.tables e below (T24.setTop (mkF m 26 #[.val (.int p0), .val (.int p1), .val (.int (0 : Int32)), .val (.ref wL), .unset, .unset, .unset] [])) _
      exact k_
    have K84 : ∀ md cp : Int32, ¬ cp < 0 → own_R p.tables e below G (T24.setTop (mkF m 84 #[.val (.int p0), .val (.int p1), .val (.int (0 : Int32)), .val (.ref wL), .val (.int md), .val (.int cp), .unset] [])) := by
      intro md cp hcp
      refine own_go (B := T24.setTop (mkF m 101 #[.val (.int p0), .val (.int p1), .val (.int (0 : Int32)), .val (.ref wL), .val (.int md), .val (.int cp), .unset] [(.int cp)])) (fun t_ k_ => ?_) ?_
      · show Steps p.tables e below (T24.setTop (mkF m 84 #[.val (.int p0), .val (.int p1), .val (.int (0 : Int32)), .val (.ref wL), .val (.int md), .val (.int cp), .unset] [])) _
        refine XS.iloadN X24.here hx rfl (hb hby at_84) rfl ?_
        show Steps p.tables e below (T24.setTop (mkF m 85 #[.val (.int p0), .val (.int p1), .val (.int (0 : Int32)), .val (.ref wL), .val (.int md), .val (.int cp), .unset] [(.int (0 : Int32))])) _
        refine XS.ifYes X24.here hx rfl (pc0 := 85) (pc' := 95) rfl (hb hby at_85) rfl ((if0 _ _).trans (teq (by decide : (0 : Int32) = (0 : Int32))).1) (by decide) (by decide) ?_
        show Steps p.tables e below (T24.setTop (mkF m 95 #[.val (.int p0), .val (.int p1), .val (.int (0 : Int32)), .val (.ref wL), .val (.int md), .val (.int cp), .unset] [])) _
        refine XS.iloadN X24.here hx rfl (hb hby at_95) rfl ?_
        show Steps p.tables e below (T24.setTop (mkF m 96 #[.val (.int p0), .val (.int p1), .val (.int (0 : Int32)), .val (.ref wL), .val (.int md), .val (.int cp), .unset] [(.int (0 : Int32))])) _
        refine XS.ifNo X24.here hx rfl (hb hby at_96) rfl ((if0 _ _).trans (teq (by decide : (0 : Int32) = (0 : Int32))).2) ?_
        show Steps p.tables e below (T24.setTop (mkF m 99 #[.val (.int p0), .val (.int p1), .val (.int (0 : Int32)), .val (.ref wL), .val (.int md), .val (.int cp), .unset] [])) _
        refine XS.iload X24.here hx rfl (hb hby at_99) rfl ?_
        show Steps p.tables e below (T24.setTop (mkF m 101 #[.val (.int p0), .val (.int p1), .val (.int (0 : Int32)), .val (.ref wL), .val (.int md), .val (.int cp), .unset] [(.int cp)])) _
        exact k_
      obtain ⟨_, _, ⟨T25, L25, k25, n25⟩, -, X25, ⟨Lc25, hQ25, l25, y25, z25⟩, st25⟩ := Jvm.LawKit.callS X24 hx (y := (⟨"com/example/lastschrift/lastschrift/rules/CharacterSetContainsPinLaw", "isLatin", "(I)Z"⟩ : MethodName)) hown (mvT hZ (hw _ (List.mem_of_getElem? (i := 3) rfl))) (mvT hZ (hw _ (List.mem_of_getElem? (i := 4) rfl))) (mvT hZ (hw _ (List.mem_of_getElem? (i := 5) rfl))) (mvT hZ (hw _ (List.mem_of_getElem? (i := 6) rfl))) (by decide) (backOf (W := 0) (rm1 l Z a0 hw [] cp h0 n0 Z0) hZ (hw _ (List.mem_of_getElem? (i := 6) rfl)) (hw _ (List.mem_of_getElem? (i := 5) rfl)) (by decide) (by decide)) (g := (mkF m 101 #[.val (.int p0), .val (.int p1), .val (.int (0 : Int32)), .val (.ref wL), .val (.int md), .val (.int cp), .unset] [(.int cp)])) rfl (by rw [hml]; rfl) (argsL := [(.int cp)]) (rest := []) (lenOf pd__28_I_29_Z rfl) rfl (by show 2 * 0 + _ ≤ _; exact Nat.le_of_eq rfl) (hb hby at_101) (fun _ _ => ⟨rfl, e24, (by decide : 0 + 0 ≤ _), (by decide : 0 + 0 ≤ _)⟩)
      dsimp only [Pt.U, Pt.locs, Pt.cells, Pt.slots] at X25 l25 y25 z25 st25 hQ25
      subst l25 y25 z25
      obtain ⟨rfl, N25q, e25q⟩ := hQ25
      have N25 := Fr.app N0 N25q
      refine own_go (B := T25.setTop (mkF m 104 #[.val (.int p0), .val (.int p1), .val (.int (0 : Int32)), .val (.ref wL), .val (.int md), .val (.int cp), .unset] [(.int (own_isl cp))])) (fun t_ k_ => st25 _ k_) ?_
      by_cases hc104 : (own_isl cp) = (0 : Int32)
      · refine own_go (B := T25.setTop (mkF m 117 #[.val (.int p0), .val (.int p1), .val (.int (0 : Int32)), .val (.ref wL), .val (.int md), .val (.int cp), .val (.int (0 : Int32))] [(.int cp), (.ref wL)])) (fun t_ k_ => ?_) ?_
        · show Steps p.tables e below (T25.setTop (mkF m 104 #[.val (.int p0), .val (.int p1), .val (.int (0 : Int32)), .val (.ref wL), .val (.int md), .val (.int cp), .unset] [(.int (own_isl cp))])) _
          refine XS.ifYes X25.here hx rfl (pc0 := 104) (pc' := 111) rfl (hb hby at_104) rfl ((if0 _ _).trans (teq hc104).1) (by decide) (by decide) ?_
          show Steps p.tables e below (T25.setTop (mkF m 111 #[.val (.int p0), .val (.int p1), .val (.int (0 : Int32)), .val (.ref wL), .val (.int md), .val (.int cp), .unset] [])) _
          refine XS.iconst X25.here hx rfl (hb hby at_111) ?_
          show Steps p.tables e below (T25.setTop (mkF m 112 #[.val (.int p0), .val (.int p1), .val (.int (0 : Int32)), .val (.ref wL), .val (.int md), .val (.int cp), .unset] [(.int (0 : Int32))])) _
          refine XS.istore X25.here hx rfl (hb hby at_112) rfl (l' := #[.val (.int p0), .val (.int p1), .val (.int (0 : Int32)), .val (.ref wL), .val (.int md), .val (.int cp), .val (.int (0 : Int32))]) rfl ?_
          show Steps p.tables e below (T25.setTop (mkF m 114 #[.val (.int p0), .val (.int p1), .val (.int (0 : Int32)), .val (.ref wL), .val (.int md), .val (.int cp), .val (.int (0 : Int32))] [])) _
          refine XS.aloadN X25.here hx rfl (hb hby at_114) rfl rfl ?_
          show Steps p.tables e below (T25.setTop (mkF m 115 #[.val (.int p0), .val (.int p1), .val (.int (0 : Int32)), .val (.ref wL), .val (.int md), .val (.int cp), .val (.int (0 : Int32))] [(.ref wL)])) _
          refine XS.iload X25.here hx rfl (hb hby at_115) rfl ?_
          show Steps p.tables e below (T25.setTop (mkF m 117 #[.val (.int p0), .val (.int p1), .val (.int (0 : Int32)), .val (.ref wL), .val (.int md), .val (.int cp), .val (.int (0 : Int32))] [(.int cp), (.ref wL)])) _
          exact k_
        obtain ⟨cq26, kq26, q26a, q26b, q26c⟩ := isOf hZ e25q EL
        obtain ⟨_, _, ⟨T26, L26, k26, n26⟩, -, X26, ⟨Lc26, hQ26, l26, y26, z26⟩, st26⟩ := X25.virtualBack hx (y := (⟨"com/example/lastschrift/lastschrift/rules/CharacterSet", "contains", "(I)Z"⟩ : MethodName)) (z := (⟨"com/example/lastschrift/lastschrift/rules/CharacterSet", "contains", "(I)Z"⟩ : MethodName)) hown (mvT hZ (hw _ (List.mem_of_getElem? (i := 7) rfl))) (mvT hZ (hw _ (List.mem_of_getElem? (i := 8) rfl))) (notFace_of_selects (args := #[]) (mvT hZ (hw _ (List.mem_of_getElem? (i := 10) rfl)))) (mvT hZ (hw _ (List.mem_of_getElem? (i := 10) rfl))) (mvT hZ (hw _ (List.mem_of_getElem? (i := 9) rfl))) (by decide) (backOf (W := 0) (rmL l Z a0 hw [] wL cp wU wT cl h0 n0 Z0 O0 SU ST Ar hsz htab hne hcp) hZ (hw _ (List.mem_of_getElem? (i := 11) rfl)) (hw _ (List.mem_of_getElem? (i := 1) rfl)) (by decide) (by decide)) q26a q26c (g := (mkF m 117 #[.val (.int p0), .val (.int p1), .val (.int (0 : Int32)), .val (.ref wL), .val (.int md), .val (.int cp), .val (.int (0 : Int32))] [(.int cp), (.ref wL)])) rfl (by rw [hml]; rfl) (Steps.refl _) (argsL := [(.int cp)]) (rest := []) (lenOf pd__28_I_29_Z rfl) rfl (by show 2 * 0 + _ ≤ _; exact Nat.le_of_eq rfl) (hb hby at_117) (fun _ _ => ⟨rfl, e25q, (by decide : 0 + 0 ≤ _), (by decide : 0 + 0 ≤ _)⟩)
        dsimp only [Pt.U, Pt.locs, Pt.cells, Pt.slots] at X26 l26 y26 z26 st26 hQ26
        subst l26 y26 z26
        obtain ⟨rfl, N26q, e26q⟩ := hQ26
        have N26 := Fr.app N25 N26q
        refine own_go (B := T26.setTop (mkF m 120 #[.val (.int p0), .val (.int p1), .val (.int (0 : Int32)), .val (.ref wL), .val (.int md), .val (.int cp), .val (.int (0 : Int32))] [(.int (own_isl cp))])) (fun t_ k_ => st26.trans k_) ?_
        refine own_go (B := T26.setTop (mkF m 130 #[.val (.int p0), .val (.int p1), .val (.int (0 : Int32)), .val (.ref wL), .val (.int md), .val (.int cp), .val (.int (0 : Int32))] [(.int (1 : Int32))])) (fun t_ k_ => ?_) ?_
        · show Steps p.tables e below (T26.setTop (mkF m 120 #[.val (.int p0), .val (.int p1), .val (.int (0 : Int32)), .val (.ref wL), .val (.int md), .val (.int cp), .val (.int (0 : Int32))] [(.int (own_isl cp))])) _
          refine XS.iload X26.here hx rfl (hb hby at_120) rfl ?_
          show Steps p.tables e below (T26.setTop (mkF m 122 #[.val (.int p0), .val (.int p1), .val (.int (0 : Int32)), .val (.ref wL), .val (.int md), .val (.int cp), .val (.int (0 : Int32))] [(.int (0 : Int32)), (.int (own_isl cp))])) _
          refine XS.icmpNo X26.here hx rfl (hb hby at_122) rfl (teq hc104).2 ?_
          show Steps p.tables e below (T26.setTop (mkF m 125 #[.val (.int p0), .val (.int p1), .val (.int (0 : Int32)), .val (.ref wL), .val (.int md), .val (.int cp), .val (.int (0 : Int32))] [])) _
          refine XS.iconst X26.here hx rfl (hb hby at_125) ?_
          show Steps p.tables e below (T26.setTop (mkF m 126 #[.val (.int p0), .val (.int p1), .val (.int (0 : Int32)), .val (.ref wL), .val (.int md), .val (.int cp), .val (.int (0 : Int32))] [(.int (1 : Int32))])) _
          refine XS.goto X26.here hx rfl (pc0 := 126) (pc' := 130) rfl (hb hby at_126) (by decide) (by decide) ?_
          show Steps p.tables e below (T26.setTop (mkF m 130 #[.val (.int p0), .val (.int p1), .val (.int (0 : Int32)), .val (.ref wL), .val (.int md), .val (.int cp), .val (.int (0 : Int32))] [(.int (1 : Int32))])) _
          exact k_
        obtain ⟨fs, hr, hrun, hended, hW, hsame⟩ := X26.leave (v := some (.int (1 : Int32))) (fun h => by rw [Bd.returns] at h; cases h)
        refine own_at ?_ (hG _ _ ⟨hrun, hended, _, _, rfl, ?_, ⟨_, rfl⟩, hW, hsame.mono (by decide) (by decide)⟩)
        · show Steps p.tables e below (T26.setTop (mkF m 130 #[.val (.int p0), .val (.int p1), .val (.int (0 : Int32)), .val (.ref wL), .val (.int md), .val (.int cp), .val (.int (0 : Int32))] [(.int (1 : Int32))])) _
          exact retN X26 hx (t := .boolean) Bd.returns (by simp) (hb hby at_130) hr
        · show Q0 Z p0 p1 wU wL wT cl h0 n0 _ T26.heap _
          rw [e26q]
          exact ⟨rfl, N26⟩
      · refine own_go (B := T25.setTop (mkF m 117 #[.val (.int p0), .val (.int p1), .val (.int (0 : Int32)), .val (.ref wL), .val (.int md), .val (.int cp), .val (.int (1 : Int32))] [(.int cp), (.ref wL)])) (fun t_ k_ => ?_) ?_
        · show Steps p.tables e below (T25.setTop (mkF m 104 #[.val (.int p0), .val (.int p1), .val (.int (0 : Int32)), .val (.ref wL), .val (.int md), .val (.int cp), .unset] [(.int (own_isl cp))])) _
          refine XS.ifNo X25.here hx rfl (hb hby at_104) rfl ((if0 _ _).trans (feq hc104).1) ?_
          show Steps p.tables e below (T25.setTop (mkF m 107 #[.val (.int p0), .val (.int p1), .val (.int (0 : Int32)), .val (.ref wL), .val (.int md), .val (.int cp), .unset] [])) _
          refine XS.iconst X25.here hx rfl (hb hby at_107) ?_
          show Steps p.tables e below (T25.setTop (mkF m 108 #[.val (.int p0), .val (.int p1), .val (.int (0 : Int32)), .val (.ref wL), .val (.int md), .val (.int cp), .unset] [(.int (1 : Int32))])) _
          refine XS.goto X25.here hx rfl (pc0 := 108) (pc' := 112) rfl (hb hby at_108) (by decide) (by decide) ?_
          show Steps p.tables e below (T25.setTop (mkF m 112 #[.val (.int p0), .val (.int p1), .val (.int (0 : Int32)), .val (.ref wL), .val (.int md), .val (.int cp), .unset] [(.int (1 : Int32))])) _
          refine XS.istore X25.here hx rfl (hb hby at_112) rfl (l' := #[.val (.int p0), .val (.int p1), .val (.int (0 : Int32)), .val (.ref wL), .val (.int md), .val (.int cp), .val (.int (1 : Int32))]) rfl ?_
          show Steps p.tables e below (T25.setTop (mkF m 114 #[.val (.int p0), .val (.int p1), .val (.int (0 : Int32)), .val (.ref wL), .val (.int md), .val (.int cp), .val (.int (1 : Int32))] [])) _
          refine XS.aloadN X25.here hx rfl (hb hby at_114) rfl rfl ?_
          show Steps p.tables e below (T25.setTop (mkF m 115 #[.val (.int p0), .val (.int p1), .val (.int (0 : Int32)), .val (.ref wL), .val (.int md), .val (.int cp), .val (.int (1 : Int32))] [(.ref wL)])) _
          refine XS.iload X25.here hx rfl (hb hby at_115) rfl ?_
          show Steps p.tables e below (T25.setTop (mkF m 117 #[.val (.int p0), .val (.int p1), .val (.int (0 : Int32)), .val (.ref wL), .val (.int md), .val (.int cp), .val (.int (1 : Int32))] [(.int cp), (.ref wL)])) _
          exact k_
        obtain ⟨cq28, kq28, q28a, q28b, q28c⟩ := isOf hZ e25q EL
        obtain ⟨_, _, ⟨T28, L28, k28, n28⟩, -, X28, ⟨Lc28, hQ28, l28, y28, z28⟩, st28⟩ := X25.virtualBack hx (y := (⟨"com/example/lastschrift/lastschrift/rules/CharacterSet", "contains", "(I)Z"⟩ : MethodName)) (z := (⟨"com/example/lastschrift/lastschrift/rules/CharacterSet", "contains", "(I)Z"⟩ : MethodName)) hown (mvT hZ (hw _ (List.mem_of_getElem? (i := 7) rfl))) (mvT hZ (hw _ (List.mem_of_getElem? (i := 8) rfl))) (notFace_of_selects (args := #[]) (mvT hZ (hw _ (List.mem_of_getElem? (i := 10) rfl)))) (mvT hZ (hw _ (List.mem_of_getElem? (i := 10) rfl))) (mvT hZ (hw _ (List.mem_of_getElem? (i := 9) rfl))) (by decide) (backOf (W := 0) (rmL l Z a0 hw [] wL cp wU wT cl h0 n0 Z0 O0 SU ST Ar hsz htab hne hcp) hZ (hw _ (List.mem_of_getElem? (i := 11) rfl)) (hw _ (List.mem_of_getElem? (i := 1) rfl)) (by decide) (by decide)) q28a q28c (g := (mkF m 117 #[.val (.int p0), .val (.int p1), .val (.int (0 : Int32)), .val (.ref wL), .val (.int md), .val (.int cp), .val (.int (1 : Int32))] [(.int cp), (.ref wL)])) rfl (by rw [hml]; rfl) (Steps.refl _) (argsL := [(.int cp)]) (rest := []) (lenOf pd__28_I_29_Z rfl) rfl (by show 2 * 0 + _ ≤ _; exact Nat.le_of_eq rfl) (hb hby at_117) (fun _ _ => ⟨rfl, e25q, (by decide : 0 + 0 ≤ _), (by decide : 0 + 0 ≤ _)⟩)
        dsimp only [Pt.U, Pt.locs, Pt.cells, Pt.slots] at X28 l28 y28 z28 st28 hQ28
        subst l28 y28 z28
        obtain ⟨rfl, N28q, e28q⟩ := hQ28
        have N28 := Fr.app N25 N28q
        refine own_go (B := T28.setTop (mkF m 120 #[.val (.int p0), .val (.int p1), .val (.int (0 : Int32)), .val (.ref wL), .val (.int md), .val (.int cp), .val (.int (1 : Int32))] [(.int (own_isl cp))])) (fun t_ k_ => st28.trans k_) ?_
        refine own_go (B := T28.setTop (mkF m 130 #[.val (.int p0), .val (.int p1), .val (.int (0 : Int32)), .val (.ref wL), .val (.int md), .val (.int cp), .val (.int (1 : Int32))] [(.int (1 : Int32))])) (fun t_ k_ => ?_) ?_
        · show Steps p.tables e below (T28.setTop (mkF m 120 #[.val (.int p0), .val (.int p1), .val (.int (0 : Int32)), .val (.ref wL), .val (.int md), .val (.int cp), .val (.int (1 : Int32))] [(.int (own_isl cp))])) _
          refine XS.iload X28.here hx rfl (hb hby at_120) rfl ?_
          show Steps p.tables e below (T28.setTop (mkF m 122 #[.val (.int p0), .val (.int p1), .val (.int (0 : Int32)), .val (.ref wL), .val (.int md), .val (.int cp), .val (.int (1 : Int32))] [(.int (1 : Int32)), (.int (own_isl cp))])) _
          refine XS.icmpNo X28.here hx rfl (hb hby at_122) rfl (teq ((own_01 cp).resolve_left hc104)).2 ?_
          show Steps p.tables e below (T28.setTop (mkF m 125 #[.val (.int p0), .val (.int p1), .val (.int (0 : Int32)), .val (.ref wL), .val (.int md), .val (.int cp), .val (.int (1 : Int32))] [])) _
          refine XS.iconst X28.here hx rfl (hb hby at_125) ?_
          show Steps p.tables e below (T28.setTop (mkF m 126 #[.val (.int p0), .val (.int p1), .val (.int (0 : Int32)), .val (.ref wL), .val (.int md), .val (.int cp), .val (.int (1 : Int32))] [(.int (1 : Int32))])) _
          refine XS.goto X28.here hx rfl (pc0 := 126) (pc' := 130) rfl (hb hby at_126) (by decide) (by decide) ?_
          show Steps p.tables e below (T28.setTop (mkF m 130 #[.val (.int p0), .val (.int p1), .val (.int (0 : Int32)), .val (.ref wL), .val (.int md), .val (.int cp), .val (.int (1 : Int32))] [(.int (1 : Int32))])) _
          exact k_
        obtain ⟨fs, hr, hrun, hended, hW, hsame⟩ := X28.leave (v := some (.int (1 : Int32))) (fun h => by rw [Bd.returns] at h; cases h)
        refine own_at ?_ (hG _ _ ⟨hrun, hended, _, _, rfl, ?_, ⟨_, rfl⟩, hW, hsame.mono (by decide) (by decide)⟩)
        · show Steps p.tables e below (T28.setTop (mkF m 130 #[.val (.int p0), .val (.int p1), .val (.int (0 : Int32)), .val (.ref wL), .val (.int md), .val (.int cp), .val (.int (1 : Int32))] [(.int (1 : Int32))])) _
          exact retN X28 hx (t := .boolean) Bd.returns (by simp) (hb hby at_130) hr
        · show Q0 Z p0 p1 wU wL wT cl h0 n0 _ T28.heap _
          rw [e28q]
          exact ⟨rfl, N28⟩
    refine own_go (B := T24.setTop (mkF m 35 #[.val (.int p0), .val (.int p1), .val (.int (0 : Int32)), .val (.ref wL), .val (.int (((p0.toUInt32 >>> ((1 : Int32) &&& 31).toUInt32).toInt32) &&& (3 : Int32))), .unset, .unset] [(.int (((p0.toUInt32 >>> ((1 : Int32) &&& 31).toUInt32).toInt32) &&& (3 : Int32)))])) (fun t_ k_ => ?_) ?_
    · show Steps p.tables e below (T24.setTop (mkF m 26 #[.val (.int p0), .val (.int p1), .val (.int (0 : Int32)), .val (.ref wL), .unset, .unset, .unset] [])) _
      refine XS.iloadN X24.here hx rfl (hb hby at_26) rfl ?_
      show Steps p.tables e below (T24.setTop (mkF m 27 #[.val (.int p0), .val (.int p1), .val (.int (0 : Int32)), .val (.ref wL), .unset, .unset, .unset] [(.int p0)])) _
      refine XS.iconst X24.here hx rfl (hb hby at_27) ?_
      show Steps p.tables e below (T24.setTop (mkF m 28 #[.val (.int p0), .val (.int p1), .val (.int (0 : Int32)), .val (.ref wL), .unset, .unset, .unset] [(.int (1 : Int32)), (.int p0)])) _
      refine XS.iushr X24.here hx rfl (hb hby at_28) rfl ?_
      show Steps p.tables e below (T24.setTop (mkF m 29 #[.val (.int p0), .val (.int p1), .val (.int (0 : Int32)), .val (.ref wL), .unset, .unset, .unset] [(.int ((p0.toUInt32 >>> ((1 : Int32) &&& 31).toUInt32).toInt32))])) _
      refine XS.iconst X24.here hx rfl (hb hby at_29) ?_
      show Steps p.tables e below (T24.setTop (mkF m 30 #[.val (.int p0), .val (.int p1), .val (.int (0 : Int32)), .val (.ref wL), .unset, .unset, .unset] [(.int (3 : Int32)), (.int ((p0.toUInt32 >>> ((1 : Int32) &&& 31).toUInt32).toInt32))])) _
      refine XS.iand X24.here hx rfl (hb hby at_30) rfl ?_
      show Steps p.tables e below (T24.setTop (mkF m 31 #[.val (.int p0), .val (.int p1), .val (.int (0 : Int32)), .val (.ref wL), .unset, .unset, .unset] [(.int (((p0.toUInt32 >>> ((1 : Int32) &&& 31).toUInt32).toInt32) &&& (3 : Int32)))])) _
      refine XS.istore X24.here hx rfl (hb hby at_31) rfl (l' := #[.val (.int p0), .val (.int p1), .val (.int (0 : Int32)), .val (.ref wL), .val (.int (((p0.toUInt32 >>> ((1 : Int32) &&& 31).toUInt32).toInt32) &&& (3 : Int32))), .unset, .unset]) rfl ?_
      show Steps p.tables e below (T24.setTop (mkF m 33 #[.val (.int p0), .val (.int p1), .val (.int (0 : Int32)), .val (.ref wL), .val (.int (((p0.toUInt32 >>> ((1 : Int32) &&& 31).toUInt32).toInt32) &&& (3 : Int32))), .unset, .unset] [])) _
      refine XS.iload X24.here hx rfl (hb hby at_33) rfl ?_
      show Steps p.tables e below (T24.setTop (mkF m 35 #[.val (.int p0), .val (.int p1), .val (.int (0 : Int32)), .val (.ref wL), .val (.int (((p0.toUInt32 >>> ((1 : Int32) &&& 31).toUInt32).toInt32) &&& (3 : Int32))), .unset, .unset] [(.int (((p0.toUInt32 >>> ((1 : Int32) &&& 31).toUInt32).toInt32) &&& (3 : Int32)))])) _
      exact k_
    by_cases hc35 : (((p0.toUInt32 >>> ((1 : Int32) &&& 31).toUInt32).toInt32) &&& (3 : Int32)) = (0 : Int32)
    · refine own_go (B := T24.setTop (mkF m 84 #[.val (.int p0), .val (.int p1), .val (.int (0 : Int32)), .val (.ref wL), .val (.int (((p0.toUInt32 >>> ((1 : Int32) &&& 31).toUInt32).toInt32) &&& (3 : Int32))), .val (.int (p1 &&& (127 : Int32))), .unset] [])) (fun t_ k_ => ?_) ?_
      · show Steps p.tables e below (T24.setTop (mkF m 35 #[.val (.int p0), .val (.int p1), .val (.int (0 : Int32)), .val (.ref wL), .val (.int (((p0.toUInt32 >>> ((1 : Int32) &&& 31).toUInt32).toInt32) &&& (3 : Int32))), .unset, .unset] [(.int (((p0.toUInt32 >>> ((1 : Int32) &&& 31).toUInt32).toInt32) &&& (3 : Int32)))])) _
        refine XS.ifNo X24.here hx rfl (hb hby at_35) rfl ((if0 _ _).trans (teq hc35).2) ?_
        show Steps p.tables e below (T24.setTop (mkF m 38 #[.val (.int p0), .val (.int p1), .val (.int (0 : Int32)), .val (.ref wL), .val (.int (((p0.toUInt32 >>> ((1 : Int32) &&& 31).toUInt32).toInt32) &&& (3 : Int32))), .unset, .unset] [])) _
        refine XS.iloadN X24.here hx rfl (hb hby at_38) rfl ?_
        show Steps p.tables e below (T24.setTop (mkF m 39 #[.val (.int p0), .val (.int p1), .val (.int (0 : Int32)), .val (.ref wL), .val (.int (((p0.toUInt32 >>> ((1 : Int32) &&& 31).toUInt32).toInt32) &&& (3 : Int32))), .unset, .unset] [(.int p1)])) _
        refine XS.bipush X24.here hx rfl (hb hby at_39) ?_
        show Steps p.tables e below (T24.setTop (mkF m 41 #[.val (.int p0), .val (.int p1), .val (.int (0 : Int32)), .val (.ref wL), .val (.int (((p0.toUInt32 >>> ((1 : Int32) &&& 31).toUInt32).toInt32) &&& (3 : Int32))), .unset, .unset] [(.int (127 : Int32)), (.int p1)])) _
        refine XS.iand X24.here hx rfl (hb hby at_41) rfl ?_
        show Steps p.tables e below (T24.setTop (mkF m 42 #[.val (.int p0), .val (.int p1), .val (.int (0 : Int32)), .val (.ref wL), .val (.int (((p0.toUInt32 >>> ((1 : Int32) &&& 31).toUInt32).toInt32) &&& (3 : Int32))), .unset, .unset] [(.int (p1 &&& (127 : Int32)))])) _
        refine XS.istore X24.here hx rfl (hb hby at_42) rfl (l' := #[.val (.int p0), .val (.int p1), .val (.int (0 : Int32)), .val (.ref wL), .val (.int (((p0.toUInt32 >>> ((1 : Int32) &&& 31).toUInt32).toInt32) &&& (3 : Int32))), .val (.int (p1 &&& (127 : Int32))), .unset]) rfl ?_
        show Steps p.tables e below (T24.setTop (mkF m 44 #[.val (.int p0), .val (.int p1), .val (.int (0 : Int32)), .val (.ref wL), .val (.int (((p0.toUInt32 >>> ((1 : Int32) &&& 31).toUInt32).toInt32) &&& (3 : Int32))), .val (.int (p1 &&& (127 : Int32))), .unset] [])) _
        refine XS.goto X24.here hx rfl (pc0 := 44) (pc' := 84) rfl (hb hby at_44) (by decide) (by decide) ?_
        show Steps p.tables e below (T24.setTop (mkF m 84 #[.val (.int p0), .val (.int p1), .val (.int (0 : Int32)), .val (.ref wL), .val (.int (((p0.toUInt32 >>> ((1 : Int32) &&& 31).toUInt32).toInt32) &&& (3 : Int32))), .val (.int (p1 &&& (127 : Int32))), .unset] [])) _
        exact k_
      exact K84 _ _ (own_nn _ _ (by decide))
    · refine own_go (B := T24.setTop (mkF m 50 #[.val (.int p0), .val (.int p1), .val (.int (0 : Int32)), .val (.ref wL), .val (.int (((p0.toUInt32 >>> ((1 : Int32) &&& 31).toUInt32).toInt32) &&& (3 : Int32))), .unset, .unset] [(.int (1 : Int32)), (.int (((p0.toUInt32 >>> ((1 : Int32) &&& 31).toUInt32).toInt32) &&& (3 : Int32)))])) (fun t_ k_ => ?_) ?_
      · show Steps p.tables e below (T24.setTop (mkF m 35 #[.val (.int p0), .val (.int p1), .val (.int (0 : Int32)), .val (.ref wL), .val (.int (((p0.toUInt32 >>> ((1 : Int32) &&& 31).toUInt32).toInt32) &&& (3 : Int32))), .unset, .unset] [(.int (((p0.toUInt32 >>> ((1 : Int32) &&& 31).toUInt32).toInt32) &&& (3 : Int32)))])) _
        refine XS.ifYes X24.here hx rfl (pc0 := 35) (pc' := 47) rfl (hb hby at_35) rfl ((if0 _ _).trans (feq hc35).2) (by decide) (by decide) ?_
        show Steps p.tables e below (T24.setTop (mkF m 47 #[.val (.int p0), .val (.int p1), .val (.int (0 : Int32)), .val (.ref wL), .val (.int (((p0.toUInt32 >>> ((1 : Int32) &&& 31).toUInt32).toInt32) &&& (3 : Int32))), .unset, .unset] [])) _
        refine XS.iload X24.here hx rfl (hb hby at_47) rfl ?_
        show Steps p.tables e below (T24.setTop (mkF m 49 #[.val (.int p0), .val (.int p1), .val (.int (0 : Int32)), .val (.ref wL), .val (.int (((p0.toUInt32 >>> ((1 : Int32) &&& 31).toUInt32).toInt32) &&& (3 : Int32))), .unset, .unset] [(.int (((p0.toUInt32 >>> ((1 : Int32) &&& 31).toUInt32).toInt32) &&& (3 : Int32)))])) _
        refine XS.iconst X24.here hx rfl (hb hby at_49) ?_
        show Steps p.tables e below (T24.setTop (mkF m 50 #[.val (.int p0), .val (.int p1), .val (.int (0 : Int32)), .val (.ref wL), .val (.int (((p0.toUInt32 >>> ((1 : Int32) &&& 31).toUInt32).toInt32) &&& (3 : Int32))), .unset, .unset] [(.int (1 : Int32)), (.int (((p0.toUInt32 >>> ((1 : Int32) &&& 31).toUInt32).toInt32) &&& (3 : Int32)))])) _
        exact k_
      by_cases hc50 : (((p0.toUInt32 >>> ((1 : Int32) &&& 31).toUInt32).toInt32) &&& (3 : Int32)) = (1 : Int32)
      · refine own_go (B := T24.setTop (mkF m 84 #[.val (.int p0), .val (.int p1), .val (.int (0 : Int32)), .val (.ref wL), .val (.int (((p0.toUInt32 >>> ((1 : Int32) &&& 31).toUInt32).toInt32) &&& (3 : Int32))), .val (.int (p1 &&& (255 : Int32))), .unset] [])) (fun t_ k_ => ?_) ?_
        · show Steps p.tables e below (T24.setTop (mkF m 50 #[.val (.int p0), .val (.int p1), .val (.int (0 : Int32)), .val (.ref wL), .val (.int (((p0.toUInt32 >>> ((1 : Int32) &&& 31).toUInt32).toInt32) &&& (3 : Int32))), .unset, .unset] [(.int (1 : Int32)), (.int (((p0.toUInt32 >>> ((1 : Int32) &&& 31).toUInt32).toInt32) &&& (3 : Int32)))])) _
          refine XS.icmpNo X24.here hx rfl (hb hby at_50) rfl (teq hc50).2 ?_
          show Steps p.tables e below (T24.setTop (mkF m 53 #[.val (.int p0), .val (.int p1), .val (.int (0 : Int32)), .val (.ref wL), .val (.int (((p0.toUInt32 >>> ((1 : Int32) &&& 31).toUInt32).toInt32) &&& (3 : Int32))), .unset, .unset] [])) _
          refine XS.iloadN X24.here hx rfl (hb hby at_53) rfl ?_
          show Steps p.tables e below (T24.setTop (mkF m 54 #[.val (.int p0), .val (.int p1), .val (.int (0 : Int32)), .val (.ref wL), .val (.int (((p0.toUInt32 >>> ((1 : Int32) &&& 31).toUInt32).toInt32) &&& (3 : Int32))), .unset, .unset] [(.int p1)])) _
          refine XS.sipush X24.here hx rfl (hb hby at_54) ?_
          show Steps p.tables e below (T24.setTop (mkF m 57 #[.val (.int p0), .val (.int p1), .val (.int (0 : Int32)), .val (.ref wL), .val (.int (((p0.toUInt32 >>> ((1 : Int32) &&& 31).toUInt32).toInt32) &&& (3 : Int32))), .unset, .unset] [(.int (255 : Int32)), (.int p1)])) _
          refine XS.iand X24.here hx rfl (hb hby at_57) rfl ?_
          show Steps p.tables e below (T24.setTop (mkF m 58 #[.val (.int p0), .val (.int p1), .val (.int (0 : Int32)), .val (.ref wL), .val (.int (((p0.toUInt32 >>> ((1 : Int32) &&& 31).toUInt32).toInt32) &&& (3 : Int32))), .unset, .unset] [(.int (p1 &&& (255 : Int32)))])) _
          refine XS.istore X24.here hx rfl (hb hby at_58) rfl (l' := #[.val (.int p0), .val (.int p1), .val (.int (0 : Int32)), .val (.ref wL), .val (.int (((p0.toUInt32 >>> ((1 : Int32) &&& 31).toUInt32).toInt32) &&& (3 : Int32))), .val (.int (p1 &&& (255 : Int32))), .unset]) rfl ?_
          show Steps p.tables e below (T24.setTop (mkF m 60 #[.val (.int p0), .val (.int p1), .val (.int (0 : Int32)), .val (.ref wL), .val (.int (((p0.toUInt32 >>> ((1 : Int32) &&& 31).toUInt32).toInt32) &&& (3 : Int32))), .val (.int (p1 &&& (255 : Int32))), .unset] [])) _
          refine XS.goto X24.here hx rfl (pc0 := 60) (pc' := 84) rfl (hb hby at_60) (by decide) (by decide) ?_
          show Steps p.tables e below (T24.setTop (mkF m 84 #[.val (.int p0), .val (.int p1), .val (.int (0 : Int32)), .val (.ref wL), .val (.int (((p0.toUInt32 >>> ((1 : Int32) &&& 31).toUInt32).toInt32) &&& (3 : Int32))), .val (.int (p1 &&& (255 : Int32))), .unset] [])) _
          exact k_
        exact K84 _ _ (own_nn _ _ (by decide))
      · refine own_go (B := T24.setTop (mkF m 66 #[.val (.int p0), .val (.int p1), .val (.int (0 : Int32)), .val (.ref wL), .val (.int (((p0.toUInt32 >>> ((1 : Int32) &&& 31).toUInt32).toInt32) &&& (3 : Int32))), .unset, .unset] [(.int (2 : Int32)), (.int (((p0.toUInt32 >>> ((1 : Int32) &&& 31).toUInt32).toInt32) &&& (3 : Int32)))])) (fun t_ k_ => ?_) ?_
        · show Steps p.tables e below (T24.setTop (mkF m 50 #[.val (.int p0), .val (.int p1), .val (.int (0 : Int32)), .val (.ref wL), .val (.int (((p0.toUInt32 >>> ((1 : Int32) &&& 31).toUInt32).toInt32) &&& (3 : Int32))), .unset, .unset] [(.int (1 : Int32)), (.int (((p0.toUInt32 >>> ((1 : Int32) &&& 31).toUInt32).toInt32) &&& (3 : Int32)))])) _
          refine XS.icmpYes X24.here hx rfl (pc0 := 50) (pc' := 63) rfl (hb hby at_50) rfl (feq hc50).2 (by decide) (by decide) ?_
          show Steps p.tables e below (T24.setTop (mkF m 63 #[.val (.int p0), .val (.int p1), .val (.int (0 : Int32)), .val (.ref wL), .val (.int (((p0.toUInt32 >>> ((1 : Int32) &&& 31).toUInt32).toInt32) &&& (3 : Int32))), .unset, .unset] [])) _
          refine XS.iload X24.here hx rfl (hb hby at_63) rfl ?_
          show Steps p.tables e below (T24.setTop (mkF m 65 #[.val (.int p0), .val (.int p1), .val (.int (0 : Int32)), .val (.ref wL), .val (.int (((p0.toUInt32 >>> ((1 : Int32) &&& 31).toUInt32).toInt32) &&& (3 : Int32))), .unset, .unset] [(.int (((p0.toUInt32 >>> ((1 : Int32) &&& 31).toUInt32).toInt32) &&& (3 : Int32)))])) _
          refine XS.iconst X24.here hx rfl (hb hby at_65) ?_
          show Steps p.tables e below (T24.setTop (mkF m 66 #[.val (.int p0), .val (.int p1), .val (.int (0 : Int32)), .val (.ref wL), .val (.int (((p0.toUInt32 >>> ((1 : Int32) &&& 31).toUInt32).toInt32) &&& (3 : Int32))), .unset, .unset] [(.int (2 : Int32)), (.int (((p0.toUInt32 >>> ((1 : Int32) &&& 31).toUInt32).toInt32) &&& (3 : Int32)))])) _
          exact k_
        by_cases hc66 : (((p0.toUInt32 >>> ((1 : Int32) &&& 31).toUInt32).toInt32) &&& (3 : Int32)) = (2 : Int32)
        · refine own_go (B := T24.setTop (mkF m 84 #[.val (.int p0), .val (.int p1), .val (.int (0 : Int32)), .val (.ref wL), .val (.int (((p0.toUInt32 >>> ((1 : Int32) &&& 31).toUInt32).toInt32) &&& (3 : Int32))), .val (.int (p1 &&& (65535 : Int32))), .unset] [])) (fun t_ k_ => ?_) ?_
          · show Steps p.tables e below (T24.setTop (mkF m 66 #[.val (.int p0), .val (.int p1), .val (.int (0 : Int32)), .val (.ref wL), .val (.int (((p0.toUInt32 >>> ((1 : Int32) &&& 31).toUInt32).toInt32) &&& (3 : Int32))), .unset, .unset] [(.int (2 : Int32)), (.int (((p0.toUInt32 >>> ((1 : Int32) &&& 31).toUInt32).toInt32) &&& (3 : Int32)))])) _
            refine XS.icmpNo X24.here hx rfl (hb hby at_66) rfl (teq hc66).2 ?_
            show Steps p.tables e below (T24.setTop (mkF m 69 #[.val (.int p0), .val (.int p1), .val (.int (0 : Int32)), .val (.ref wL), .val (.int (((p0.toUInt32 >>> ((1 : Int32) &&& 31).toUInt32).toInt32) &&& (3 : Int32))), .unset, .unset] [])) _
            refine XS.iloadN X24.here hx rfl (hb hby at_69) rfl ?_
            show Steps p.tables e below (T24.setTop (mkF m 70 #[.val (.int p0), .val (.int p1), .val (.int (0 : Int32)), .val (.ref wL), .val (.int (((p0.toUInt32 >>> ((1 : Int32) &&& 31).toUInt32).toInt32) &&& (3 : Int32))), .unset, .unset] [(.int p1)])) _
            refine X24.ldcInt hx hown (mvT hZ (hw _ (List.mem_of_getElem? (i := 17) rfl))) (g := (mkF m 70 #[.val (.int p0), .val (.int p1), .val (.int (0 : Int32)), .val (.ref wL), .val (.int (((p0.toUInt32 >>> ((1 : Int32) &&& 31).toUInt32).toInt32) &&& (3 : Int32))), .unset, .unset] [(.int p1)])) rfl (hb hby at_70) _ ?_
            show Steps p.tables e below (T24.setTop (mkF m 72 #[.val (.int p0), .val (.int p1), .val (.int (0 : Int32)), .val (.ref wL), .val (.int (((p0.toUInt32 >>> ((1 : Int32) &&& 31).toUInt32).toInt32) &&& (3 : Int32))), .unset, .unset] [(.int (65535 : Int32)), (.int p1)])) _
            refine XS.iand X24.here hx rfl (hb hby at_72) rfl ?_
            show Steps p.tables e below (T24.setTop (mkF m 73 #[.val (.int p0), .val (.int p1), .val (.int (0 : Int32)), .val (.ref wL), .val (.int (((p0.toUInt32 >>> ((1 : Int32) &&& 31).toUInt32).toInt32) &&& (3 : Int32))), .unset, .unset] [(.int (p1 &&& (65535 : Int32)))])) _
            refine XS.istore X24.here hx rfl (hb hby at_73) rfl (l' := #[.val (.int p0), .val (.int p1), .val (.int (0 : Int32)), .val (.ref wL), .val (.int (((p0.toUInt32 >>> ((1 : Int32) &&& 31).toUInt32).toInt32) &&& (3 : Int32))), .val (.int (p1 &&& (65535 : Int32))), .unset]) rfl ?_
            show Steps p.tables e below (T24.setTop (mkF m 75 #[.val (.int p0), .val (.int p1), .val (.int (0 : Int32)), .val (.ref wL), .val (.int (((p0.toUInt32 >>> ((1 : Int32) &&& 31).toUInt32).toInt32) &&& (3 : Int32))), .val (.int (p1 &&& (65535 : Int32))), .unset] [])) _
            refine XS.goto X24.here hx rfl (pc0 := 75) (pc' := 84) rfl (hb hby at_75) (by decide) (by decide) ?_
            show Steps p.tables e below (T24.setTop (mkF m 84 #[.val (.int p0), .val (.int p1), .val (.int (0 : Int32)), .val (.ref wL), .val (.int (((p0.toUInt32 >>> ((1 : Int32) &&& 31).toUInt32).toInt32) &&& (3 : Int32))), .val (.int (p1 &&& (65535 : Int32))), .unset] [])) _
            exact k_
          exact K84 _ _ (own_nn _ _ (by decide))
        · refine own_go (B := T24.setTop (mkF m 84 #[.val (.int p0), .val (.int p1), .val (.int (0 : Int32)), .val (.ref wL), .val (.int (((p0.toUInt32 >>> ((1 : Int32) &&& 31).toUInt32).toInt32) &&& (3 : Int32))), .val (.int (p1 &&& (2147483647 : Int32))), .unset] [])) (fun t_ k_ => ?_) ?_
          · show Steps p.tables e below (T24.setTop (mkF m 66 #[.val (.int p0), .val (.int p1), .val (.int (0 : Int32)), .val (.ref wL), .val (.int (((p0.toUInt32 >>> ((1 : Int32) &&& 31).toUInt32).toInt32) &&& (3 : Int32))), .unset, .unset] [(.int (2 : Int32)), (.int (((p0.toUInt32 >>> ((1 : Int32) &&& 31).toUInt32).toInt32) &&& (3 : Int32)))])) _
            refine XS.icmpYes X24.here hx rfl (pc0 := 66) (pc' := 78) rfl (hb hby at_66) rfl (feq hc66).2 (by decide) (by decide) ?_
            show Steps p.tables e below (T24.setTop (mkF m 78 #[.val (.int p0), .val (.int p1), .val (.int (0 : Int32)), .val (.ref wL), .val (.int (((p0.toUInt32 >>> ((1 : Int32) &&& 31).toUInt32).toInt32) &&& (3 : Int32))), .unset, .unset] [])) _
            refine XS.iloadN X24.here hx rfl (hb hby at_78) rfl ?_
            show Steps p.tables e below (T24.setTop (mkF m 79 #[.val (.int p0), .val (.int p1), .val (.int (0 : Int32)), .val (.ref wL), .val (.int (((p0.toUInt32 >>> ((1 : Int32) &&& 31).toUInt32).toInt32) &&& (3 : Int32))), .unset, .unset] [(.int p1)])) _
            refine X24.ldcInt hx hown (mvT hZ (hw _ (List.mem_of_getElem? (i := 16) rfl))) (g := (mkF m 79 #[.val (.int p0), .val (.int p1), .val (.int (0 : Int32)), .val (.ref wL), .val (.int (((p0.toUInt32 >>> ((1 : Int32) &&& 31).toUInt32).toInt32) &&& (3 : Int32))), .unset, .unset] [(.int p1)])) rfl (hb hby at_79) _ ?_
            show Steps p.tables e below (T24.setTop (mkF m 81 #[.val (.int p0), .val (.int p1), .val (.int (0 : Int32)), .val (.ref wL), .val (.int (((p0.toUInt32 >>> ((1 : Int32) &&& 31).toUInt32).toInt32) &&& (3 : Int32))), .unset, .unset] [(.int (2147483647 : Int32)), (.int p1)])) _
            refine XS.iand X24.here hx rfl (hb hby at_81) rfl ?_
            show Steps p.tables e below (T24.setTop (mkF m 82 #[.val (.int p0), .val (.int p1), .val (.int (0 : Int32)), .val (.ref wL), .val (.int (((p0.toUInt32 >>> ((1 : Int32) &&& 31).toUInt32).toInt32) &&& (3 : Int32))), .unset, .unset] [(.int (p1 &&& (2147483647 : Int32)))])) _
            refine XS.istore X24.here hx rfl (hb hby at_82) rfl (l' := #[.val (.int p0), .val (.int p1), .val (.int (0 : Int32)), .val (.ref wL), .val (.int (((p0.toUInt32 >>> ((1 : Int32) &&& 31).toUInt32).toInt32) &&& (3 : Int32))), .val (.int (p1 &&& (2147483647 : Int32))), .unset]) rfl ?_
            show Steps p.tables e below (T24.setTop (mkF m 84 #[.val (.int p0), .val (.int p1), .val (.int (0 : Int32)), .val (.ref wL), .val (.int (((p0.toUInt32 >>> ((1 : Int32) &&& 31).toUInt32).toInt32) &&& (3 : Int32))), .val (.int (p1 &&& (2147483647 : Int32))), .unset] [])) _
            exact k_
          exact K84 _ _ (own_nn _ _ (by decide))
  · refine own_go (B := s₁.setTop (mkF m 16 #[.val (.int p0), .val (.int p1), .val (.int (1 : Int32)), .unset, .unset, .unset, .unset] [])) (fun t_ k_ => ?_) ?_
    · show Steps p.tables e below (s₁.setTop (mkF m 3 #[.val (.int p0), .val (.int p1), .unset, .unset, .unset, .unset, .unset] [(.int (p0 &&& (1 : Int32)))])) _
      refine XS.ifNo X0.here hx rfl (hb hby at_3) rfl ((if0 _ _).trans (feq hc3).1) ?_
      show Steps p.tables e below (s₁.setTop (mkF m 6 #[.val (.int p0), .val (.int p1), .unset, .unset, .unset, .unset, .unset] [])) _
      refine XS.iconst X0.here hx rfl (hb hby at_6) ?_
      show Steps p.tables e below (s₁.setTop (mkF m 7 #[.val (.int p0), .val (.int p1), .unset, .unset, .unset, .unset, .unset] [(.int (1 : Int32))])) _
      refine XS.goto X0.here hx rfl (pc0 := 7) (pc' := 11) rfl (hb hby at_7) (by decide) (by decide) ?_
      show Steps p.tables e below (s₁.setTop (mkF m 11 #[.val (.int p0), .val (.int p1), .unset, .unset, .unset, .unset, .unset] [(.int (1 : Int32))])) _
      refine XS.istoreN X0.here hx rfl (hb hby at_11) rfl (l' := #[.val (.int p0), .val (.int p1), .val (.int (1 : Int32)), .unset, .unset, .unset, .unset]) rfl ?_
      show Steps p.tables e below (s₁.setTop (mkF m 12 #[.val (.int p0), .val (.int p1), .val (.int (1 : Int32)), .unset, .unset, .unset, .unset] [])) _
      refine XS.iloadN X0.here hx rfl (hb hby at_12) rfl ?_
      show Steps p.tables e below (s₁.setTop (mkF m 13 #[.val (.int p0), .val (.int p1), .val (.int (1 : Int32)), .unset, .unset, .unset, .unset] [(.int (1 : Int32))])) _
      refine XS.ifNo X0.here hx rfl (hb hby at_13) rfl ((if0 _ _).trans (feq (by decide : ¬ ((1 : Int32) = (0 : Int32)))).1) ?_
      show Steps p.tables e below (s₁.setTop (mkF m 16 #[.val (.int p0), .val (.int p1), .val (.int (1 : Int32)), .unset, .unset, .unset, .unset] [])) _
      exact k_
    obtain ⟨T30, X30, e30, st30⟩ := getS2 X0 hx hZ hown (host := "") (Or.inl (hw _ (List.mem_of_getElem? (i := 18) rfl))) Via.refl e0 (SU.ext O0.2) (g := (mkF m 16 #[.val (.int p0), .val (.int p1), .val (.int (1 : Int32)), .unset, .unset, .unset, .unset] [])) rfl (hb hby at_16)
    refine own_go (B := T30.setTop (mkF m 19 #[.val (.int p0), .val (.int p1), .val (.int (1 : Int32)), .unset, .unset, .unset, .unset] [(.ref wU)])) (fun t_ k_ => st30 _ k_) ?_
    refine own_go (B := T30.setTop (mkF m 26 #[.val (.int p0), .val (.int p1), .val (.int (1 : Int32)), .val (.ref wU), .unset, .unset, .unset] [])) (fun t_ k_ => ?_) ?_
    · show Steps p.tables e below (T30.setTop (mkF m 19 #[.val (.int p0), .val (.int p1), .val (.int (1 : Int32)), .unset, .unset, .unset, .unset] [(.ref wU)])) _
      refine XS.goto X30.here hx rfl (pc0 := 19) (pc' := 25) rfl (hb hby at_19) (by decide) (by decide) ?_
      show Steps p.tables e below (T30.setTop (mkF m 25 #[.val (.int p0), .val (.int p1), .val (.int (1 : Int32)), .unset, .unset, .unset, .unset] [(.ref wU)])) _
      refine XS.astoreN X30.here hx rfl (hb hby at_25) rfl rfl (l' := #[.val (.int p0), .val (.int p1), .val (.int (1 : Int32)), .val (.ref wU), .unset, .unset, .unset]) rfl ?_
      show Steps p.tables e below (T30.setTop (mkF m 26 #[.val (.int p0), .val (.int p1), .val (.int (1 : Int32)), .val (.ref wU), .unset, .unset, .unset] [])) _
      exact k_
    have K84 : ∀ md cp : Int32, ¬ cp < 0 → own_R p.tables e below G (T30.setTop (mkF m 84 #[.val (.int p0), .val (.int p1), .val (.int (1 : Int32)), .val (.ref wU), .val (.int md), .val (.int cp), .unset] [])) := by
      intro md cp hcp
      refine own_go (B := T30.setTop (mkF m 117 #[.val (.int p0), .val (.int p1), .val (.int (1 : Int32)), .val (.ref wU), .val (.int md), .val (.int (cp - (cp / (1114112 : Int32)) * (1114112 : Int32))), .val (.int (1 : Int32))] [(.int (cp - (cp / (1114112 : Int32)) * (1114112 : Int32))), (.ref wU)])) (fun t_ k_ => ?_) ?_
      · show Steps p.tables e below (T30.setTop (mkF m 84 #[.val (.int p0), .val (.int p1), .val (.int (1 : Int32)), .val (.ref wU), .val (.int md), .val (.int cp), .unset] [])) _
        refine XS.iloadN X30.here hx rfl (hb hby at_84) rfl ?_
        show Steps p.tables e below (T30.setTop (mkF m 85 #[.val (.int p0), .val (.int p1), .val (.int (1 : Int32)), .val (.ref wU), .val (.int md), .val (.int cp), .unset] [(.int (1 : Int32))])) _
        refine XS.ifNo X30.here hx rfl (hb hby at_85) rfl ((if0 _ _).trans (feq (by decide : ¬ ((1 : Int32) = (0 : Int32)))).1) ?_
        show Steps p.tables e below (T30.setTop (mkF m 88 #[.val (.int p0), .val (.int p1), .val (.int (1 : Int32)), .val (.ref wU), .val (.int md), .val (.int cp), .unset] [])) _
        refine XS.iload X30.here hx rfl (hb hby at_88) rfl ?_
        show Steps p.tables e below (T30.setTop (mkF m 90 #[.val (.int p0), .val (.int p1), .val (.int (1 : Int32)), .val (.ref wU), .val (.int md), .val (.int cp), .unset] [(.int cp)])) _
        refine X30.ldcInt hx hown (mvT hZ (hw _ (List.mem_of_getElem? (i := 19) rfl))) (g := (mkF m 90 #[.val (.int p0), .val (.int p1), .val (.int (1 : Int32)), .val (.ref wU), .val (.int md), .val (.int cp), .unset] [(.int cp)])) rfl (hb hby at_90) _ ?_
        show Steps p.tables e below (T30.setTop (mkF m 92 #[.val (.int p0), .val (.int p1), .val (.int (1 : Int32)), .val (.ref wU), .val (.int md), .val (.int cp), .unset] [(.int (1114112 : Int32)), (.int cp)])) _
        refine XS.irem X30.here hx rfl (hb hby at_92) rfl (by decide) ?_
        show Steps p.tables e below (T30.setTop (mkF m 93 #[.val (.int p0), .val (.int p1), .val (.int (1 : Int32)), .val (.ref wU), .val (.int md), .val (.int cp), .unset] [(.int (cp - (cp / (1114112 : Int32)) * (1114112 : Int32)))])) _
        refine XS.istore X30.here hx rfl (hb hby at_93) rfl (l' := #[.val (.int p0), .val (.int p1), .val (.int (1 : Int32)), .val (.ref wU), .val (.int md), .val (.int (cp - (cp / (1114112 : Int32)) * (1114112 : Int32))), .unset]) rfl ?_
        show Steps p.tables e below (T30.setTop (mkF m 95 #[.val (.int p0), .val (.int p1), .val (.int (1 : Int32)), .val (.ref wU), .val (.int md), .val (.int (cp - (cp / (1114112 : Int32)) * (1114112 : Int32))), .unset] [])) _
        refine XS.iloadN X30.here hx rfl (hb hby at_95) rfl ?_
        show Steps p.tables e below (T30.setTop (mkF m 96 #[.val (.int p0), .val (.int p1), .val (.int (1 : Int32)), .val (.ref wU), .val (.int md), .val (.int (cp - (cp / (1114112 : Int32)) * (1114112 : Int32))), .unset] [(.int (1 : Int32))])) _
        refine XS.ifYes X30.here hx rfl (pc0 := 96) (pc' := 107) rfl (hb hby at_96) rfl ((if0 _ _).trans (feq (by decide : ¬ ((1 : Int32) = (0 : Int32)))).2) (by decide) (by decide) ?_
        show Steps p.tables e below (T30.setTop (mkF m 107 #[.val (.int p0), .val (.int p1), .val (.int (1 : Int32)), .val (.ref wU), .val (.int md), .val (.int (cp - (cp / (1114112 : Int32)) * (1114112 : Int32))), .unset] [])) _
        refine XS.iconst X30.here hx rfl (hb hby at_107) ?_
        show Steps p.tables e below (T30.setTop (mkF m 108 #[.val (.int p0), .val (.int p1), .val (.int (1 : Int32)), .val (.ref wU), .val (.int md), .val (.int (cp - (cp / (1114112 : Int32)) * (1114112 : Int32))), .unset] [(.int (1 : Int32))])) _
        refine XS.goto X30.here hx rfl (pc0 := 108) (pc' := 112) rfl (hb hby at_108) (by decide) (by decide) ?_
        show Steps p.tables e below (T30.setTop (mkF m 112 #[.val (.int p0), .val (.int p1), .val (.int (1 : Int32)), .val (.ref wU), .val (.int md), .val (.int (cp - (cp / (1114112 : Int32)) * (1114112 : Int32))), .unset] [(.int (1 : Int32))])) _
        refine XS.istore X30.here hx rfl (hb hby at_112) rfl (l' := #[.val (.int p0), .val (.int p1), .val (.int (1 : Int32)), .val (.ref wU), .val (.int md), .val (.int (cp - (cp / (1114112 : Int32)) * (1114112 : Int32))), .val (.int (1 : Int32))]) rfl ?_
        show Steps p.tables e below (T30.setTop (mkF m 114 #[.val (.int p0), .val (.int p1), .val (.int (1 : Int32)), .val (.ref wU), .val (.int md), .val (.int (cp - (cp / (1114112 : Int32)) * (1114112 : Int32))), .val (.int (1 : Int32))] [])) _
        refine XS.aloadN X30.here hx rfl (hb hby at_114) rfl rfl ?_
        show Steps p.tables e below (T30.setTop (mkF m 115 #[.val (.int p0), .val (.int p1), .val (.int (1 : Int32)), .val (.ref wU), .val (.int md), .val (.int (cp - (cp / (1114112 : Int32)) * (1114112 : Int32))), .val (.int (1 : Int32))] [(.ref wU)])) _
        refine XS.iload X30.here hx rfl (hb hby at_115) rfl ?_
        show Steps p.tables e below (T30.setTop (mkF m 117 #[.val (.int p0), .val (.int p1), .val (.int (1 : Int32)), .val (.ref wU), .val (.int md), .val (.int (cp - (cp / (1114112 : Int32)) * (1114112 : Int32))), .val (.int (1 : Int32))] [(.int (cp - (cp / (1114112 : Int32)) * (1114112 : Int32))), (.ref wU)])) _
        exact k_
      obtain ⟨cq31, kq31, q31a, q31b, q31c⟩ := isOf hZ e30 EU
      obtain ⟨_, _, ⟨T31, L31, k31, n31⟩, -, X31, ⟨Lc31, hQ31, l31, y31, z31⟩, st31⟩ := X30.virtualBack hx (y := (⟨"com/example/lastschrift/lastschrift/rules/CharacterSet", "contains", "(I)Z"⟩ : MethodName)) (z := (⟨"com/example/lastschrift/lastschrift/rules/CharacterSet", "contains", "(I)Z"⟩ : MethodName)) hown (mvT hZ (hw _ (List.mem_of_getElem? (i := 7) rfl))) (mvT hZ (hw _ (List.mem_of_getElem? (i := 8) rfl))) (notFace_of_selects (args := #[]) (mvT hZ (hw _ (List.mem_of_getElem? (i := 10) rfl)))) (mvT hZ (hw _ (List.mem_of_getElem? (i := 10) rfl))) (mvT hZ (hw _ (List.mem_of_getElem? (i := 9) rfl))) (by decide) (backOf (W := 0) (rmU l Z a0 hw [] wU (cp - (cp / (1114112 : Int32)) * (1114112 : Int32)) h0 n0 Z0 O0 SU) hZ (hw _ (List.mem_of_getElem? (i := 11) rfl)) (hw _ (List.mem_of_getElem? (i := 1) rfl)) (by decide) (by decide)) q31a q31c (g := (mkF m 117 #[.val (.int p0), .val (.int p1), .val (.int (1 : Int32)), .val (.ref wU), .val (.int md), .val (.int (cp - (cp / (1114112 : Int32)) * (1114112 : Int32))), .val (.int (1 : Int32))] [(.int (cp - (cp / (1114112 : Int32)) * (1114112 : Int32))), (.ref wU)])) rfl (by rw [hml]; rfl) (Steps.refl _) (argsL := [(.int (cp - (cp / (1114112 : Int32)) * (1114112 : Int32)))]) (rest := []) (lenOf pd__28_I_29_Z rfl) rfl (by show 2 * 0 + _ ≤ _; exact Nat.le_of_eq rfl) (hb hby at_117) (fun _ _ => ⟨rfl, e30, (by decide : 0 + 0 ≤ _), (by decide : 0 + 0 ≤ _)⟩)
      dsimp only [Pt.U, Pt.locs, Pt.cells, Pt.slots] at X31 l31 y31 z31 st31 hQ31
      subst l31 y31 z31
      obtain ⟨rfl, N31q, e31q⟩ := hQ31
      have N31 := Fr.app N0 N31q
      refine own_go (B := T31.setTop (mkF m 120 #[.val (.int p0), .val (.int p1), .val (.int (1 : Int32)), .val (.ref wU), .val (.int md), .val (.int (cp - (cp / (1114112 : Int32)) * (1114112 : Int32))), .val (.int (1 : Int32))] [(.int (1 : Int32))])) (fun t_ k_ => st31.trans k_) ?_
      refine own_go (B := T31.setTop (mkF m 130 #[.val (.int p0), .val (.int p1), .val (.int (1 : Int32)), .val (.ref wU), .val (.int md), .val (.int (cp - (cp / (1114112 : Int32)) * (1114112 : Int32))), .val (.int (1 : Int32))] [(.int (1 : Int32))])) (fun t_ k_ => ?_) ?_
      · show Steps p.tables e below (T31.setTop (mkF m 120 #[.val (.int p0), .val (.int p1), .val (.int (1 : Int32)), .val (.ref wU), .val (.int md), .val (.int (cp - (cp / (1114112 : Int32)) * (1114112 : Int32))), .val (.int (1 : Int32))] [(.int (1 : Int32))])) _
        refine XS.iload X31.here hx rfl (hb hby at_120) rfl ?_
        show Steps p.tables e below (T31.setTop (mkF m 122 #[.val (.int p0), .val (.int p1), .val (.int (1 : Int32)), .val (.ref wU), .val (.int md), .val (.int (cp - (cp / (1114112 : Int32)) * (1114112 : Int32))), .val (.int (1 : Int32))] [(.int (1 : Int32)), (.int (1 : Int32))])) _
        refine XS.icmpNo X31.here hx rfl (hb hby at_122) rfl (teq (by decide : (1 : Int32) = (1 : Int32))).2 ?_
        show Steps p.tables e below (T31.setTop (mkF m 125 #[.val (.int p0), .val (.int p1), .val (.int (1 : Int32)), .val (.ref wU), .val (.int md), .val (.int (cp - (cp / (1114112 : Int32)) * (1114112 : Int32))), .val (.int (1 : Int32))] [])) _
        refine XS.iconst X31.here hx rfl (hb hby at_125) ?_
        show Steps p.tables e below (T31.setTop (mkF m 126 #[.val (.int p0), .val (.int p1), .val (.int (1 : Int32)), .val (.ref wU), .val (.int md), .val (.int (cp - (cp / (1114112 : Int32)) * (1114112 : Int32))), .val (.int (1 : Int32))] [(.int (1 : Int32))])) _
        refine XS.goto X31.here hx rfl (pc0 := 126) (pc' := 130) rfl (hb hby at_126) (by decide) (by decide) ?_
        show Steps p.tables e below (T31.setTop (mkF m 130 #[.val (.int p0), .val (.int p1), .val (.int (1 : Int32)), .val (.ref wU), .val (.int md), .val (.int (cp - (cp / (1114112 : Int32)) * (1114112 : Int32))), .val (.int (1 : Int32))] [(.int (1 : Int32))])) _
        exact k_
      obtain ⟨fs, hr, hrun, hended, hW, hsame⟩ := X31.leave (v := some (.int (1 : Int32))) (fun h => by rw [Bd.returns] at h; cases h)
      refine own_at ?_ (hG _ _ ⟨hrun, hended, _, _, rfl, ?_, ⟨_, rfl⟩, hW, hsame.mono (by decide) (by decide)⟩)
      · show Steps p.tables e below (T31.setTop (mkF m 130 #[.val (.int p0), .val (.int p1), .val (.int (1 : Int32)), .val (.ref wU), .val (.int md), .val (.int (cp - (cp / (1114112 : Int32)) * (1114112 : Int32))), .val (.int (1 : Int32))] [(.int (1 : Int32))])) _
        exact retN X31 hx (t := .boolean) Bd.returns (by simp) (hb hby at_130) hr
      · show Q0 Z p0 p1 wU wL wT cl h0 n0 _ T31.heap _
        rw [e31q]
        exact ⟨rfl, N31⟩
    refine own_go (B := T30.setTop (mkF m 35 #[.val (.int p0), .val (.int p1), .val (.int (1 : Int32)), .val (.ref wU), .val (.int (((p0.toUInt32 >>> ((1 : Int32) &&& 31).toUInt32).toInt32) &&& (3 : Int32))), .unset, .unset] [(.int (((p0.toUInt32 >>> ((1 : Int32) &&& 31).toUInt32).toInt32) &&& (3 : Int32)))])) (fun t_ k_ => ?_) ?_
    · show Steps p.tables e below (T30.setTop (mkF m 26 #[.val (.int p0), .val (.int p1), .val (.int (1 : Int32)), .val (.ref wU), .unset, .unset, .unset] [])) _
      refine XS.iloadN X30.here hx rfl (hb hby at_26) rfl ?_
      show Steps p.tables e below (T30.setTop (mkF m 27 #[.val (.int p0), .val (.int p1), .val (.int (1 : Int32)), .val (.ref wU), .unset, .unset, .unset] [(.int p0)])) _
      refine XS.iconst X30.here hx rfl (hb hby at_27) ?_
      show Steps p.tables e below (T30.setTop (mkF m 28 #[.val (.int p0), .val (.int p1), .val (.int (1 : Int32)), .val (.ref wU), .unset, .unset, .unset] [(.int (1 : Int32)), (.int p0)])) _
      refine XS.iushr X30.here hx rfl (hb hby at_28) rfl ?_
      show Steps p.tables e below (T30.setTop (mkF m 29 #[.val (.int p0), .val (.int p1), .val (.int (1 : Int32)), .val (.ref wU), .unset, .unset, .unset] [(.int ((p0.toUInt32 >>> ((1 : Int32) &&& 31).toUInt32).toInt32))])) _
      refine XS.iconst X30.here hx rfl (hb hby at_29) ?_
      show Steps p.tables e below (T30.setTop (mkF m 30 #[.val (.int p0), .val (.int p1), .val (.int (1 : Int32)), .val (.ref wU), .unset, .unset, .unset] [(.int (3 : Int32)), (.int ((p0.toUInt32 >>> ((1 : Int32) &&& 31).toUInt32).toInt32))])) _
      refine XS.iand X30.here hx rfl (hb hby at_30) rfl ?_
      show Steps p.tables e below (T30.setTop (mkF m 31 #[.val (.int p0), .val (.int p1), .val (.int (1 : Int32)), .val (.ref wU), .unset, .unset, .unset] [(.int (((p0.toUInt32 >>> ((1 : Int32) &&& 31).toUInt32).toInt32) &&& (3 : Int32)))])) _
      refine XS.istore X30.here hx rfl (hb hby at_31) rfl (l' := #[.val (.int p0), .val (.int p1), .val (.int (1 : Int32)), .val (.ref wU), .val (.int (((p0.toUInt32 >>> ((1 : Int32) &&& 31).toUInt32).toInt32) &&& (3 : Int32))), .unset, .unset]) rfl ?_
      show Steps p.tables e below (T30.setTop (mkF m 33 #[.val (.int p0), .val (.int p1), .val (.int (1 : Int32)), .val (.ref wU), .val (.int (((p0.toUInt32 >>> ((1 : Int32) &&& 31).toUInt32).toInt32) &&& (3 : Int32))), .unset, .unset] [])) _
      refine XS.iload X30.here hx rfl (hb hby at_33) rfl ?_
      show Steps p.tables e below (T30.setTop (mkF m 35 #[.val (.int p0), .val (.int p1), .val (.int (1 : Int32)), .val (.ref wU), .val (.int (((p0.toUInt32 >>> ((1 : Int32) &&& 31).toUInt32).toInt32) &&& (3 : Int32))), .unset, .unset] [(.int (((p0.toUInt32 >>> ((1 : Int32) &&& 31).toUInt32).toInt32) &&& (3 : Int32)))])) _
      exact k_
    by_cases hc35 : (((p0.toUInt32 >>> ((1 : Int32) &&& 31).toUInt32).toInt32) &&& (3 : Int32)) = (0 : Int32)
    · refine own_go (B := T30.setTop (mkF m 84 #[.val (.int p0), .val (.int p1), .val (.int (1 : Int32)), .val (.ref wU), .val (.int (((p0.toUInt32 >>> ((1 : Int32) &&& 31).toUInt32).toInt32) &&& (3 : Int32))), .val (.int (p1 &&& (127 : Int32))), .unset] [])) (fun t_ k_ => ?_) ?_
      · show Steps p.tables e below (T30.setTop (mkF m 35 #[.val (.int p0), .val (.int p1), .val (.int (1 : Int32)), .val (.ref wU), .val (.int (((p0.toUInt32 >>> ((1 : Int32) &&& 31).toUInt32).toInt32) &&& (3 : Int32))), .unset, .unset] [(.int (((p0.toUInt32 >>> ((1 : Int32) &&& 31).toUInt32).toInt32) &&& (3 : Int32)))])) _
        refine XS.ifNo X30.here hx rfl (hb hby at_35) rfl ((if0 _ _).trans (teq hc35).2) ?_
        show Steps p.tables e below (T30.setTop (mkF m 38 #[.val (.int p0), .val (.int p1), .val (.int (1 : Int32)), .val (.ref wU), .val (.int (((p0.toUInt32 >>> ((1 : Int32) &&& 31).toUInt32).toInt32) &&& (3 : Int32))), .unset, .unset] [])) _
        refine XS.iloadN X30.here hx rfl (hb hby at_38) rfl ?_
        show Steps p.tables e below (T30.setTop (mkF m 39 #[.val (.int p0), .val (.int p1), .val (.int (1 : Int32)), .val (.ref wU), .val (.int (((p0.toUInt32 >>> ((1 : Int32) &&& 31).toUInt32).toInt32) &&& (3 : Int32))), .unset, .unset] [(.int p1)])) _
        refine XS.bipush X30.here hx rfl (hb hby at_39) ?_
        show Steps p.tables e below (T30.setTop (mkF m 41 #[.val (.int p0), .val (.int p1), .val (.int (1 : Int32)), .val (.ref wU), .val (.int (((p0.toUInt32 >>> ((1 : Int32) &&& 31).toUInt32).toInt32) &&& (3 : Int32))), .unset, .unset] [(.int (127 : Int32)), (.int p1)])) _
        refine XS.iand X30.here hx rfl (hb hby at_41) rfl ?_
        show Steps p.tables e below (T30.setTop (mkF m 42 #[.val (.int p0), .val (.int p1), .val (.int (1 : Int32)), .val (.ref wU), .val (.int (((p0.toUInt32 >>> ((1 : Int32) &&& 31).toUInt32).toInt32) &&& (3 : Int32))), .unset, .unset] [(.int (p1 &&& (127 : Int32)))])) _
        refine XS.istore X30.here hx rfl (hb hby at_42) rfl (l' := #[.val (.int p0), .val (.int p1), .val (.int (1 : Int32)), .val (.ref wU), .val (.int (((p0.toUInt32 >>> ((1 : Int32) &&& 31).toUInt32).toInt32) &&& (3 : Int32))), .val (.int (p1 &&& (127 : Int32))), .unset]) rfl ?_
        show Steps p.tables e below (T30.setTop (mkF m 44 #[.val (.int p0), .val (.int p1), .val (.int (1 : Int32)), .val (.ref wU), .val (.int (((p0.toUInt32 >>> ((1 : Int32) &&& 31).toUInt32).toInt32) &&& (3 : Int32))), .val (.int (p1 &&& (127 : Int32))), .unset] [])) _
        refine XS.goto X30.here hx rfl (pc0 := 44) (pc' := 84) rfl (hb hby at_44) (by decide) (by decide) ?_
        show Steps p.tables e below (T30.setTop (mkF m 84 #[.val (.int p0), .val (.int p1), .val (.int (1 : Int32)), .val (.ref wU), .val (.int (((p0.toUInt32 >>> ((1 : Int32) &&& 31).toUInt32).toInt32) &&& (3 : Int32))), .val (.int (p1 &&& (127 : Int32))), .unset] [])) _
        exact k_
      exact K84 _ _ (own_nn _ _ (by decide))
    · refine own_go (B := T30.setTop (mkF m 50 #[.val (.int p0), .val (.int p1), .val (.int (1 : Int32)), .val (.ref wU), .val (.int (((p0.toUInt32 >>> ((1 : Int32) &&& 31).toUInt32).toInt32) &&& (3 : Int32))), .unset, .unset] [(.int (1 : Int32)), (.int (((p0.toUInt32 >>> ((1 : Int32) &&& 31).toUInt32).toInt32) &&& (3 : Int32)))])) (fun t_ k_ => ?_) ?_
      · show Steps p.tables e below (T30.setTop (mkF m 35 #[.val (.int p0), .val (.int p1), .val (.int (1 : Int32)), .val (.ref wU), .val (.int (((p0.toUInt32 >>> ((1 : Int32) &&& 31).toUInt32).toInt32) &&& (3 : Int32))), .unset, .unset] [(.int (((p0.toUInt32 >>> ((1 : Int32) &&& 31).toUInt32).toInt32) &&& (3 : Int32)))])) _
        refine XS.ifYes X30.here hx rfl (pc0 := 35) (pc' := 47) rfl (hb hby at_35) rfl ((if0 _ _).trans (feq hc35).2) (by decide) (by decide) ?_
        show Steps p.tables e below (T30.setTop (mkF m 47 #[.val (.int p0), .val (.int p1), .val (.int (1 : Int32)), .val (.ref wU), .val (.int (((p0.toUInt32 >>> ((1 : Int32) &&& 31).toUInt32).toInt32) &&& (3 : Int32))), .unset, .unset] [])) _
        refine XS.iload X30.here hx rfl (hb hby at_47) rfl ?_
        show Steps p.tables e below (T30.setTop (mkF m 49 #[.val (.int p0), .val (.int p1), .val (.int (1 : Int32)), .val (.ref wU), .val (.int (((p0.toUInt32 >>> ((1 : Int32) &&& 31).toUInt32).toInt32) &&& (3 : Int32))), .unset, .unset] [(.int (((p0.toUInt32 >>> ((1 : Int32) &&& 31).toUInt32).toInt32) &&& (3 : Int32)))])) _
        refine XS.iconst X30.here hx rfl (hb hby at_49) ?_
        show Steps p.tables e below (T30.setTop (mkF m 50 #[.val (.int p0), .val (.int p1), .val (.int (1 : Int32)), .val (.ref wU), .val (.int (((p0.toUInt32 >>> ((1 : Int32) &&& 31).toUInt32).toInt32) &&& (3 : Int32))), .unset, .unset] [(.int (1 : Int32)), (.int (((p0.toUInt32 >>> ((1 : Int32) &&& 31).toUInt32).toInt32) &&& (3 : Int32)))])) _
        exact k_
      by_cases hc50 : (((p0.toUInt32 >>> ((1 : Int32) &&& 31).toUInt32).toInt32) &&& (3 : Int32)) = (1 : Int32)
      · refine own_go (B := T30.setTop (mkF m 84 #[.val (.int p0), .val (.int p1), .val (.int (1 : Int32)), .val (.ref wU), .val (.int (((p0.toUInt32 >>> ((1 : Int32) &&& 31).toUInt32).toInt32) &&& (3 : Int32))), .val (.int (p1 &&& (255 : Int32))), .unset] [])) (fun t_ k_ => ?_) ?_
        · show Steps p.tables e below (T30.setTop (mkF m 50 #[.val (.int p0), .val (.int p1), .val (.int (1 : Int32)), .val (.ref wU), .val (.int (((p0.toUInt32 >>> ((1 : Int32) &&& 31).toUInt32).toInt32) &&& (3 : Int32))), .unset, .unset] [(.int (1 : Int32)), (.int (((p0.toUInt32 >>> ((1 : Int32) &&& 31).toUInt32).toInt32) &&& (3 : Int32)))])) _
          refine XS.icmpNo X30.here hx rfl (hb hby at_50) rfl (teq hc50).2 ?_
          show Steps p.tables e below (T30.setTop (mkF m 53 #[.val (.int p0), .val (.int p1), .val (.int (1 : Int32)), .val (.ref wU), .val (.int (((p0.toUInt32 >>> ((1 : Int32) &&& 31).toUInt32).toInt32) &&& (3 : Int32))), .unset, .unset] [])) _
          refine XS.iloadN X30.here hx rfl (hb hby at_53) rfl ?_
          show Steps p.tables e below (T30.setTop (mkF m 54 #[.val (.int p0), .val (.int p1), .val (.int (1 : Int32)), .val (.ref wU), .val (.int (((p0.toUInt32 >>> ((1 : Int32) &&& 31).toUInt32).toInt32) &&& (3 : Int32))), .unset, .unset] [(.int p1)])) _
          refine XS.sipush X30.here hx rfl (hb hby at_54) ?_
          show Steps p.tables e below (T30.setTop (mkF m 57 #[.val (.int p0), .val (.int p1), .val (.int (1 : Int32)), .val (.ref wU), .val (.int (((p0.toUInt32 >>> ((1 : Int32) &&& 31).toUInt32).toInt32) &&& (3 : Int32))), .unset, .unset] [(.int (255 : Int32)), (.int p1)])) _
          refine XS.iand X30.here hx rfl (hb hby at_57) rfl ?_
          show Steps p.tables e below (T30.setTop (mkF m 58 #[.val (.int p0), .val (.int p1), .val (.int (1 : Int32)), .val (.ref wU), .val (.int (((p0.toUInt32 >>> ((1 : Int32) &&& 31).toUInt32).toInt32) &&& (3 : Int32))), .unset, .unset] [(.int (p1 &&& (255 : Int32)))])) _
          refine XS.istore X30.here hx rfl (hb hby at_58) rfl (l' := #[.val (.int p0), .val (.int p1), .val (.int (1 : Int32)), .val (.ref wU), .val (.int (((p0.toUInt32 >>> ((1 : Int32) &&& 31).toUInt32).toInt32) &&& (3 : Int32))), .val (.int (p1 &&& (255 : Int32))), .unset]) rfl ?_
          show Steps p.tables e below (T30.setTop (mkF m 60 #[.val (.int p0), .val (.int p1), .val (.int (1 : Int32)), .val (.ref wU), .val (.int (((p0.toUInt32 >>> ((1 : Int32) &&& 31).toUInt32).toInt32) &&& (3 : Int32))), .val (.int (p1 &&& (255 : Int32))), .unset] [])) _
          refine XS.goto X30.here hx rfl (pc0 := 60) (pc' := 84) rfl (hb hby at_60) (by decide) (by decide) ?_
          show Steps p.tables e below (T30.setTop (mkF m 84 #[.val (.int p0), .val (.int p1), .val (.int (1 : Int32)), .val (.ref wU), .val (.int (((p0.toUInt32 >>> ((1 : Int32) &&& 31).toUInt32).toInt32) &&& (3 : Int32))), .val (.int (p1 &&& (255 : Int32))), .unset] [])) _
          exact k_
        exact K84 _ _ (own_nn _ _ (by decide))
      · refine own_go (B := T30.setTop (mkF m 66 #[.val (.int p0), .val (.int p1), .val (.int (1 : Int32)), .val (.ref wU), .val (.int (((p0.toUInt32 >>> ((1 : Int32) &&& 31).toUInt32).toInt32) &&& (3 : Int32))), .unset, .unset] [(.int (2 : Int32)), (.int (((p0.toUInt32 >>> ((1 : Int32) &&& 31).toUInt32).toInt32) &&& (3 : Int32)))])) (fun t_ k_ => ?_) ?_
        · show Steps p.tables e below (T30.setTop (mkF m 50 #[.val (.int p0), .val (.int p1), .val (.int (1 : Int32)), .val (.ref wU), .val (.int (((p0.toUInt32 >>> ((1 : Int32) &&& 31).toUInt32).toInt32) &&& (3 : Int32))), .unset, .unset] [(.int (1 : Int32)), (.int (((p0.toUInt32 >>> ((1 : Int32) &&& 31).toUInt32).toInt32) &&& (3 : Int32)))])) _
          refine XS.icmpYes X30.here hx rfl (pc0 := 50) (pc' := 63) rfl (hb hby at_50) rfl (feq hc50).2 (by decide) (by decide) ?_
          show Steps p.tables e below (T30.setTop (mkF m 63 #[.val (.int p0), .val (.int p1), .val (.int (1 : Int32)), .val (.ref wU), .val (.int (((p0.toUInt32 >>> ((1 : Int32) &&& 31).toUInt32).toInt32) &&& (3 : Int32))), .unset, .unset] [])) _
          refine XS.iload X30.here hx rfl (hb hby at_63) rfl ?_
          show Steps p.tables e below (T30.setTop (mkF m 65 #[.val (.int p0), .val (.int p1), .val (.int (1 : Int32)), .val (.ref wU), .val (.int (((p0.toUInt32 >>> ((1 : Int32) &&& 31).toUInt32).toInt32) &&& (3 : Int32))), .unset, .unset] [(.int (((p0.toUInt32 >>> ((1 : Int32) &&& 31).toUInt32).toInt32) &&& (3 : Int32)))])) _
          refine XS.iconst X30.here hx rfl (hb hby at_65) ?_
          show Steps p.tables e below (T30.setTop (mkF m 66 #[.val (.int p0), .val (.int p1), .val (.int (1 : Int32)), .val (.ref wU), .val (.int (((p0.toUInt32 >>> ((1 : Int32) &&& 31).toUInt32).toInt32) &&& (3 : Int32))), .unset, .unset] [(.int (2 : Int32)), (.int (((p0.toUInt32 >>> ((1 : Int32) &&& 31).toUInt32).toInt32) &&& (3 : Int32)))])) _
          exact k_
        by_cases hc66 : (((p0.toUInt32 >>> ((1 : Int32) &&& 31).toUInt32).toInt32) &&& (3 : Int32)) = (2 : Int32)
        · refine own_go (B := T30.setTop (mkF m 84 #[.val (.int p0), .val (.int p1), .val (.int (1 : Int32)), .val (.ref wU), .val (.int (((p0.toUInt32 >>> ((1 : Int32) &&& 31).toUInt32).toInt32) &&& (3 : Int32))), .val (.int (p1 &&& (65535 : Int32))), .unset] [])) (fun t_ k_ => ?_) ?_
          · show Steps p.tables e below (T30.setTop (mkF m 66 #[.val (.int p0), .val (.int p1), .val (.int (1 : Int32)), .val (.ref wU), .val (.int (((p0.toUInt32 >>> ((1 : Int32) &&& 31).toUInt32).toInt32) &&& (3 : Int32))), .unset, .unset] [(.int (2 : Int32)), (.int (((p0.toUInt32 >>> ((1 : Int32) &&& 31).toUInt32).toInt32) &&& (3 : Int32)))])) _
            refine XS.icmpNo X30.here hx rfl (hb hby at_66) rfl (teq hc66).2 ?_
            show Steps p.tables e below (T30.setTop (mkF m 69 #[.val (.int p0), .val (.int p1), .val (.int (1 : Int32)), .val (.ref wU), .val (.int (((p0.toUInt32 >>> ((1 : Int32) &&& 31).toUInt32).toInt32) &&& (3 : Int32))), .unset, .unset] [])) _
            refine XS.iloadN X30.here hx rfl (hb hby at_69) rfl ?_
            show Steps p.tables e below (T30.setTop (mkF m 70 #[.val (.int p0), .val (.int p1), .val (.int (1 : Int32)), .val (.ref wU), .val (.int (((p0.toUInt32 >>> ((1 : Int32) &&& 31).toUInt32).toInt32) &&& (3 : Int32))), .unset, .unset] [(.int p1)])) _
            refine X30.ldcInt hx hown (mvT hZ (hw _ (List.mem_of_getElem? (i := 17) rfl))) (g := (mkF m 70 #[.val (.int p0), .val (.int p1), .val (.int (1 : Int32)), .val (.ref wU), .val (.int (((p0.toUInt32 >>> ((1 : Int32) &&& 31).toUInt32).toInt32) &&& (3 : Int32))), .unset, .unset] [(.int p1)])) rfl (hb hby at_70) _ ?_
            show Steps p.tables e below (T30.setTop (mkF m 72 #[.val (.int p0), .val (.int p1), .val (.int (1 : Int32)), .val (.ref wU), .val (.int (((p0.toUInt32 >>> ((1 : Int32) &&& 31).toUInt32).toInt32) &&& (3 : Int32))), .unset, .unset] [(.int (65535 : Int32)), (.int p1)])) _
            refine XS.iand X30.here hx rfl (hb hby at_72) rfl ?_
            show Steps p.tables e below (T30.setTop (mkF m 73 #[.val (.int p0), .val (.int p1), .val (.int (1 : Int32)), .val (.ref wU), .val (.int (((p0.toUInt32 >>> ((1 : Int32) &&& 31).toUInt32).toInt32) &&& (3 : Int32))), .unset, .unset] [(.int (p1 &&& (65535 : Int32)))])) _
            refine XS.istore X30.here hx rfl (hb hby at_73) rfl (l' := #[.val (.int p0), .val (.int p1), .val (.int (1 : Int32)), .val (.ref wU), .val (.int (((p0.toUInt32 >>> ((1 : Int32) &&& 31).toUInt32).toInt32) &&& (3 : Int32))), .val (.int (p1 &&& (65535 : Int32))), .unset]) rfl ?_
            show Steps p.tables e below (T30.setTop (mkF m 75 #[.val (.int p0), .val (.int p1), .val (.int (1 : Int32)), .val (.ref wU), .val (.int (((p0.toUInt32 >>> ((1 : Int32) &&& 31).toUInt32).toInt32) &&& (3 : Int32))), .val (.int (p1 &&& (65535 : Int32))), .unset] [])) _
            refine XS.goto X30.here hx rfl (pc0 := 75) (pc' := 84) rfl (hb hby at_75) (by decide) (by decide) ?_
            show Steps p.tables e below (T30.setTop (mkF m 84 #[.val (.int p0), .val (.int p1), .val (.int (1 : Int32)), .val (.ref wU), .val (.int (((p0.toUInt32 >>> ((1 : Int32) &&& 31).toUInt32).toInt32) &&& (3 : Int32))), .val (.int (p1 &&& (65535 : Int32))), .unset] [])) _
            exact k_
          exact K84 _ _ (own_nn _ _ (by decide))
        · refine own_go (B := T30.setTop (mkF m 84 #[.val (.int p0), .val (.int p1), .val (.int (1 : Int32)), .val (.ref wU), .val (.int (((p0.toUInt32 >>> ((1 : Int32) &&& 31).toUInt32).toInt32) &&& (3 : Int32))), .val (.int (p1 &&& (2147483647 : Int32))), .unset] [])) (fun t_ k_ => ?_) ?_
          · show Steps p.tables e below (T30.setTop (mkF m 66 #[.val (.int p0), .val (.int p1), .val (.int (1 : Int32)), .val (.ref wU), .val (.int (((p0.toUInt32 >>> ((1 : Int32) &&& 31).toUInt32).toInt32) &&& (3 : Int32))), .unset, .unset] [(.int (2 : Int32)), (.int (((p0.toUInt32 >>> ((1 : Int32) &&& 31).toUInt32).toInt32) &&& (3 : Int32)))])) _
            refine XS.icmpYes X30.here hx rfl (pc0 := 66) (pc' := 78) rfl (hb hby at_66) rfl (feq hc66).2 (by decide) (by decide) ?_
            show Steps p.tables e below (T30.setTop (mkF m 78 #[.val (.int p0), .val (.int p1), .val (.int (1 : Int32)), .val (.ref wU), .val (.int (((p0.toUInt32 >>> ((1 : Int32) &&& 31).toUInt32).toInt32) &&& (3 : Int32))), .unset, .unset] [])) _
            refine XS.iloadN X30.here hx rfl (hb hby at_78) rfl ?_
            show Steps p.tables e below (T30.setTop (mkF m 79 #[.val (.int p0), .val (.int p1), .val (.int (1 : Int32)), .val (.ref wU), .val (.int (((p0.toUInt32 >>> ((1 : Int32) &&& 31).toUInt32).toInt32) &&& (3 : Int32))), .unset, .unset] [(.int p1)])) _
            refine X30.ldcInt hx hown (mvT hZ (hw _ (List.mem_of_getElem? (i := 16) rfl))) (g := (mkF m 79 #[.val (.int p0), .val (.int p1), .val (.int (1 : Int32)), .val (.ref wU), .val (.int (((p0.toUInt32 >>> ((1 : Int32) &&& 31).toUInt32).toInt32) &&& (3 : Int32))), .unset, .unset] [(.int p1)])) rfl (hb hby at_79) _ ?_
            show Steps p.tables e below (T30.setTop (mkF m 81 #[.val (.int p0), .val (.int p1), .val (.int (1 : Int32)), .val (.ref wU), .val (.int (((p0.toUInt32 >>> ((1 : Int32) &&& 31).toUInt32).toInt32) &&& (3 : Int32))), .unset, .unset] [(.int (2147483647 : Int32)), (.int p1)])) _
            refine XS.iand X30.here hx rfl (hb hby at_81) rfl ?_
            show Steps p.tables e below (T30.setTop (mkF m 82 #[.val (.int p0), .val (.int p1), .val (.int (1 : Int32)), .val (.ref wU), .val (.int (((p0.toUInt32 >>> ((1 : Int32) &&& 31).toUInt32).toInt32) &&& (3 : Int32))), .unset, .unset] [(.int (p1 &&& (2147483647 : Int32)))])) _
            refine XS.istore X30.here hx rfl (hb hby at_82) rfl (l' := #[.val (.int p0), .val (.int p1), .val (.int (1 : Int32)), .val (.ref wU), .val (.int (((p0.toUInt32 >>> ((1 : Int32) &&& 31).toUInt32).toInt32) &&& (3 : Int32))), .val (.int (p1 &&& (2147483647 : Int32))), .unset]) rfl ?_
            show Steps p.tables e below (T30.setTop (mkF m 84 #[.val (.int p0), .val (.int p1), .val (.int (1 : Int32)), .val (.ref wU), .val (.int (((p0.toUInt32 >>> ((1 : Int32) &&& 31).toUInt32).toInt32) &&& (3 : Int32))), .val (.int (p1 &&& (2147483647 : Int32))), .unset] [])) _
            exact k_
          exact K84 _ _ (own_nn _ _ (by decide))
set_option maxRecDepth 65536 in
set_option maxHeartbeats 40000000 in
theorem comes_1 {Post : Tables → Env → Array Value → State → Outcome → State → Prop} (hpost : ∀ tb e args s v u, (limb_1_1.after args s (.returned v) u = true ∧ limb_1_2.after args s (.returned v) u = true ∧ True) → FrameEnd s (.returned v) u (Jvm.fieldLocs frame_1_writes args s ++ Jvm.arrayLocs frame_1_arrays args s ++ Jvm.staticLocs frame_1_statics s) 0 0 → Post tb e args s (.returned v) u) :
    ArmFor flags0 classFile x code maxLocals ret World_1 tables_1 room_1 Calls_1 rest_1 Pre_1 Post := by
  intro l hfl _ _ p e ha hc hk s m args below hf hA hF happ hP
  obtain ⟨hcalls, hrest, hpre⟩ := hP
  obtain ⟨-, -, -, hnamed, -, -, -, hat⟩ := (Spec.applies_iff hf).mp happ
  obtain ⟨hg, hn⟩ := and_e (Cond.before_iff.mp (show (Jvm.Cond.and given_1 narrow_1).before args s = true from hpre))
  obtain ⟨hcnt, gs0⟩ := and_e hg
  obtain ⟨ga0, gs1⟩ := and_e gs0
  obtain ⟨w0, w1, rfl⟩ : ∃ w0 w1 : Value, args = #[w0, w1] := by
    have hs : args.size = 2 := by simpa [Cond.value, given_1] using hcnt
    obtain ⟨L⟩ := args
    match L, hs with
    | [w0, w1], _ => exact ⟨w0, w1, rfl⟩
  have hw := fun d (hd : d ∈ tables_1) => atoms_spec (ws := Jvm.Cond.code x code maxLocals ret :: tables_1) hat d (List.mem_cons_of_mem _ hd)
  have hfit : Fit s := fun {y c} hc i hi => by
    obtain ⟨ha, rfl⟩ := Array.getElem?_eq_some_iff.mp hc
    have q := List.all_eq_true.mp ((Array.all_eq_true_iff_forall_mem.mp hF) _ (Array.getElem_mem ha)) i (List.mem_range.mpr hi)
    simpa [Array.getElem?_eq_getElem hi] using q
  obtain ⟨i0, ei0⟩ := is_v ga0
  obtain rfl : w0 = (.int i0) := Option.some.inj ei0
  obtain ⟨i1, ei1⟩ := is_v gs1
  obtain rfl : w1 = (.int i1) := Option.some.inj ei1
  obtain ⟨nl0, nr0⟩ := and_e hn
  obtain ⟨nl1, nr1⟩ := and_e nr0
  obtain ⟨nl2, nr2⟩ := and_e nr1
  obtain ⟨nl3, nr3⟩ := and_e nr2
  obtain ⟨nl4, nr4⟩ := and_e nr3
  obtain ⟨nl5, nr5⟩ := and_e nr4
  obtain ⟨nl6, nr6⟩ := and_e nr5
  obtain ⟨nl7, nr7⟩ := and_e nr6
  obtain ⟨nl8, nr8⟩ := and_e nr7
  obtain ⟨nl9, nr9⟩ := and_e nr8
  obtain ⟨nl10, nr10⟩ := and_e nr9
  obtain ⟨nl11, nr11⟩ := and_e nr10
  obtain ⟨nl12, nr12⟩ := and_e nr11
  obtain ⟨nl13, nr13⟩ := and_e nr12
  obtain ⟨nl14, nr14⟩ := and_e nr13
  obtain ⟨nl15, nr15⟩ := and_e nr14
  obtain ⟨nl16, nr16⟩ := and_e nr15
  obtain ⟨nl17, nr17⟩ := and_e nr16
  obtain ⟨nl18, nr18⟩ := and_e nr17
  obtain ⟨nl19, nr19⟩ := and_e nr18
  obtain ⟨wL, eL⟩ := exa_v nl0
  obtain ⟨wU, eU⟩ := exa_v nl1
  have EL := Exa.start eL nl0
  have EU := Exa.start eU nl1
  have SL : Sta s s.heap "com/example/lastschrift/lastschrift/rules/CharacterSet" "LATIN" "Lcom/example/lastschrift/lastschrift/rules/CharacterSet;" (.ref wL) := Sta.start eL (Or.inr ⟨hw _ (List.mem_of_getElem? (i := 1) rfl), hw _ (List.mem_of_getElem? (i := 2) rfl)⟩)
  have SU : Sta s s.heap "com/example/lastschrift/lastschrift/rules/CharacterSet" "UTF8" "Lcom/example/lastschrift/lastschrift/rules/CharacterSet;" (.ref wU) := Sta.start eU (Or.inr ⟨hw _ (List.mem_of_getElem? (i := 1) rfl), hw _ (List.mem_of_getElem? (i := 13) rfl)⟩)
  have oL := eqv_i (Term.int_eval _) nl2
  have oU := eqv_i (Term.int_eval _) nl3
  rw [fld_at eL] at oL
  rw [fld_at eU] at oU
  have hne : ¬ wL = wU := fun q => by subst q; rw [oL] at oU; exact absurd oU (by decide)
  obtain ⟨wT, eT⟩ := arr_v nl4
  obtain ⟨cl, Ar⟩ := Arr.start eT nl4
  have ST : Sta s s.heap "com/example/lastschrift/lastschrift/rules/CharacterSet" "IN_LATIN" "[Z" (.ref wT) := Sta.start eT (Or.inr ⟨hw _ (List.mem_of_getElem? (i := 1) rfl), hw _ (List.mem_of_getElem? (i := 15) rfl)⟩)
  have ha_ := Ar.fin (Vm.Alike.refl _)
  have hsz := (own_len eT ha_ (eqv_i (Term.int_eval _) nl5)).1
  have htab := own_tab (t := (Jvm.Term.static "com/example/lastschrift/lastschrift/rules/CharacterSet" "IN_LATIN" "[Z")) (fun _ => eT) ha_ hsz nl6 nl7 nl8 nl9 nl10 nl11 nl12 nl13 nl14 nl15 nl16 nl17 nl18 nl19 nr19
  obtain ⟨n, o, h1, h2, h3, _, L, rfl, ⟨rfl, N⟩, hq⟩ := rm0 l s _ hw tables_1 i0 i1 wU wL wT cl s.heap s.heap.size (Nat.le_refl _) (Old.start s) SU SL ST EU EL Ar hsz htab hne p e ha hc hk s m _ below hf ((Spec.applies_iff_loose hf).mp happ).1 ⟨rfl, State.Warmed39.refl s, rfl⟩ trivial
  refine ⟨n, _, h1, h2, h3, hpost _ _ _ _ _ _ ⟨Cond.after_iff.mpr rfl, Cond.after_iff.mpr (eq_i res_at (Term.int_eval (1)) rfl), trivial⟩ ⟨hq.1, hq.2.1, (hq.2.2.sift fun y hy => Or.inr (N y hy)).mono (by decide) (by decide)⟩⟩
theorem main_1_1 : Claimed_1_1 := comes_1 fun _ _ _ _ _ _ h hF => ⟨h.1, hF⟩
theorem main_1_2 : Claimed_1_2 := comes_1 fun _ _ _ _ _ _ h hF => ⟨h.2.1, hF⟩
end Jvm.Pilot.@@N@@
namespace Jvm.Pilot.@@N@@
open Jvm Jvm.ClassFile Sem Op Lib Jvm.Free Jvm.Stand Jvm.Pilot.@@N@@.Jvm.D
/-! MADE BY PROGRAM (witnessworld.py) out of the Statement's table words and the real class files: 14 classes; the members and pool entries that the words name. The judged class is class 1, her method 2. -/
namespace start1
open Jvm.ClassFile
def u (s : String) : CpInfo := .utf8 (stringToUtf16 s)
/-- a pool by its gaps: so many unusable entries, then the entry; so many at the end -/
def gap : Nat → List CpInfo → List CpInfo
  | 0, r => r
  | n + 1, r => .unusable :: gap n r
def poolList (es : List (Nat × CpInfo)) (last : Nat) : List CpInfo := es.foldr (fun e r => gap e.1 (e.2 :: r)) (gap last [])
def pool (es : List (Nat × CpInfo)) (last : Nat) : Array CpInfo := ⟨poolList es last⟩
def fileOf (pool : Array CpInfo) (this : Nat) (attrs : Array Attribute := #[]) (ms : Array MethodInfo := #[]) (fl : Nat := 33) (sup : Nat := 0) (ifs : Array Nat := #[]) (fds : Array FieldInfo := #[]) : ClassFile where
  minorVersion := 0
  majorVersion := 65
  constantPool := pool
  accessFlags := fl
  thisClass := this
  superClass := sup
  interfaces := ifs
  fields := fds
  methods := ms
  attributes := attrs
def plain (name : String) (sup : Option ClassId) : Class where
  name := name
  kind := .ordinary
  loader := none
  accessFlags := 33
  super := sup
  interfaces := #[]
  cf := none
  fields := #[]
  methods := #[]
  instanceTypes := #[]
  staticTypes := #[]
  resolved := #[]
  callSites := []
  init := .initialized
  statics := none
  mirror := none

def pool0 : Array CpInfo := pool [(5, u "<init>"), (0, u "()V"), (1, .class_ 10), (1, u "java/lang/Object")] 113

def k0m0 : Method := { name := "<init>", desc := "()V", sig := { parameters := [], returnType := none }, accessFlags := 1, code := none }
/-- java/lang/Object -/
def k0 : Class := { plain "java/lang/Object" none with
  accessFlags := 33
  interfaces := #[]
  cf := some (fileOf pool0 8 #[] #[{ accessFlags := 1, nameIndex := 5, descriptorIndex := 6, attributes := #[] }] 33 0 #[] #[])
  fields := #[]
  methods := #[k0m0]
  instanceTypes := #[]
  staticTypes := #[]
  resolved := Array.replicate 124 none
  statics := none }

def pool1 : Array CpInfo := pool [(2, .class_ 4), (1, u "java/lang/Object"), (0, u "<init>"), (0, u "()V"), (0, .fieldref 8 9), (0, .class_ 10), (0, .nameAndType 11 12), (0, u "com/example/lastschrift/lastschrift/rules/CharacterSet"), (0, u "UTF8"), (0, u "Lcom/example/lastschrift/lastschrift/rules/CharacterSet;"), (0, .fieldref 8 14), (0, .nameAndType 15 12), (0, u "LATIN"), (0, .integer 65535), (0, .integer 2147483647), (0, .integer 1114112), (0, .methodref 20 21), (0, .class_ 22), (0, .nameAndType 23 24), (0, u "com/example/lastschrift/lastschrift/rules/CharacterSetContainsPinLaw"), (0, u "isLatin"), (0, u "(I)Z"), (0, .methodref 8 26), (0, .nameAndType 27 24), (0, u "contains"), (3, u "law"), (0, u "(II)Z")] 2

def k1m0 : Method := { name := "<init>", desc := "()V", sig := { parameters := [], returnType := none }, accessFlags := 2, code := none }
def k1c1 : Code := { maxStack := 2, maxLocals := 1, code := method_2_code, exceptionTable := #[], attributes := #[] }
def k1m1 : Method := { name := "isLatin", desc := "(I)Z", sig := { parameters := [.int], returnType := some .boolean }, accessFlags := 10, code := some k1c1 }
def k1c2 : Code := { maxStack := 2, maxLocals := 7, code := code, exceptionTable := #[], attributes := #[] }
def k1m2 : Method := { name := "law", desc := "(II)Z", sig := { parameters := [.int, .int], returnType := some .boolean }, accessFlags := 9, code := some k1c2 }
/-- com/example/lastschrift/lastschrift/rules/CharacterSetContainsPinLaw -/
def k1 : Class := { plain "com/example/lastschrift/lastschrift/rules/CharacterSetContainsPinLaw" (some 0) with
  accessFlags := 49
  interfaces := #[]
  cf := some (fileOf pool1 20 #[] #[{ accessFlags := 2, nameIndex := 5, descriptorIndex := 6, attributes := #[] }, { accessFlags := 10, nameIndex := 23, descriptorIndex := 24, attributes := #[] }, { accessFlags := 9, nameIndex := 31, descriptorIndex := 32, attributes := #[] }] 49 2 #[] #[])
  fields := #[]
  methods := #[k1m0, k1m1, k1m2]
  instanceTypes := #[]
  staticTypes := #[]
  resolved := Array.replicate 35 none
  statics := none }

def pool2 : Array CpInfo := pool [(1, .class_ 2), (0, u "java/lang/constant/Constable"), (0, .class_ 4), (0, u "java/lang/Object")] 6

/-- java/lang/constant/Constable -/
def k2 : Class := { plain "java/lang/constant/Constable" (some 0) with
  accessFlags := 1537
  interfaces := #[]
  cf := some (fileOf pool2 1 #[] #[] 1537 3 #[] #[])
  fields := #[]
  methods := #[]
  instanceTypes := #[]
  staticTypes := #[]
  resolved := Array.replicate 11 none
  statics := none }

def pool3 : Array CpInfo := pool [(1, .class_ 2), (0, u "java/lang/Comparable"), (0, .class_ 4), (0, u "java/lang/Object")] 7

/-- java/lang/Comparable -/
def k3 : Class := { plain "java/lang/Comparable" (some 0) with
  accessFlags := 1537
  interfaces := #[]
  cf := some (fileOf pool3 1 #[] #[] 1537 3 #[] #[])
  fields := #[]
  methods := #[]
  instanceTypes := #[]
  staticTypes := #[]
  resolved := Array.replicate 12 none
  statics := none }

def pool4 : Array CpInfo := pool [(1, .class_ 2), (0, u "java/io/Serializable"), (0, .class_ 4), (0, u "java/lang/Object")] 2

/-- java/io/Serializable -/
def k4 : Class := { plain "java/io/Serializable" (some 0) with
  accessFlags := 1537
  interfaces := #[]
  cf := some (fileOf pool4 1 #[] #[] 1537 3 #[] #[])
  fields := #[]
  methods := #[]
  instanceTypes := #[]
  staticTypes := #[]
  resolved := Array.replicate 7 none
  statics := none }

def pool5 : Array CpInfo := pool [(2, .class_ 4), (1, u "java/lang/Enum"), (0, u "name"), (0, u "Ljava/lang/String;"), (2, u "ordinal"), (0, u "I"), (1, .class_ 14), (1, u "java/lang/Object"), (4, u "hash"), (86, .class_ 108), (1, u "java/lang/Enum$EnumDesc"), (2, .class_ 112), (0, u "java/lang/constant/Constable"), (0, .class_ 114), (0, u "java/lang/Comparable"), (0, .class_ 116), (0, u "java/io/Serializable")] 87

/-- java/lang/Enum -/
def k5 : Class := { plain "java/lang/Enum" (some 0) with
  accessFlags := 1057
  interfaces := #[2, 3, 4]
  cf := some (fileOf pool5 2 #[.nestMembers #[106]] #[] 1057 12 #[111, 113, 115] #[{ accessFlags := 18, nameIndex := 5, descriptorIndex := 6, attributes := #[] }, { accessFlags := 18, nameIndex := 9, descriptorIndex := 10, attributes := #[] }, { accessFlags := 2, nameIndex := 19, descriptorIndex := 10, attributes := #[] }])
  fields := #[{ name := "name", type := (.object "java/lang/String"), accessFlags := 18, slot := 0, constantValue := 0 }, { name := "ordinal", type := .int, accessFlags := 18, slot := 1, constantValue := 0 }, { name := "hash", type := .int, accessFlags := 2, slot := 2, constantValue := 0 }]
  methods := #[]
  instanceTypes := #[(.object "java/lang/String"), .int, .int]
  staticTypes := #[]
  resolved := Array.replicate 204 none
  statics := none }

def pool6 : Array CpInfo := pool [(1, .class_ 2), (0, u "com/example/lastschrift/lastschrift/rules/CharacterSet"), (2, u "LATIN"), (0, u "Lcom/example/lastschrift/lastschrift/rules/CharacterSet;"), (0, .fieldref 1 8), (0, .nameAndType 9 6), (0, u "UTF8"), (2, u "$VALUES"), (0, u "[Lcom/example/lastschrift/lastschrift/rules/CharacterSet;"), (6, .class_ 22), (1, u "java/lang/Enum"), (24, .fieldref 1 48), (0, .nameAndType 49 50), (0, u "IN_LATIN"), (0, u "[Z"), (10, u "contains"), (0, u "(I)Z"), (39, u "LATIN_PUNCTUATION"), (0, u "Ljava/lang/String;")] 31

def k6c0 : Code := { maxStack := 2, maxLocals := 2, code := prog_166_method_6_code, exceptionTable := #[], attributes := #[] }
def k6m0 : Method := { name := "contains", desc := "(I)Z", sig := { parameters := [.int], returnType := some .boolean }, accessFlags := 1, code := some k6c0 }
/-- com/example/lastschrift/lastschrift/rules/CharacterSet -/
def k6 : Class := { plain "com/example/lastschrift/lastschrift/rules/CharacterSet" (some 5) with
  accessFlags := 16433
  interfaces := #[]
  cf := some (fileOf pool6 1 #[] #[{ accessFlags := 1, nameIndex := 61, descriptorIndex := 62, attributes := #[] }] 16433 20 #[] #[{ accessFlags := 16409, nameIndex := 5, descriptorIndex := 6, attributes := #[] }, { accessFlags := 16409, nameIndex := 9, descriptorIndex := 6, attributes := #[] }, { accessFlags := 26, nameIndex := 102, descriptorIndex := 103, attributes := #[] }, { accessFlags := 26, nameIndex := 49, descriptorIndex := 50, attributes := #[] }, { accessFlags := 4122, nameIndex := 12, descriptorIndex := 13, attributes := #[] }])
  fields := #[{ name := "LATIN", type := (.object "com/example/lastschrift/lastschrift/rules/CharacterSet"), accessFlags := 16409, slot := 0, constantValue := 0 }, { name := "UTF8", type := (.object "com/example/lastschrift/lastschrift/rules/CharacterSet"), accessFlags := 16409, slot := 1, constantValue := 0 }, { name := "LATIN_PUNCTUATION", type := (.object "java/lang/String"), accessFlags := 26, slot := 2, constantValue := 0 }, { name := "IN_LATIN", type := (.array .boolean), accessFlags := 26, slot := 3, constantValue := 0 }, { name := "$VALUES", type := (.array (.object "com/example/lastschrift/lastschrift/rules/CharacterSet")), accessFlags := 4122, slot := 4, constantValue := 0 }]
  methods := #[k6m0]
  instanceTypes := #[(.object "java/lang/String"), .int, .int]
  staticTypes := #[(.object "com/example/lastschrift/lastschrift/rules/CharacterSet"), (.object "com/example/lastschrift/lastschrift/rules/CharacterSet"), (.object "java/lang/String"), (.array .boolean), (.array (.object "com/example/lastschrift/lastschrift/rules/CharacterSet"))]
  resolved := Array.replicate 135 none
  statics := some 0 }

def pool7 : Array CpInfo := pool [(1, u "java/lang/Cloneable"), (0, .class_ 1), (0, u "java/lang/Object"), (0, .class_ 3)] 3

/-- java/lang/Cloneable -/
def k7 : Class := { plain "java/lang/Cloneable" (some 0) with
  accessFlags := 1537
  interfaces := #[]
  cf := some (fileOf pool7 2 #[] #[] 1537 4 #[] #[])
  fields := #[]
  methods := #[]
  instanceTypes := #[]
  staticTypes := #[]
  resolved := Array.replicate 8 none
  statics := none }

/-- the primitive boolean -/
def k8 : Class := { plain "boolean" none with kind := .primitive 'Z', accessFlags := 0x411 }
/-- [Z -/
def k9 : Class := { plain "[Z" (some 0) with kind := .array 8 .boolean, interfaces := #[7, 4], accessFlags := 1041 }

/-- the primitive byte -/
def k10 : Class := { plain "byte" none with kind := .primitive 'B', accessFlags := 0x411 }
/-- [B -/
def k11 : Class := { plain "[B" (some 0) with kind := .array 10 .byte, interfaces := #[7, 4], accessFlags := 1041 }

/-- the primitive int -/
def k12 : Class := { plain "int" none with kind := .primitive 'I', accessFlags := 0x411 }
/-- [I -/
def k13 : Class := { plain "[I" (some 0) with kind := .array 12 .int, interfaces := #[7, 4], accessFlags := 1041 }

def heap : Heap := #[{ cls := 6, slots := #[.ref 1, .ref 2, .null, .ref 3, .null], vm := .statics 6 },
  { cls := 6, slots := #[.null, .int 0, .int 0], vm := .none },
  { cls := 6, slots := #[.null, .int 1, .int 0], vm := .none },
  { cls := 9, slots := #[.int 0, .int 0, .int 0, .int 0, .int 0, .int 0, .int 0, .int 0, .int 0, .int 0, .int 0, .int 0, .int 0, .int 0, .int 0, .int 0, .int 0, .int 0, .int 0, .int 0, .int 0, .int 0, .int 0, .int 0, .int 0, .int 0, .int 0, .int 0, .int 0, .int 0, .int 0, .int 0, .int 1, .int 0, .int 0, .int 0, .int 0, .int 0, .int 0, .int 1, .int 1, .int 1, .int 0, .int 1, .int 1, .int 1, .int 1, .int 1, .int 1, .int 1, .int 1, .int 1, .int 1, .int 1, .int 1, .int 1, .int 1, .int 1, .int 1, .int 0, .int 0, .int 0, .int 0, .int 1, .int 0, .int 1, .int 1, .int 1, .int 1, .int 1, .int 1, .int 1, .int 1, .int 1, .int 1, .int 1, .int 1, .int 1, .int 1, .int 1, .int 1, .int 1, .int 1, .int 1, .int 1, .int 1, .int 1, .int 1, .int 1, .int 1, .int 1, .int 0, .int 0, .int 0, .int 0, .int 0, .int 0, .int 1, .int 1, .int 1, .int 1, .int 1, .int 1, .int 1, .int 1, .int 1, .int 1, .int 1, .int 1, .int 1, .int 1, .int 1, .int 1, .int 1, .int 1, .int 1, .int 1, .int 1, .int 1, .int 1, .int 1, .int 1, .int 1, .int 0, .int 0, .int 0, .int 0, .int 0], vm := .none }]
def classes : Array Class := #[k0, k1, k2, k3, k4, k5, k6, k7, k8, k9, k10, k11, k12, k13]
def interned : List (Array UInt16 × Addr) := []
def slotsUsed : Nat := 139
def theMethod : MethodId := ⟨1, 2⟩
def args0 : Array Value := #[.int 1, .int 65]
def aboutOver (below : List Frame) : State where
  vm := { classes := classes, interned := interned.toArray }
  heap := heap
  slotsUsed := slotsUsed
  threads := #[{ frames := .invoking theMethod args0 :: below }]
def below0 : List Frame := [.native { method := ⟨0, 0⟩, args := #[] }]
def about1 : State := aboutOver below0
def p0 : Program := .bare "" "" ""
def e0 : Env := launch0.env 0 0 0
theorem w_frames : about1.frames = Frame.invoking theMethod args0 :: below0 := rfl
set_option maxRecDepth 65536 in
theorem w_args : argsFit about1.vm theMethod args0 = true := by decide +kernel
set_option maxRecDepth 65536 in
theorem w_heap : heapFits about1 = true := by decide +kernel
set_option maxRecDepth 65536 in
theorem w_runnable : about1.curStatus? = some .runnable := by decide +kernel
set_option maxRecDepth 65536 in
theorem w_alone : about1.alone = true := by decide +kernel
set_option maxRecDepth 65536 in
theorem w_named : about1.methodNamed? x = some theMethod := by decide +kernel
set_option maxRecDepth 65536 in
theorem w_hears : about1.hears theMethod below0 = true := by decide +kernel
set_option maxRecDepth 65536 in
theorem w_ripe : about1.ripe theMethod args0 below0 = true := by decide +kernel
theorem w_running : about1.status = .running := rfl
set_option maxRecDepth 65536 in
theorem w_room : about1.hasRoom e0.platform room_1 = true :=
  launch0.hasRoom_least _ room_1 (by decide +kernel) (by decide +kernel) (by decide +kernel) (by decide +kernel) (by decide +kernel) (by decide +kernel)
theorem allAtoms_all (ts : List Jvm.Cond) (a : Array Jvm.Value) (st : Jvm.State) : (allAtoms ts).before a st = ts.all (fun c => c.before a st) := by
  induction ts with
  | nil => rfl
  | cons c t ih =>
    show (Jvm.Cond.and c (allAtoms t)).before a st = _
    rw [Jvm.Cond.before_and, ih, List.all_cons]
def words1 : List Jvm.Cond := Jvm.Cond.code x code maxLocals ret :: tables_1
/-- a 'code' word, met by the world's own term for the bytes: nothing is compared byte by byte -/
theorem code_word {y : MethodName} {bytes : ByteArray} {mx : Nat} {rt : Option FieldType} {a : Array Value} {s : State} {m : MethodId} {meth : Method} {c : Code} (h1 : s.methodNamed? y = some m) (h2 : s.vm.method? m = some meth) (h3 : meth.code = some c) (h4 : c.code = bytes)
    (h5 : (c.maxLocals == mx && c.exceptionTable.isEmpty && decide (c.maxStack ≤ mostOperands) && decide (meth.sig.returnType = rt) && !meth.locks && decide (parseMethodDescriptor y.desc = some meth.sig)) = true) : (Jvm.Cond.code y bytes mx rt).before a s = true := by
  simp only [Bool.and_eq_true, beq_iff_eq, Bool.not_eq_true', decide_eq_true_eq] at h5
  obtain ⟨⟨⟨⟨⟨g1, g2⟩, g3⟩, g4⟩, g5⟩, g6⟩ := h5
  simp [Cond.before, Cond.holds, Cond.value, h1, h2, h3, h4, g1, g2, g3, g4, g5, g6]
def isCode : Jvm.Cond → Bool
  | .code _ _ _ _ => true
  | _ => false
theorem all_split {L : List Jvm.Cond} {P : Jvm.Cond → Bool} (h1 : L.all (fun c => isCode c || P c) = true) (h2 : ∀ c ∈ L.filter isCode, P c = true) : L.all P = true := by
  refine List.all_eq_true.mpr fun c hc => ?_
  have h := List.all_eq_true.mp h1 c hc
  rcases Bool.eq_false_or_eq_true (isCode c) with hi | hi
  · exact h2 c (List.mem_filter.mpr ⟨hc, hi⟩)
  · simpa [hi] using h
set_option maxRecDepth 65536 in
theorem w_c0 : (Jvm.Cond.code x code maxLocals ret).before args0 about1 = true := code_word (m := ⟨1, 2⟩) (meth := k1m2) (c := k1c2) (by decide +kernel) rfl rfl rfl (by decide +kernel)
set_option maxRecDepth 65536 in
theorem w_c1 : (Jvm.Cond.code ({ cls := "com/example/lastschrift/lastschrift/rules/CharacterSetContainsPinLaw", name := "isLatin", desc := "(I)Z" } : Jvm.MethodName) method_2_code (1 : Nat) (Option.some Jvm.ClassFile.FieldType.boolean)).before args0 about1 = true := code_word (m := ⟨1, 1⟩) (meth := k1m1) (c := k1c1) (by decide +kernel) rfl rfl rfl (by decide +kernel)
set_option maxRecDepth 65536 in
theorem w_c2 : (Jvm.Cond.code ({ cls := "com/example/lastschrift/lastschrift/rules/CharacterSet", name := "contains", desc := "(I)Z" } : Jvm.MethodName) prog_166_method_6_code (2 : Nat) (Option.some Jvm.ClassFile.FieldType.boolean)).before args0 about1 = true := code_word (m := ⟨6, 0⟩) (meth := k6m0) (c := k6c0) (by decide +kernel) rfl rfl rfl (by decide +kernel)
def codes1 : List Jvm.Cond := [Jvm.Cond.code x code maxLocals ret, Jvm.Cond.code ({ cls := "com/example/lastschrift/lastschrift/rules/CharacterSetContainsPinLaw", name := "isLatin", desc := "(I)Z" } : Jvm.MethodName) method_2_code (1 : Nat) (Option.some Jvm.ClassFile.FieldType.boolean), Jvm.Cond.code ({ cls := "com/example/lastschrift/lastschrift/rules/CharacterSet", name := "contains", desc := "(I)Z" } : Jvm.MethodName) prog_166_method_6_code (2 : Nat) (Option.some Jvm.ClassFile.FieldType.boolean)]
set_option maxRecDepth 65536 in
theorem codes_eq : words1.filter isCode = codes1 := rfl
theorem w_codes : ∀ c ∈ words1.filter isCode, c.before args0 about1 = true := by
  rw [codes_eq]
  intro c hc
  simp only [codes1, List.mem_cons, List.not_mem_nil, or_false] at hc
  rcases hc with rfl | rfl | rfl
  · exact w_c0
  · exact w_c1
  · exact w_c2
set_option maxRecDepth 65536 in
theorem w_t1 : words1.all (fun c => isCode c || c.before args0 about1) = true := by decide +kernel
theorem w_tables : (allAtoms (Jvm.Cond.code x code maxLocals ret :: tables_1)).before args0 about1 = true := by
  rw [allAtoms_all]
  show words1.all (fun c => c.before args0 about1) = true
  refine all_split ?_ w_codes
  rw [w_t1]
set_option maxRecDepth 65536 in
theorem w_case : (Jvm.Cond.and given_1 narrow_1).before args0 about1 = true := by decide +kernel
theorem w_applies : (headSpec (Jvm.Cond.code x code maxLocals ret :: tables_1) room_1).applies x e0.platform about1 = true :=
  (Spec.applies_iff w_frames).mpr ⟨w_running, w_runnable, w_alone, w_named, w_hears, w_ripe, w_room, w_tables⟩
theorem atStart : AtStart classFile x code maxLocals ret World_1 tables_1 room_1 Calls_1 rest_1 Pre_1 launch0 p0 e0 about1 theMethod args0 below0 :=
  ⟨lists_1, trivial, launch0.admits_env _ _ _, launch0.least_env, fairChoices_fair.cas, fairChoices_fair.clock, w_frames, w_args, w_heap, w_applies, trivial, trivial, w_case⟩
end start1
theorem witness_1 : WitnessClaimed_1 := ⟨start1.p0, start1.e0, start1.about1, start1.theMethod, start1.args0, start1.below0, start1.atStart⟩
end Jvm.Pilot.@@N@@
