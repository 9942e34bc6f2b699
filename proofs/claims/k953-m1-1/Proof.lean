import JvmDerived
import JvmDerived.Pilot.@@N@@Statement
import JvmDerived.Pilot.@@N@@Code
set_option linter.unusedVariables false
set_option linter.unusedSimpArgs false
namespace Jvm.RoadKit
open Sem ClassFile Op Lib Jvm.Stand Jvm.Free Jvm.LawKit
section New
variable {p : Program} {l : Launch} {e : Env} {R : Room} {s : State} {m : MethodId} {args : Array Value} {below : List Frame} {meth : Method} {c : Code} {T : State} {locs : List Loc} {cells slots : Nat}
theorem retI (X : Stand p l e R s m args below meth c T locs cells slots) (hx : p.tables.exec = Jvm.exec) {pc : Nat} {Ls : Array Slot} {z : Int32} {rest : List Value} (hret : meth.sig.returnType = some .int) (hd : decode c.code pc = .ok (.ireturn, 1)) {fs : List Frame}
    (hl : ∀ (f : JFrame) (acts : List Action), f.method = m → f.locked = none → f.entered = [] → (doReturn e (T.setTop f) acts (some (.int z))).1 = T.setFrames fs) : Steps p.tables e below (T.setTop (mkF m pc Ls (.int z :: rest))) (T.setFrames fs) := by
  have hm' : T.vm.method? m = some meth := X.method'
  have hn : narrow .int (.int z) = .int z := rfl
  show Steps p.tables e below (T.setTop { method := m, pc := pc, locals := Ls, stack := _ :: rest, locked := none }) _
  jvm_step X.here [X.here.top, hx, hd, hm', hret, hn]
  first | (intro acts; rw [hl _ acts rfl rfl rfl]) | rw [hl _ _ rfl rfl rfl]
  exact Steps.refl _
end New
/-- from the state A the run comes to an end of which G speaks -/
def own_R (tb : Tables) (e : Env) (below : List Frame) (G : State → Outcome → Prop) (A : State) : Prop := ∃ s₂ o, Steps tb e below A s₂ ∧ G s₂ o
theorem own_go {tb : Tables} {e : Env} {below : List Frame} {G : State → Outcome → Prop} {A B : State} (k : ∀ t, Steps tb e below B t → Steps tb e below A t) (h : own_R tb e below G B) : own_R tb e below G A := by
  obtain ⟨s₂, o, hs, hp⟩ := h
  exact ⟨s₂, o, k _ hs, hp⟩
theorem own_open {tb : Tables} {e : Env} {below : List Frame} {A : State} {P : State → Outcome → Prop} (h : ∀ G : State → Outcome → Prop, (∀ s₂ o, P s₂ o → G s₂ o) → own_R tb e below G A) : ∃ s₂ o, Steps tb e below A s₂ ∧ P s₂ o := h P fun _ _ q => q
theorem own_at {tb : Tables} {e : Env} {below : List Frame} {G : State → Outcome → Prop} {A : State} {s₂ : State} {o : Outcome} (h : Steps tb e below A s₂) (g : G s₂ o) : own_R tb e below G A := ⟨s₂, o, h, g⟩
end Jvm.RoadKit
namespace Jvm.Pilot.@@N@@
open Jvm Jvm.ClassFile Sem Op Lib Jvm.Free Jvm.Stand Jvm.LawKit Jvm.RoadKit Bundle Jvm.Pilot.@@N@@.Jvm.D
theorem pd__28__5b_JJ_29_V : parseMethodDescriptor "([JJ)V" = some ⟨[(.array .long), .long], none⟩ := by decide +kernel
theorem pd__28_I_29__5b_J : parseMethodDescriptor "(I)[J" = some ⟨[.int], some (.array .long)⟩ := by decide +kernel
theorem pd__28_I_29_I : parseMethodDescriptor "(I)I" = some ⟨[.int], some .int⟩ := by decide +kernel
theorem pd__28__5b_JJ_29_I : parseMethodDescriptor "([JJ)I" = some ⟨[(.array .long), .long], some .int⟩ := by decide +kernel
theorem pd__28__29_V : parseMethodDescriptor "()V" = some ⟨[], none⟩ := by decide +kernel
theorem pd__28_J_29_V : parseMethodDescriptor "(J)V" = some ⟨[.long], none⟩ := by decide +kernel
theorem pd__28__29__5b_J : parseMethodDescriptor "()[J" = some ⟨[], some (.array .long)⟩ := by decide +kernel
theorem pd__28__5b_JJ_29_Z : parseMethodDescriptor "([JJ)Z" = some ⟨[(.array .long), .long], some .boolean⟩ := by decide +kernel
theorem pd__28_J_29_J : parseMethodDescriptor "(J)J" = some ⟨[.long], some .long⟩ := by decide +kernel
/-! the table as a function of its places; -1: empty -/
def own_kl (f : Nat → Int64) (n : Nat) : List Int64 := ((List.range n).map f).filter (fun x => decide (x ≠ -1))
def own_mem (f : Nat → Int64) (x : Int64) : Prop := ∃ j, j < 1024 ∧ f j = x
def own_hx (k : Int64) : Int32 := (((k * (-7046029254386353131 : Int64)).toUInt64 >>> ((54 : Int32) &&& 0x3f).toInt64.toUInt64).toInt64).toInt32 &&& (1023 : Int32)
def own_hash (k : Int64) : Nat := (own_hx k).toInt.toNat
def own_at_ (k : Int64) (t : Nat) : Nat := (own_hash k + t) % 1024
def own_upd (f : Nat → Int64) (j : Nat) (x : Int64) : Nat → Int64 := fun i => if i = j then x else f i
def own_updI (f : Nat → Int32) (j : Nat) (x : Int32) : Nat → Int32 := fun i => if i = j then x else f i
/-- on the way from a key's own place to where it lies nothing is empty -/
def own_inv (f : Nat → Int64) : Prop := ∀ k, k ≠ -1 → ∀ t, t < 1024 → f (own_at_ k t) = k → ∀ t', t' < t → f (own_at_ k t') ≠ -1
def own_ok (f : Nat → Int64) (n : Nat) : Prop := own_inv f ∧ (own_kl f 1024).length = n
def own_found (f : Nat → Int64) (k : Int64) (j : Nat) : Prop := ∃ t, t < 1024 ∧ j = own_at_ k t ∧ (f j = -1 ∨ f j = k) ∧ ∀ t', t' < t → f (own_at_ k t') ≠ -1 ∧ f (own_at_ k t') ≠ k
theorem own_hx_rng (k : Int64) : 0 ≤ (own_hx k).toInt ∧ (own_hx k).toInt < 1024 := by
  have a := c_and (((k * (-7046029254386353131 : Int64)).toUInt64 >>> ((54 : Int32) &&& 0x3f).toInt64.toUInt64).toInt64).toInt32 (1023 : Int32) (by decide)
  have z : (1023 : Int32).toInt = 1023 := by decide
  unfold own_hx
  omega
theorem own_hash_lt (k : Int64) : own_hash k < 1024 := by
  have := own_hx_rng k
  unfold own_hash
  omega
theorem own_hx_eq (k : Int64) : own_hx k = Int32.ofNat (own_at_ k 0) := by
  have r := own_hx_rng k
  have h : ((own_hx k).toInt.toNat : Int) = (own_hx k).toInt := Int.toNat_of_nonneg r.1
  have e : own_at_ k 0 = (own_hx k).toInt.toNat := by
    unfold own_at_ own_hash
    omega
  rw [e, ← Int32.ofInt_eq_ofNat, h, Int32.ofInt_toInt]
theorem own_at_lt (k : Int64) (t : Nat) : own_at_ k t < 1024 := Nat.mod_lt _ (by decide)
theorem own_at_inj {k : Int64} {t t' : Nat} (h : t < 1024) (h' : t' < 1024) (e : own_at_ k t = own_at_ k t') : t = t' := by
  have := own_hash_lt k
  unfold own_at_ at e
  omega
theorem own_at_sur (k : Int64) {j : Nat} (h : j < 1024) : ∃ t, t < 1024 ∧ own_at_ k t = j := by
  have := own_hash_lt k
  refine ⟨(j + 1024 - own_hash k) % 1024, Nat.mod_lt _ (by decide), ?_⟩
  unfold own_at_
  omega
theorem own_kl_succ (f : Nat → Int64) (n : Nat) : own_kl f (n + 1) = own_kl f n ++ (if f n = -1 then [] else [f n]) := by
  unfold own_kl
  rw [List.range_succ, List.map_append, List.filter_append]
  by_cases h : f n = -1
  · simp [h]
  · simp [h]
theorem own_kl_mem {f : Nat → Int64} {n : Nat} {x : Int64} : x ∈ own_kl f n ↔ x ≠ -1 ∧ ∃ j, j < n ∧ f j = x := by
  unfold own_kl
  rw [List.mem_filter, List.mem_map]
  constructor
  · rintro ⟨⟨j, hj, e⟩, hx⟩
    exact ⟨of_decide_eq_true hx, j, List.mem_range.mp hj, e⟩
  · rintro ⟨hx, j, hj, e⟩
    exact ⟨⟨j, List.mem_range.mpr hj, e⟩, decide_eq_true hx⟩
theorem own_kl_mono (f : Nat → Int64) {m n : Nat} (h : m ≤ n) : (own_kl f m).length ≤ (own_kl f n).length := by
  induction n with
  | zero => have : m = 0 := by omega
            subst this; exact Nat.le_refl _
  | succ n ih =>
    by_cases e : m = n + 1
    · subst e; exact Nat.le_refl _
    · have := ih (by omega)
      rw [own_kl_succ, List.length_append]
      omega
theorem own_kl_lt (f : Nat → Int64) {m n : Nat} (h : m < n) (hf : f m ≠ -1) : (own_kl f m).length < (own_kl f n).length := by
  have a := own_kl_mono f (show m + 1 ≤ n from h)
  rw [own_kl_succ, if_neg hf, List.length_append] at a
  simp at a
  omega
theorem own_kl_same {f g : Nat → Int64} {n : Nat} (h : ∀ j, j < n → f j = g j) : own_kl f n = own_kl g n := by
  induction n with
  | zero => rfl
  | succ n ih => rw [own_kl_succ, own_kl_succ, ih (fun j hj => h j (by omega)), h n (by omega)]
theorem own_kl_upd {f : Nat → Int64} {n j : Nat} {k : Int64} (hj : j < n) (hf : f j = -1) (hk : k ≠ -1) : (own_kl (own_upd f j k) n).length = (own_kl f n).length + 1 := by
  induction n with
  | zero => omega
  | succ n ih =>
    rw [own_kl_succ, own_kl_succ, List.length_append, List.length_append]
    by_cases e : j = n
    · subst e
      rw [own_kl_same (f := own_upd f j k) (g := f) (fun i hi => by unfold own_upd; rw [if_neg (by omega)])]
      have e1 : own_upd f j k j = k := by unfold own_upd; rw [if_pos rfl]
      rw [e1, if_neg hk, if_pos hf]
      rfl
    · rw [ih (by omega)]
      have e1 : own_upd f j k n = f n := by unfold own_upd; rw [if_neg (by omega)]
      rw [e1]
      omega
theorem own_empty {f : Nat → Int64} (h : (own_kl f 1024).length ≤ 3) : ∃ j, j < 1024 ∧ f j = -1 := by
  apply Classical.byContradiction
  intro q
  have all : ∀ j, j < 1024 → f j ≠ -1 := fun j hj e => q ⟨j, hj, e⟩
  have key : ∀ n, n ≤ 1024 → (own_kl f n).length = n := by
    intro n
    induction n with
    | zero => intro _; rfl
    | succ n ih =>
      intro hn
      rw [own_kl_succ, List.length_append, ih (by omega), if_neg (all n (by omega))]
      rfl
  have := key 1024 (Nat.le_refl _)
  omega
theorem own_stop {f : Nat → Int64} (k : Int64) (h : (own_kl f 1024).length ≤ 3) : ∃ t, t < 1024 ∧ f (own_at_ k t) = -1 := by
  obtain ⟨j, hj, e⟩ := own_empty h
  obtain ⟨t, ht, e'⟩ := own_at_sur k hj
  exact ⟨t, ht, by rw [e']; exact e⟩
theorem own_hit {f : Nat → Int64} {k : Int64} {j : Nat} (hk : k ≠ -1) (hi : own_inv f) (hm : own_mem f k) (hf : own_found f k j) : f j = k := by
  obtain ⟨t, ht, rfl, h1, h2⟩ := hf
  rcases h1 with h1 | h1
  · exfalso
    obtain ⟨p, hp, e⟩ := hm
    obtain ⟨u, hu, rfl⟩ := own_at_sur k hp
    by_cases c1 : t < u
    · exact hi k hk u hu e t c1 h1
    · by_cases c2 : t = u
      · subst c2; exact hk (e.symm.trans h1)
      · exact (h2 u (by omega)).2 e
  · exact h1
theorem own_miss {f : Nat → Int64} {k : Int64} {j : Nat} (hm : ¬ own_mem f k) (hf : own_found f k j) : f j = -1 := by
  obtain ⟨t, ht, rfl, h1, h2⟩ := hf
  exact h1.resolve_right fun e => hm ⟨_, own_at_lt _ _, e⟩
theorem own_found_lt {f : Nat → Int64} {k : Int64} {j : Nat} (hf : own_found f k j) : j < 1024 := by
  obtain ⟨t, ht, rfl, -⟩ := hf
  exact own_at_lt _ _
theorem own_upd_ne {f : Nat → Int64} {j i : Nat} {k : Int64} (hk : k ≠ -1) (h : f i ≠ -1) : own_upd f j k i ≠ -1 := by
  unfold own_upd
  by_cases e : i = j
  · rw [if_pos e]; exact hk
  · rw [if_neg e]; exact h
theorem own_ins {f : Nat → Int64} {k : Int64} {j n : Nat} (hk : k ≠ -1) (ho : own_ok f n) (hf : own_found f k j) (he : f j = -1) : own_ok (own_upd f j k) (n + 1) := by
  refine ⟨?_, by rw [own_kl_upd (own_found_lt hf) he hk, ho.2]⟩
  obtain ⟨t, ht, rfl, h1, h2⟩ := hf
  intro k2 hk2 t2 ht2 e t' ht'
  by_cases c : own_at_ k2 t2 = own_at_ k t
  · have e2 : k = k2 := by
      have := e
      rw [c] at this
      unfold own_upd at this
      rw [if_pos rfl] at this
      exact this
    subst e2
    have := own_at_inj ht2 ht c
    subst this
    exact own_upd_ne hk (h2 t' ht').1
  · have e2 : f (own_at_ k2 t2) = k2 := by
      have := e
      unfold own_upd at this
      rw [if_neg c] at this
      exact this
    exact own_upd_ne hk (ho.1 k2 hk2 t2 ht2 e2 t' ht')
theorem own_ins_mem {f : Nat → Int64} {k : Int64} {j : Nat} (hj : j < 1024) (he : f j = -1) : ∀ x, x ≠ -1 → (own_mem (own_upd f j k) x ↔ own_mem f x ∨ x = k) := by
  intro x hx
  constructor
  · rintro ⟨i, hi, e⟩
    unfold own_upd at e
    by_cases c : i = j
    · rw [if_pos c] at e; exact Or.inr e.symm
    · rw [if_neg c] at e; exact Or.inl ⟨i, hi, e⟩
  · rintro (⟨i, hi, e⟩ | e)
    · refine ⟨i, hi, ?_⟩
      unfold own_upd
      rw [if_neg (fun c => by subst c; exact hx (e.symm.trans he))]
      exact e
    · refine ⟨j, hj, ?_⟩
      unfold own_upd
      rw [if_pos rfl, e]
theorem own_same_mem {f : Nat → Int64} {k : Int64} (hm : own_mem f k) : ∀ x, x ≠ -1 → (own_mem f x ↔ own_mem f x ∨ x = k) := by
  intro x hx
  exact ⟨Or.inl, fun h => h.elim id fun e => e ▸ hm⟩
theorem own_ok0 : own_ok (fun _ => -1) 0 := by
  refine ⟨fun k hk t ht e => absurd e.symm hk, ?_⟩
  have key : ∀ n, (own_kl (fun _ => -1) n) = [] := by
    intro n
    induction n with
    | zero => rfl
    | succ n ih => rw [own_kl_succ, ih, if_pos rfl]; rfl
  rw [key]; rfl
theorem own_mem0 (x : Int64) (hx : x ≠ -1) : ¬ own_mem (fun _ => -1) x := fun ⟨_, _, e⟩ => hx e.symm
/-! small naturals as ints -/
theorem own_toInt {n : Nat} (h : n < 2147483648) : (Int32.ofNat n).toInt = n := Int32.toInt_ofNat_of_lt (by omega)
theorem own_clamp {n : Nat} (h : n < 2147483648) : (Int32.ofNat n).toNatClampNeg = n := by
  unfold Int32.toNatClampNeg
  rw [own_toInt h]
  rfl
theorem own_lt {i n : Nat} (hi : i < 2147483648) (hn : n < 2147483648) : Int32.ofNat i < Int32.ofNat n ↔ i < n := by
  rw [Int32.lt_iff_toInt_lt, own_toInt hi, own_toInt hn]
  omega
theorem own_nn {i : Nat} (hi : i < 2147483648) : ¬ Int32.ofNat i < 0 := by
  have z : (0 : Int32).toInt = 0 := by decide
  rw [Int32.lt_iff_toInt_lt, own_toInt hi, z]
  omega
theorem own_wrap (k : Int64) (t : Nat) : (Int32.ofNat (own_at_ k t) + (1 : Int32)) &&& (1023 : Int32) = Int32.ofNat (own_at_ k (t + 1)) := by
  have a := own_at_lt k t
  have b := own_at_lt k (t + 1)
  have m := c_mask (Int32.ofNat (own_at_ k t) + (1 : Int32)) 1023 10 (by decide) (by decide)
  have s := c_iadd (Int32.ofNat (own_at_ k t)) 1
  have o : (1 : Int32).toInt = 1 := by decide
  have r := rng32 (Int32.ofNat (own_at_ k t) + (1 : Int32))
  rw [o, own_toInt (by omega)] at s
  apply Int32.toInt_inj.mp
  rw [m, own_toInt (by omega)]
  unfold own_at_ at *
  have p : ((2 ^ 10 : Nat) : Int) = 1024 := by decide
  rw [p]
  omega
/-! long and int arrays of 1024 places -/
def own_LA (Z : State) (h : Heap) (a : Addr) (f : Nat → Int64) : Prop := ∃ cl : Cell, Arr Z h a cl .long ∧ cl.slots.size = 1024 ∧ ∀ j, j < 1024 → cl.slots[j]? = some (.long (f j))
def own_IA (Z : State) (h : Heap) (a : Addr) (f : Nat → Int32) : Prop := ∃ cl : Cell, Arr Z h a cl .int ∧ cl.slots.size = 1024 ∧ ∀ j, j < 1024 → cl.slots[j]? = some (.int (f j))
section OwnArr
variable {Z : State} {h h' : Heap} {a b : Addr} {f g : Nat → Int64} {fi : Nat → Int32} {sl : Nat} {v : Value} {ws : List Addr}
theorem own_LA.ext (F : own_LA Z h a f) (E : Ext h h') : own_LA Z h' a f := by obtain ⟨c, A, r⟩ := F; exact ⟨c, Arr.ext E A, r⟩
theorem own_IA.ext (F : own_IA Z h a fi) (E : Ext h h') : own_IA Z h' a fi := by obtain ⟨c, A, r⟩ := F; exact ⟨c, Arr.ext E A, r⟩
theorem own_LA.other (F : own_LA Z h b f) (W : Wr h h' a sl v) (q : b ≠ a) : own_LA Z h' b f := by obtain ⟨c, A, r⟩ := F; exact ⟨c, Arr.other W A q, r⟩
theorem own_IA.other (F : own_IA Z h b fi) (W : Wr h h' a sl v) (q : b ≠ a) : own_IA Z h' b fi := by obtain ⟨c, A, r⟩ := F; exact ⟨c, Arr.other W A q, r⟩
theorem own_LA.keep (F : own_LA Z h a f) (K : Keep h h' ws) (q : a ∉ ws) : own_LA Z h' a f := by obtain ⟨c, A, r⟩ := F; exact ⟨c, ⟨K.2.1 a c A.1 q, A.2⟩, r⟩
theorem own_IA.keep (F : own_IA Z h a fi) (K : Keep h h' ws) (q : a ∉ ws) : own_IA Z h' a fi := by obtain ⟨c, A, r⟩ := F; exact ⟨c, ⟨K.2.1 a c A.1 q, A.2⟩, r⟩
theorem own_LA.lt (F : own_LA Z h a f) : a < h.size := by obtain ⟨c, A, r⟩ := F; exact A.lt
theorem own_IA.lt (F : own_IA Z h a fi) : a < h.size := by obtain ⟨c, A, r⟩ := F; exact A.lt
theorem own_LA.set {j : Nat} {x : Int64} (F : own_LA Z h a f) (W : Wr h h' a j (.long x)) (hj : j < 1024) : own_LA Z h' a (own_upd f j x) := by
  obtain ⟨c, A, S, H⟩ := F
  refine ⟨c.setSlot j (.long x), Arr.same W A, by rw [sz_set]; exact S, fun i hi => ?_⟩
  by_cases e : j = i
  · subst e
    rw [Cell.slots_setSlot_self _ (by omega)]
    unfold own_upd; rw [if_pos rfl]
  · rw [Cell.slots_setSlot_ne _ e, H i hi]
    unfold own_upd; rw [if_neg (fun q => e q.symm)]
theorem own_IA.set {j : Nat} {x : Int32} (F : own_IA Z h a fi) (W : Wr h h' a j (.int x)) (hj : j < 1024) : own_IA Z h' a (own_updI fi j x) := by
  obtain ⟨c, A, S, H⟩ := F
  refine ⟨c.setSlot j (.int x), Arr.same W A, by rw [sz_set]; exact S, fun i hi => ?_⟩
  by_cases e : j = i
  · subst e
    rw [Cell.slots_setSlot_self _ (by omega)]
    unfold own_updI; rw [if_pos rfl]
  · rw [Cell.slots_setSlot_ne _ e, H i hi]
    unfold own_updI; rw [if_neg (fun q => e q.symm)]
theorem own_k24 : (1024 : Int32).toNatClampNeg = 1024 := by decide
theorem own_LA.new {k : ClassId} (A : Arr Z h a (newA k .long (1024 : Int32)) .long) : own_LA Z h a (fun _ => 0) := by
  refine ⟨_, A, by rw [sz_new]; exact own_k24, fun j hj => ?_⟩
  show (Array.replicate ((1024 : Int32).toNatClampNeg) (defaultValue .long))[j]? = some (.long 0)
  rw [own_k24, Array.getElem?_replicate, if_pos hj]
  rfl
theorem own_IA.new {k : ClassId} (A : Arr Z h a (newA k .int (1024 : Int32)) .int) : own_IA Z h a (fun _ => 0) := by
  refine ⟨_, A, by rw [sz_new]; exact own_k24, fun j hj => ?_⟩
  show (Array.replicate ((1024 : Int32).toNatClampNeg) (defaultValue .int))[j]? = some (.int 0)
  rw [own_k24, Array.getElem?_replicate, if_pos hj]
  rfl
theorem own_LA.congr (F : own_LA Z h a f) (e : ∀ j, j < 1024 → f j = g j) : own_LA Z h a g := by
  obtain ⟨c, A, S, H⟩ := F
  exact ⟨c, A, S, fun j hj => by rw [H j hj, e j hj]⟩
theorem own_inb {cl : Cell} {j : Nat} (S : cl.slots.size = 1024) (hj : j < 1024) : ¬ (Int32.ofNat j < 0 ∨ cl.slots.size ≤ (Int32.ofNat j).toNatClampNeg) := by
  rw [own_clamp (by omega), S]
  rintro (q | q)
  · exact own_nn (by omega) q
  · omega
end OwnArr
theorem own_updl {f : Nat → Int64} {i : Nat} {q : Int64} (h : ∀ j, j < i → f j = q) : ∀ j, j < i + 1 → own_upd f i q j = q := by
  intro j hj
  unfold own_upd
  by_cases e : j = i
  · rw [if_pos e]
  · rw [if_neg e]; exact h j (by omega)
theorem own_upto {P : Nat → Prop} {t : Nat} (h : ∀ j, j < t → P j) (ht : P t) : ∀ j, j < t + 1 → P j := by
  intro j hj
  by_cases e : j = t
  · rw [e]; exact ht
  · exact h j (by omega)
theorem own_cas {P : Prop} {a b m : Nat} (h1 : P → a = b) (h2 : ¬ P → a = b + 1) (hb : b ≤ m) (hb2 : b + 1 ≤ m) : a ≤ m := by
  by_cases q : P
  · rw [h1 q]; exact hb
  · rw [h2 q]; exact hb2
def own_fix (k : Int64) : Int64 := if k = -1 then 0 else k
theorem own_fix_ne (k : Int64) : own_fix k ≠ -1 := by
  unfold own_fix
  by_cases h : k = -1
  · rw [if_pos h]; decide
  · rw [if_neg h]; exact h
theorem d1_0 : decode method_2_code 0 = .ok (.lload_n 0, 1) := by decide +kernel
theorem d1_1 : decode method_2_code 1 = .ok (.ldc2_w 7, 3) := by decide +kernel
theorem d1_4 : decode method_2_code 4 = .ok (.lcmp, 1) := by decide +kernel
theorem d1_5 : decode method_2_code 5 = .ok (.ifCond .ne 7, 3) := by decide +kernel
theorem d1_8 : decode method_2_code 8 = .ok (.lconst 0, 1) := by decide +kernel
theorem d1_9 : decode method_2_code 9 = .ok (.goto 4, 3) := by decide +kernel
theorem d1_12 : decode method_2_code 12 = .ok (.lload_n 0, 1) := by decide +kernel
theorem d1_13 : decode method_2_code 13 = .ok (.lreturn, 1) := by decide +kernel
theorem pn_1 : plainName "com/example/prudent_annotator/prudentannotator/profile/PairCountsKeysPinLaw" = true := by first | (simp [plainName, overriddenIn]; done) | decide +kernel
theorem ef_rm1 (m : MethodId) (x0 : Int64) : entryFrame m #[(.long x0)] 2 = mkF m 0 #[.val (.long x0), .second] [] := by first | (simp [entryFrame, mkF, argsToLocals, Value.category]; done) | rfl
def Q1 (Z : State) (q0 : Int64) (h0 : Heap) (n0 : Nat) (v : Option Value) (h : Heap) (L : List Loc) : Prop := v = some (.long (own_fix q0)) ∧ Fr n0 L ∧ h = h0
set_option maxRecDepth 65536 in
set_option maxHeartbeats 40000000 in
theorem rm1 (l : Launch) (Z : State) (a0 : Array Value) (hw : ∀ d ∈ tables_1, d.before a0 Z = true) (ws : List Jvm.Cond) (q0 : Int64) (h0 : Heap) (n0 : Nat) (Z0 : n0 ≤ h0.size) :
    MetFree l (⟨"com/example/prudent_annotator/prudentannotator/profile/PairCountsKeysPinLaw", "fix", "(J)J"⟩ : MethodName) (head1 (Jvm.Cond.code (⟨"com/example/prudent_annotator/prudentannotator/profile/PairCountsKeysPinLaw", "fix", "(J)J"⟩ : MethodName) method_2_code 2 (some .long) :: ws) ({ frames := 0, cells := 0, slots := 0, locals := 0 } : Room)) (fun a U => a = #[(.long q0)] ∧ Z.Warmed39 U.vm ∧ U.heap = h0) (fun _ _ _ _ _ => True) (fun _ U o U' => ∃ v L, o = .returned v ∧ Q1 Z q0 h0 n0 v U'.heap L ∧ FrameEnd U o U' L ({ frames := 0, cells := 0, slots := 0, locals := 0 } : Room).cells ({ frames := 0, cells := 0, slots := 0, locals := 0 } : Room).slots) := by
  refine MetFree.of_bodySF (plainFor_of_name pn_1) hisR ?_
  intro p e s m args below meth c s₁ Bd hml0 hP hK
  obtain ⟨rfl, hZ, hh⟩ := hP
  have hx := Bd.exec
  have hby := Bd.bytes
  have hml : c.maxLocals = 2 := hml0
  have hown : s.vm.findClass "com/example/prudent_annotator/prudentannotator/profile/PairCountsKeysPinLaw" = some m.cls := findClass_of_methodNamed Bd.named
  have hnm := (name_of_methodNamed Bd.named Bd.method).1
  have X0 : Stand p l e ({ frames := 0, cells := 0, slots := 0, locals := 0 } : Room) s m #[(.long q0)] below meth c s₁ [] 0 0 := Stand.of_body Bd
  have e0 : s₁.heap = h0 := by rw [← hh, Bd.state]; rfl
  have N0 := Fr.nil n0
  refine own_open fun G hG => ?_
  refine own_go (B := s₁.setTop (mkF m 0 #[.val (.long q0), .second] [])) (fun t_ k_ => castTop (ef_rm1 m q0) k_) ?_
  refine own_go (B := s₁.setTop (mkF m 5 #[.val (.long q0), .second] [(.int (lcmpW q0 (-1 : Int64)))])) (fun t_ k_ => ?_) ?_
  · show Steps p.tables e below (s₁.setTop (mkF m 0 #[.val (.long q0), .second] [])) _
    refine XS.lloadN X0.here hx rfl (hb hby d1_0) rfl ?_
    show Steps p.tables e below (s₁.setTop (mkF m 1 #[.val (.long q0), .second] [(.long q0)])) _
    refine X0.ldc2Long hx hown (mvT hZ (hw _ (List.mem_of_getElem? (i := 4) rfl))) (g := (mkF m 1 #[.val (.long q0), .second] [(.long q0)])) rfl (hb hby d1_1) _ ?_
    show Steps p.tables e below (s₁.setTop (mkF m 4 #[.val (.long q0), .second] [(.long (-1 : Int64)), (.long q0)])) _
    refine XS.lcmp X0.here hx rfl (hb hby d1_4) rfl ?_
    show Steps p.tables e below (s₁.setTop (mkF m 5 #[.val (.long q0), .second] [(.int (lcmpW q0 (-1 : Int64)))])) _
    exact k_
  by_cases hc5 : q0 = (-1 : Int64)
  · refine own_go (B := s₁.setTop (mkF m 13 #[.val (.long q0), .second] [(.long (0 : Int64))])) (fun t_ k_ => ?_) ?_
    · show Steps p.tables e below (s₁.setTop (mkF m 5 #[.val (.long q0), .second] [(.int (lcmpW q0 (-1 : Int64)))])) _
      refine XS.ifNo X0.here hx rfl (hb hby d1_5) rfl ((if0 _ _).trans (teq ((lw_eq _ _).mpr hc5)).2) ?_
      show Steps p.tables e below (s₁.setTop (mkF m 8 #[.val (.long q0), .second] [])) _
      refine XS.lconst X0.here hx rfl (hb hby d1_8) ?_
      show Steps p.tables e below (s₁.setTop (mkF m 9 #[.val (.long q0), .second] [(.long (0 : Int64))])) _
      refine XS.goto X0.here hx rfl (pc0 := 9) (pc' := 13) rfl (hb hby d1_9) (by decide) (by decide) ?_
      show Steps p.tables e below (s₁.setTop (mkF m 13 #[.val (.long q0), .second] [(.long (0 : Int64))])) _
      exact k_
    obtain ⟨fs, hr, hrun, hended, hW, hsame⟩ := X0.leave (v := some (.long (0 : Int64))) (fun h => by rw [Bd.returns] at h; cases h)
    refine own_at ?_ (hG _ _ ⟨hrun, hended, _, _, rfl, ?_, ⟨_, rfl⟩, hW, hsame.mono (by decide) (by decide)⟩)
    · show Steps p.tables e below (s₁.setTop (mkF m 13 #[.val (.long q0), .second] [(.long (0 : Int64))])) _
      exact X0.lreturnOut hx Bd.returns (hb hby d1_13) hr
    · show Q1 Z q0 h0 n0 _ s₁.heap _
      rw [e0]
      exact ⟨by unfold own_fix; rw [if_pos hc5], N0, rfl⟩
  · refine own_go (B := s₁.setTop (mkF m 13 #[.val (.long q0), .second] [(.long q0)])) (fun t_ k_ => ?_) ?_
    · show Steps p.tables e below (s₁.setTop (mkF m 5 #[.val (.long q0), .second] [(.int (lcmpW q0 (-1 : Int64)))])) _
      refine XS.ifYes X0.here hx rfl (pc0 := 5) (pc' := 12) rfl (hb hby d1_5) rfl ((if0 _ _).trans (feq (mt (lw_eq _ _).mp hc5)).2) (by decide) (by decide) ?_
      show Steps p.tables e below (s₁.setTop (mkF m 12 #[.val (.long q0), .second] [])) _
      refine XS.lloadN X0.here hx rfl (hb hby d1_12) rfl ?_
      show Steps p.tables e below (s₁.setTop (mkF m 13 #[.val (.long q0), .second] [(.long q0)])) _
      exact k_
    obtain ⟨fs, hr, hrun, hended, hW, hsame⟩ := X0.leave (v := some (.long q0)) (fun h => by rw [Bd.returns] at h; cases h)
    refine own_at ?_ (hG _ _ ⟨hrun, hended, _, _, rfl, ?_, ⟨_, rfl⟩, hW, hsame.mono (by decide) (by decide)⟩)
    · show Steps p.tables e below (s₁.setTop (mkF m 13 #[.val (.long q0), .second] [(.long q0)])) _
      exact X0.lreturnOut hx Bd.returns (hb hby d1_13) hr
    · show Q1 Z q0 h0 n0 _ s₁.heap _
      rw [e0]
      exact ⟨by unfold own_fix; rw [if_neg hc5], N0, rfl⟩
theorem d5_0 : decode jdk_65_method_101_code 0 = .ok (.iconst 0, 1) := by decide +kernel
theorem d5_1 : decode jdk_65_method_101_code 1 = .ok (.istore_n 3, 1) := by decide +kernel
theorem d5_2 : decode jdk_65_method_101_code 2 = .ok (.aload_n 0, 1) := by decide +kernel
theorem d5_3 : decode jdk_65_method_101_code 3 = .ok (.arraylength, 1) := by decide +kernel
theorem d5_4 : decode jdk_65_method_101_code 4 = .ok (.istore 4, 2) := by decide +kernel
theorem d5_6 : decode jdk_65_method_101_code 6 = .ok (.iload_n 3, 1) := by decide +kernel
theorem d5_7 : decode jdk_65_method_101_code 7 = .ok (.iload 4, 2) := by decide +kernel
theorem d5_9 : decode jdk_65_method_101_code 9 = .ok (.if_icmp .ge 13, 3) := by decide +kernel
theorem d5_12 : decode jdk_65_method_101_code 12 = .ok (.aload_n 0, 1) := by decide +kernel
theorem d5_13 : decode jdk_65_method_101_code 13 = .ok (.iload_n 3, 1) := by decide +kernel
theorem d5_14 : decode jdk_65_method_101_code 14 = .ok (.lload_n 1, 1) := by decide +kernel
theorem d5_15 : decode jdk_65_method_101_code 15 = .ok (.lastore, 1) := by decide +kernel
theorem d5_16 : decode jdk_65_method_101_code 16 = .ok (.iinc 3 1, 3) := by decide +kernel
theorem d5_19 : decode jdk_65_method_101_code 19 = .ok (.goto (-13), 3) := by decide +kernel
theorem d5_22 : decode jdk_65_method_101_code 22 = .ok (.return_, 1) := by decide +kernel
theorem pn_5 : plainName "java/util/Arrays" = true := by first | (simp [plainName, overriddenIn]; done) | decide +kernel
theorem ef_rm5 (m : MethodId) (x0 : Addr) (x1 : Int64) : entryFrame m #[(.ref x0), (.long x1)] 5 = mkF m 0 #[.val (.ref x0), .val (.long x1), .second, .unset, .unset] [] := by first | (simp [entryFrame, mkF, argsToLocals, Value.category]; done) | rfl
def Q5 (Z : State) (r0 : Addr) (q1 : Int64) (f0 : Nat → Int64) (h0 : Heap) (n0 : Nat) (v : Option Value) (h : Heap) (L : List Loc) : Prop := v = none ∧ Fr n0 L ∧ Keep h0 h [r0] ∧ own_LA Z h r0 (fun _ => q1)
set_option maxRecDepth 65536 in
set_option maxHeartbeats 40000000 in
theorem rm5 (l : Launch) (Z : State) (a0 : Array Value) (hw : ∀ d ∈ tables_1, d.before a0 Z = true) (ws : List Jvm.Cond) (r0 : Addr) (q1 : Int64) (f0 : Nat → Int64) (h0 : Heap) (n0 : Nat) (Z0 : n0 ≤ h0.size) (V0 : own_LA Z h0 r0 f0) (g_r0 : n0 ≤ r0) :
    MetFree l (⟨"java/util/Arrays", "fill", "([JJ)V"⟩ : MethodName) (head1 (Jvm.Cond.code (⟨"java/util/Arrays", "fill", "([JJ)V"⟩ : MethodName) jdk_65_method_101_code 5 none :: ws) ({ frames := 0, cells := 0, slots := 0, locals := 0 } : Room)) (fun a U => a = #[(.ref r0), (.long q1)] ∧ Z.Warmed39 U.vm ∧ U.heap = h0) (fun _ _ _ _ _ => True) (fun _ U o U' => ∃ v L, o = .returned v ∧ Q5 Z r0 q1 f0 h0 n0 v U'.heap L ∧ FrameEnd U o U' L ({ frames := 0, cells := 0, slots := 0, locals := 0 } : Room).cells ({ frames := 0, cells := 0, slots := 0, locals := 0 } : Room).slots) := by
  refine MetFree.of_bodySF (plainFor_of_name pn_5) hisR ?_
  intro p e s m args below meth c s₁ Bd hml0 hP hK
  obtain ⟨rfl, hZ, hh⟩ := hP
  have hx := Bd.exec
  have hby := Bd.bytes
  have hml : c.maxLocals = 5 := hml0
  have hown : s.vm.findClass "java/util/Arrays" = some m.cls := findClass_of_methodNamed Bd.named
  have hnm := (name_of_methodNamed Bd.named Bd.method).1
  have X0 : Stand p l e ({ frames := 0, cells := 0, slots := 0, locals := 0 } : Room) s m #[(.ref r0), (.long q1)] below meth c s₁ [] 0 0 := Stand.of_body Bd
  have e0 : s₁.heap = h0 := by rw [← hh, Bd.state]; rfl
  have N0 := Fr.nil n0
  refine own_open fun G hG => ?_
  refine own_go (B := s₁.setTop (mkF m 0 #[.val (.ref r0), .val (.long q1), .second, .unset, .unset] [])) (fun t_ k_ => castTop (ef_rm5 m r0 q1) k_) ?_
  refine own_go (B := s₁.setTop (mkF m 3 #[.val (.ref r0), .val (.long q1), .second, .val (.int (0 : Int32)), .unset] [(.ref r0)])) (fun t_ k_ => ?_) ?_
  · show Steps p.tables e below (s₁.setTop (mkF m 0 #[.val (.ref r0), .val (.long q1), .second, .unset, .unset] [])) _
    refine XS.iconst X0.here hx rfl (hb hby d5_0) ?_
    show Steps p.tables e below (s₁.setTop (mkF m 1 #[.val (.ref r0), .val (.long q1), .second, .unset, .unset] [(.int (0 : Int32))])) _
    refine XS.istoreN X0.here hx rfl (hb hby d5_1) rfl (l' := #[.val (.ref r0), .val (.long q1), .second, .val (.int (0 : Int32)), .unset]) rfl ?_
    show Steps p.tables e below (s₁.setTop (mkF m 2 #[.val (.ref r0), .val (.long q1), .second, .val (.int (0 : Int32)), .unset] [])) _
    refine XS.aloadN X0.here hx rfl (hb hby d5_2) rfl rfl ?_
    show Steps p.tables e below (s₁.setTop (mkF m 3 #[.val (.ref r0), .val (.long q1), .second, .val (.int (0 : Int32)), .unset] [(.ref r0)])) _
    exact k_
  obtain ⟨cl3, Ar3, S3, -⟩ := id V0
  refine own_go (B := s₁.setTop (mkF m 4 #[.val (.ref r0), .val (.long q1), .second, .val (.int (0 : Int32)), .unset] [(.int (1024 : Int32))])) (fun t_ k_ => ?_) ?_
  · refine X0.arraylength hx (by rw [e0]; exact Ar3.1) (State.isArrayOf_alike hZ.alike Ar3.2.1) (g := (mkF m 3 #[.val (.ref r0), .val (.long q1), .second, .val (.int (0 : Int32)), .unset] [(.ref r0)])) rfl rfl (hb hby d5_3) _ ?_
    rw [S3]
    exact k_
  refine own_go (B := s₁.setTop (mkF m 6 #[.val (.ref r0), .val (.long q1), .second, .val (.int (0 : Int32)), .val (.int (1024 : Int32))] [])) (fun t_ k_ => ?_) ?_
  · show Steps p.tables e below (s₁.setTop (mkF m 4 #[.val (.ref r0), .val (.long q1), .second, .val (.int (0 : Int32)), .unset] [(.int (1024 : Int32))])) _
    refine XS.istore X0.here hx rfl (hb hby d5_4) rfl (l' := #[.val (.ref r0), .val (.long q1), .second, .val (.int (0 : Int32)), .val (.int (1024 : Int32))]) rfl ?_
    show Steps p.tables e below (s₁.setTop (mkF m 6 #[.val (.ref r0), .val (.long q1), .second, .val (.int (0 : Int32)), .val (.int (1024 : Int32))] [])) _
    exact k_
  have LOOP : ∀ (d i : Nat) (TK : State) (LK : List Loc) (hK : Heap) (f : Nat → Int64), i + d = 1024 → Stand p l e ({ frames := 0, cells := 0, slots := 0, locals := 0 } : Room) s m #[(.ref r0), (.long q1)] below meth c TK LK 0 0 → TK.heap = hK → Fr n0 LK → n0 ≤ hK.size → Keep h0 hK [r0] → own_LA Z hK r0 f → (∀ j, j < i → f j = q1) → own_R p.tables e below G (TK.setTop (mkF m 6 #[.val (.ref r0), .val (.long q1), .second, .val (.int (Int32.ofNat i)), .val (.int (1024 : Int32))] [])) := by
    intro d
    induction d with
    | zero =>
      intro i TK LK hK f hd XK eK NK ZK KK VK hf
      refine own_go (B := TK.setTop (mkF m 22 #[.val (.ref r0), .val (.long q1), .second, .val (.int (Int32.ofNat i)), .val (.int (1024 : Int32))] [])) (fun t_ k_ => ?_) ?_
      · show Steps p.tables e below (TK.setTop (mkF m 6 #[.val (.ref r0), .val (.long q1), .second, .val (.int (Int32.ofNat i)), .val (.int (1024 : Int32))] [])) _
        refine XS.iloadN XK.here hx rfl (hb hby d5_6) rfl ?_
        show Steps p.tables e below (TK.setTop (mkF m 7 #[.val (.ref r0), .val (.long q1), .second, .val (.int (Int32.ofNat i)), .val (.int (1024 : Int32))] [(.int (Int32.ofNat i))])) _
        refine XS.iload XK.here hx rfl (hb hby d5_7) rfl ?_
        show Steps p.tables e below (TK.setTop (mkF m 9 #[.val (.ref r0), .val (.long q1), .second, .val (.int (Int32.ofNat i)), .val (.int (1024 : Int32))] [(.int (1024 : Int32)), (.int (Int32.ofNat i))])) _
        refine XS.icmpYes XK.here hx rfl (pc0 := 9) (pc' := 22) rfl (hb hby d5_9) rfl (flt (fun q => absurd ((own_lt (i := i) (n := 1024) (by omega) (by decide)).mp q) (by omega))).2.1 (by decide) (by decide) ?_
        show Steps p.tables e below (TK.setTop (mkF m 22 #[.val (.ref r0), .val (.long q1), .second, .val (.int (Int32.ofNat i)), .val (.int (1024 : Int32))] [])) _
        exact k_
      obtain ⟨fs, hr, hrun, hended, hW, hsame⟩ := XK.leave (v := none) (fun _ => rfl)
      refine own_at ?_ (hG _ _ ⟨hrun, hended, _, _, rfl, ?_, ⟨_, rfl⟩, hW, hsame.mono (by decide) (by decide)⟩)
      · show Steps p.tables e below (TK.setTop (mkF m 22 #[.val (.ref r0), .val (.long q1), .second, .val (.int (Int32.ofNat i)), .val (.int (1024 : Int32))] [])) _
        exact XK.returnOut hx Bd.returns (hb hby d5_22) hr
      · show Q5 Z r0 q1 f0 h0 n0 _ TK.heap _
        rw [eK]
        exact ⟨rfl, NK, KK, VK.congr (fun j hj => hf j (by omega))⟩
    | succ d ih =>
      intro i TK LK hK f hd XK eK NK ZK KK VK hf
      have hi : i < 1024 := by omega
      refine own_go (B := TK.setTop (mkF m 15 #[.val (.ref r0), .val (.long q1), .second, .val (.int (Int32.ofNat i)), .val (.int (1024 : Int32))] [(.long q1), (.int (Int32.ofNat i)), (.ref r0)])) (fun t_ k_ => ?_) ?_
      · show Steps p.tables e below (TK.setTop (mkF m 6 #[.val (.ref r0), .val (.long q1), .second, .val (.int (Int32.ofNat i)), .val (.int (1024 : Int32))] [])) _
        refine XS.iloadN XK.here hx rfl (hb hby d5_6) rfl ?_
        show Steps p.tables e below (TK.setTop (mkF m 7 #[.val (.ref r0), .val (.long q1), .second, .val (.int (Int32.ofNat i)), .val (.int (1024 : Int32))] [(.int (Int32.ofNat i))])) _
        refine XS.iload XK.here hx rfl (hb hby d5_7) rfl ?_
        show Steps p.tables e below (TK.setTop (mkF m 9 #[.val (.ref r0), .val (.long q1), .second, .val (.int (Int32.ofNat i)), .val (.int (1024 : Int32))] [(.int (1024 : Int32)), (.int (Int32.ofNat i))])) _
        refine XS.icmpNo XK.here hx rfl (hb hby d5_9) rfl (tlt ((own_lt (i := i) (n := 1024) (by omega) (by decide)).mpr hi)).2.1 ?_
        show Steps p.tables e below (TK.setTop (mkF m 12 #[.val (.ref r0), .val (.long q1), .second, .val (.int (Int32.ofNat i)), .val (.int (1024 : Int32))] [])) _
        refine XS.aloadN XK.here hx rfl (hb hby d5_12) rfl rfl ?_
        show Steps p.tables e below (TK.setTop (mkF m 13 #[.val (.ref r0), .val (.long q1), .second, .val (.int (Int32.ofNat i)), .val (.int (1024 : Int32))] [(.ref r0)])) _
        refine XS.iloadN XK.here hx rfl (hb hby d5_13) rfl ?_
        show Steps p.tables e below (TK.setTop (mkF m 14 #[.val (.ref r0), .val (.long q1), .second, .val (.int (Int32.ofNat i)), .val (.int (1024 : Int32))] [(.int (Int32.ofNat i)), (.ref r0)])) _
        refine XS.lloadN XK.here hx rfl (hb hby d5_14) rfl ?_
        show Steps p.tables e below (TK.setTop (mkF m 15 #[.val (.ref r0), .val (.long q1), .second, .val (.int (Int32.ofNat i)), .val (.int (1024 : Int32))] [(.long q1), (.int (Int32.ofNat i)), (.ref r0)])) _
        exact k_
      obtain ⟨cl5, Ar5, S5, Hh5⟩ := id VK
      obtain ⟨T5, h5, X5, e5, W5, st5⟩ := stJ XK hx hZ eK Ar5 (j := (Int32.ofNat i)) (own_inb S5 hi) (g := (mkF m 15 #[.val (.ref r0), .val (.long q1), .second, .val (.int (Int32.ofNat i)), .val (.int (1024 : Int32))] [(.long q1), (.int (Int32.ofNat i)), (.ref r0)])) rfl rfl (hb hby d5_15)
      rw [own_clamp (Nat.lt_trans hi (by decide))] at W5
      have f6 : own_LA Z h5 r0 (own_upd f i q1) := VK.set W5 hi
      have f7 : Keep h0 h5 [r0] := KK.wr W5 (Or.inl (List.mem_of_getElem? (i := 0) rfl))
      have Z5 : n0 ≤ h5.size := Nat.le_trans ZK (Keep.of_wr W5).1
      have N5 := Fr.snoc X5 NK g_r0
      refine own_go (B := T5.setTop (mkF m 16 #[.val (.ref r0), .val (.long q1), .second, .val (.int (Int32.ofNat i)), .val (.int (1024 : Int32))] [])) (fun t_ k_ => st5 _ k_) ?_
      refine own_go (B := T5.setTop (mkF m 6 #[.val (.ref r0), .val (.long q1), .second, .val (.int ((Int32.ofNat i) + (1 : Int32))), .val (.int (1024 : Int32))] [])) (fun t_ k_ => ?_) ?_
      · show Steps p.tables e below (T5.setTop (mkF m 16 #[.val (.ref r0), .val (.long q1), .second, .val (.int (Int32.ofNat i)), .val (.int (1024 : Int32))] [])) _
        refine XS.iinc X5.here hx rfl (hb hby d5_16) rfl (l' := #[.val (.ref r0), .val (.long q1), .second, .val (.int ((Int32.ofNat i) + (1 : Int32))), .val (.int (1024 : Int32))]) rfl ?_
        show Steps p.tables e below (T5.setTop (mkF m 19 #[.val (.ref r0), .val (.long q1), .second, .val (.int ((Int32.ofNat i) + (1 : Int32))), .val (.int (1024 : Int32))] [])) _
        refine XS.goto X5.here hx rfl (pc0 := 19) (pc' := 6) rfl (hb hby d5_19) (by decide) (by decide) ?_
        show Steps p.tables e below (T5.setTop (mkF m 6 #[.val (.ref r0), .val (.long q1), .second, .val (.int ((Int32.ofNat i) + (1 : Int32))), .val (.int (1024 : Int32))] [])) _
        exact k_
      have q := ih (i + 1) T5 _ h5 _ (by omega) X5 e5 N5 Z5 f7 f6 (own_updl hf)
      rw [inc_ofNat] at q
      exact q
  exact LOOP 1024 0 s₁ _ h0 f0 (by omega) X0 e0 N0 Z0 (Keep.refl h0 _) V0 (fun j hj => absurd hj (Nat.not_lt_zero j))
theorem d4_0 : decode prog_54_method_10_code 0 = .ok (.iload_n 0, 1) := by decide +kernel
theorem d4_1 : decode prog_54_method_10_code 1 = .ok (.newarray .long, 2) := by decide +kernel
theorem d4_3 : decode prog_54_method_10_code 3 = .ok (.astore_n 1, 1) := by decide +kernel
theorem d4_4 : decode prog_54_method_10_code 4 = .ok (.aload_n 1, 1) := by decide +kernel
theorem d4_5 : decode prog_54_method_10_code 5 = .ok (.ldc2_w 27, 3) := by decide +kernel
theorem d4_8 : decode prog_54_method_10_code 8 = .ok (.invokestatic 65, 3) := by decide +kernel
theorem d4_11 : decode prog_54_method_10_code 11 = .ok (.aload_n 1, 1) := by decide +kernel
theorem d4_12 : decode prog_54_method_10_code 12 = .ok (.areturn, 1) := by decide +kernel
theorem pn_4 : plainName "com/example/prudent_annotator/prudentannotator/profile/PairCounts" = true := by first | (simp [plainName, overriddenIn]; done) | decide +kernel
theorem ef_rm4 (m : MethodId) (x0 : Int32) : entryFrame m #[(.int x0)] 2 = mkF m 0 #[.val (.int x0), .unset] [] := by first | (simp [entryFrame, mkF, argsToLocals, Value.category]; done) | rfl
def Q4 (Z : State)  (h0 : Heap) (n0 : Nat) (v : Option Value) (h : Heap) (L : List Loc) : Prop := ∃ b : Addr, v = some (.ref b) ∧ Fr n0 L ∧ Keep h0 h [] ∧ h0.size ≤ b ∧ own_LA Z h b (fun _ => -1)
set_option maxRecDepth 65536 in
set_option maxHeartbeats 40000000 in
theorem rm4 (l : Launch) (Z : State) (a0 : Array Value) (hw : ∀ d ∈ tables_1, d.before a0 Z = true) (ws : List Jvm.Cond)  (h0 : Heap) (n0 : Nat) (Z0 : n0 ≤ h0.size) :
    MetFree l (⟨"com/example/prudent_annotator/prudentannotator/profile/PairCounts", "newKeys", "(I)[J"⟩ : MethodName) (head1 (Jvm.Cond.code (⟨"com/example/prudent_annotator/prudentannotator/profile/PairCounts", "newKeys", "(I)[J"⟩ : MethodName) prog_54_method_10_code 2 (some (.array .long)) :: ws) ({ frames := 1, cells := 1, slots := 1024, locals := 16 } : Room)) (fun a U => a = #[(.int (1024 : Int32))] ∧ Z.Warmed39 U.vm ∧ U.heap = h0) (fun _ _ _ _ _ => True) (fun _ U o U' => ∃ v L, o = .returned v ∧ Q4 Z  h0 n0 v U'.heap L ∧ FrameEnd U o U' L ({ frames := 1, cells := 1, slots := 1024, locals := 16 } : Room).cells ({ frames := 1, cells := 1, slots := 1024, locals := 16 } : Room).slots) := by
  refine MetFree.of_bodySF (plainFor_of_name pn_4) hisR ?_
  intro p e s m args below meth c s₁ Bd hml0 hP hK
  obtain ⟨rfl, hZ, hh⟩ := hP
  have hx := Bd.exec
  have hby := Bd.bytes
  have hml : c.maxLocals = 2 := hml0
  have hown : s.vm.findClass "com/example/prudent_annotator/prudentannotator/profile/PairCounts" = some m.cls := findClass_of_methodNamed Bd.named
  have hnm := (name_of_methodNamed Bd.named Bd.method).1
  have X0 : Stand p l e ({ frames := 1, cells := 1, slots := 1024, locals := 16 } : Room) s m #[(.int (1024 : Int32))] below meth c s₁ [] 0 0 := Stand.of_body Bd
  have e0 : s₁.heap = h0 := by rw [← hh, Bd.state]; rfl
  have N0 := Fr.nil n0
  refine own_open fun G hG => ?_
  refine own_go (B := s₁.setTop (mkF m 0 #[.val (.int (1024 : Int32)), .unset] [])) (fun t_ k_ => castTop (ef_rm4 m (1024 : Int32)) k_) ?_
  have K0 : Keep h0 h0 [] := Keep.refl h0 _
  refine own_go (B := s₁.setTop (mkF m 1 #[.val (.int (1024 : Int32)), .unset] [(.int (1024 : Int32))])) (fun t_ k_ => ?_) ?_
  · show Steps p.tables e below (s₁.setTop (mkF m 0 #[.val (.int (1024 : Int32)), .unset] [])) _
    refine XS.iloadN X0.here hx rfl (hb hby d4_0) rfl ?_
    show Steps p.tables e below (s₁.setTop (mkF m 1 #[.val (.int (1024 : Int32)), .unset] [(.int (1024 : Int32))])) _
    exact k_
  obtain ⟨T8, h8, k8, X8, e8, E8, A8, st8⟩ := newP X0 hx hZ (hw _ (List.mem_of_getElem? (i := 17) rfl)) e0 (g := (mkF m 1 #[.val (.int (1024 : Int32)), .unset] [(.int (1024 : Int32))])) rfl (hb hby d4_1) rfl (by decide) (cap := 1024) (by decide) (by decide) (by decide) (by decide)
  obtain ⟨b8, g8⟩ : ∃ z, z = h0.size := ⟨_, rfl⟩
  rw [← g8] at A8 st8
  have g_b8 : n0 ≤ b8 := Nat.le_trans Z0 (Nat.le_of_eq g8.symm)
  have sz_b8 : h0.size ≤ b8 := Nat.le_trans K0.1 (Nat.le_of_eq g8.symm)
  have f9 : Keep h0 h8 [] := K0.ext E8
  have Z8 : n0 ≤ h8.size := Nat.le_trans Z0 E8.1
  have f10 : own_LA Z h8 b8 (fun _ => 0) := own_LA.new A8
  refine own_go (B := T8.setTop (mkF m 3 #[.val (.int (1024 : Int32)), .unset] [(.ref b8)])) (fun t_ k_ => st8 _ k_) ?_
  refine own_go (B := T8.setTop (mkF m 8 #[.val (.int (1024 : Int32)), .val (.ref b8)] [(.long (-1 : Int64)), (.ref b8)])) (fun t_ k_ => ?_) ?_
  · show Steps p.tables e below (T8.setTop (mkF m 3 #[.val (.int (1024 : Int32)), .unset] [(.ref b8)])) _
    refine XS.astoreN X8.here hx rfl (hb hby d4_3) rfl rfl (l' := #[.val (.int (1024 : Int32)), .val (.ref b8)]) rfl ?_
    show Steps p.tables e below (T8.setTop (mkF m 4 #[.val (.int (1024 : Int32)), .val (.ref b8)] [])) _
    refine XS.aloadN X8.here hx rfl (hb hby d4_4) rfl rfl ?_
    show Steps p.tables e below (T8.setTop (mkF m 5 #[.val (.int (1024 : Int32)), .val (.ref b8)] [(.ref b8)])) _
    refine X8.ldc2Long hx hown (mvT hZ (hw _ (List.mem_of_getElem? (i := 18) rfl))) (g := (mkF m 5 #[.val (.int (1024 : Int32)), .val (.ref b8)] [(.ref b8)])) rfl (hb hby d4_5) _ ?_
    show Steps p.tables e below (T8.setTop (mkF m 8 #[.val (.int (1024 : Int32)), .val (.ref b8)] [(.long (-1 : Int64)), (.ref b8)])) _
    exact k_
  obtain ⟨vv11, _, ⟨T11, L11, k11, n11⟩, -, X11, ⟨Lc11, hQ11, l11, y11, z11⟩, st11⟩ := Jvm.LawKit.callS X8 hx (y := (⟨"java/util/Arrays", "fill", "([JJ)V"⟩ : MethodName)) hown (mvT hZ (hw _ (List.mem_of_getElem? (i := 19) rfl))) (mvT hZ (hw _ (List.mem_of_getElem? (i := 20) rfl))) (mvT hZ (hw _ (List.mem_of_getElem? (i := 21) rfl))) (mvT hZ (hw _ (List.mem_of_getElem? (i := 22) rfl))) (by decide) (backOf (W := 0) (rm5 l Z a0 hw [] b8 (-1 : Int64) (fun _ => 0) h8 n0 Z8 f10 g_b8) hZ (hw _ (List.mem_of_getElem? (i := 22) rfl)) (hw _ (List.mem_of_getElem? (i := 21) rfl)) (by decide) (by decide)) (g := (mkF m 8 #[.val (.int (1024 : Int32)), .val (.ref b8)] [(.long (-1 : Int64)), (.ref b8)])) rfl (by rw [hml]; rfl) (argsL := [(.ref b8), (.long (-1 : Int64))]) (rest := []) (lenOf pd__28__5b_JJ_29_V rfl) rfl (by show 2 * 0 + _ ≤ _; exact Nat.le_of_eq rfl) (hb hby d4_8) (fun _ _ => ⟨rfl, e8, (by decide : 1 + 0 ≤ _), (by decide : 1024 + 0 ≤ _)⟩)
  dsimp only [Pt.U, Pt.locs, Pt.cells, Pt.slots] at X11 l11 y11 z11 st11 hQ11
  subst l11 y11 z11
  obtain ⟨rfl, N11q, K11, u11_0⟩ := hQ11
  have N11 := Fr.app N0 N11q
  have f12 : Keep h0 T11.heap [] := f9.trans K11 (allS (Or.inr sz_b8) all0)
  have Z11 : n0 ≤ T11.heap.size := Nat.le_trans Z8 K11.1
  refine own_go (B := T11.setTop (mkF m 11 #[.val (.int (1024 : Int32)), .val (.ref b8)] [])) (fun t_ k_ => st11 _ k_) ?_
  refine own_go (B := T11.setTop (mkF m 12 #[.val (.int (1024 : Int32)), .val (.ref b8)] [(.ref b8)])) (fun t_ k_ => ?_) ?_
  · show Steps p.tables e below (T11.setTop (mkF m 11 #[.val (.int (1024 : Int32)), .val (.ref b8)] [])) _
    refine XS.aloadN X11.here hx rfl (hb hby d4_11) rfl rfl ?_
    show Steps p.tables e below (T11.setTop (mkF m 12 #[.val (.int (1024 : Int32)), .val (.ref b8)] [(.ref b8)])) _
    exact k_
  obtain ⟨fs, hr, hrun, hended, hW, hsame⟩ := X11.leave (v := some (.ref b8)) (fun h => by rw [Bd.returns] at h; cases h)
  refine own_at ?_ (hG _ _ ⟨hrun, hended, _, _, rfl, ?_, ⟨_, rfl⟩, hW, hsame.mono (by decide) (by decide)⟩)
  · show Steps p.tables e below (T11.setTop (mkF m 12 #[.val (.int (1024 : Int32)), .val (.ref b8)] [(.ref b8)])) _
    exact retOut X11 hx (t := (.array .long)) Bd.returns rfl (Or.inr (Or.inr (Or.inr (Or.inr ⟨rfl, rfl, rfl⟩)))) (hb hby d4_12) hr
  · show Q4 Z  h0 n0 _ T11.heap _
    exact ⟨b8, rfl, N11, f12, sz_b8, u11_0⟩
theorem d2_0 : decode prog_54_method_1_code 0 = .ok (.aload_n 0, 1) := by decide +kernel
theorem d2_1 : decode prog_54_method_1_code 1 = .ok (.invokespecial 1, 3) := by decide +kernel
theorem d2_4 : decode prog_54_method_1_code 4 = .ok (.aload_n 0, 1) := by decide +kernel
theorem d2_5 : decode prog_54_method_1_code 5 = .ok (.sipush 1024, 3) := by decide +kernel
theorem d2_8 : decode prog_54_method_1_code 8 = .ok (.invokestatic 9, 3) := by decide +kernel
theorem d2_11 : decode prog_54_method_1_code 11 = .ok (.putfield 13, 3) := by decide +kernel
theorem d2_14 : decode prog_54_method_1_code 14 = .ok (.aload_n 0, 1) := by decide +kernel
theorem d2_15 : decode prog_54_method_1_code 15 = .ok (.sipush 1024, 3) := by decide +kernel
theorem d2_18 : decode prog_54_method_1_code 18 = .ok (.newarray .int, 2) := by decide +kernel
theorem d2_20 : decode prog_54_method_1_code 20 = .ok (.putfield 17, 3) := by decide +kernel
theorem d2_23 : decode prog_54_method_1_code 23 = .ok (.return_, 1) := by decide +kernel
theorem pn_2 : plainName "com/example/prudent_annotator/prudentannotator/profile/PairCounts" = true := by first | (simp [plainName, overriddenIn]; done) | decide +kernel
theorem ef_rm2 (m : MethodId) (x0 : Addr) : entryFrame m #[(.ref x0)] 1 = mkF m 0 #[.val (.ref x0)] [] := by first | (simp [entryFrame, mkF, argsToLocals, Value.category]; done) | rfl
def Q2 (Z : State) (r0 : Addr) (h0 : Heap) (n0 : Nat) (v : Option Value) (h : Heap) (L : List Loc) : Prop := ∃ bk bc : Addr, v = none ∧ Fr n0 L ∧ Keep h0 h [r0] ∧ n0 ≤ bk ∧ n0 ≤ bc ∧ h0.size ≤ bk ∧ h0.size ≤ bc ∧ bk ≠ bc ∧ r0 ≠ bk ∧ r0 ≠ bc ∧ Fld Z h r0 "com/example/prudent_annotator/prudentannotator/profile/PairCounts" "keys" "[J" (.ref bk) ∧ Fld Z h r0 "com/example/prudent_annotator/prudentannotator/profile/PairCounts" "counts" "[I" (.ref bc) ∧ Fld Z h r0 "com/example/prudent_annotator/prudentannotator/profile/PairCounts" "size" "I" (.int (Int32.ofNat 0)) ∧ own_LA Z h bk (fun _ => -1) ∧ own_IA Z h bc (fun _ => 0)
set_option maxRecDepth 65536 in
set_option maxHeartbeats 40000000 in
theorem rm2 (l : Launch) (Z : State) (a0 : Array Value) (hw : ∀ d ∈ tables_1, d.before a0 Z = true) (ws : List Jvm.Cond) (r0 : Addr) (h0 : Heap) (n0 : Nat) (Z0 : n0 ≤ h0.size) (F1 : Fld Z h0 r0 "com/example/prudent_annotator/prudentannotator/profile/PairCounts" "keys" "[J" .null) (F2 : Fld Z h0 r0 "com/example/prudent_annotator/prudentannotator/profile/PairCounts" "counts" "[I" .null) (F3 : Fld Z h0 r0 "com/example/prudent_annotator/prudentannotator/profile/PairCounts" "size" "I" (.int (0 : Int32))) (E1 : Exa Z h0 r0 "com/example/prudent_annotator/prudentannotator/profile/PairCounts") (g_r0 : n0 ≤ r0) :
    MetFree l (⟨"com/example/prudent_annotator/prudentannotator/profile/PairCounts", "<init>", "()V"⟩ : MethodName) (head1 (Jvm.Cond.code (⟨"com/example/prudent_annotator/prudentannotator/profile/PairCounts", "<init>", "()V"⟩ : MethodName) prog_54_method_1_code 1 none :: ws) ({ frames := 2, cells := 2, slots := 2048, locals := 30 } : Room)) (fun a U => a = #[(.ref r0)] ∧ Z.Warmed39 U.vm ∧ U.heap = h0) (fun _ _ _ _ _ => True) (fun _ U o U' => ∃ v L, o = .returned v ∧ Q2 Z r0 h0 n0 v U'.heap L ∧ FrameEnd U o U' L ({ frames := 2, cells := 2, slots := 2048, locals := 30 } : Room).cells ({ frames := 2, cells := 2, slots := 2048, locals := 30 } : Room).slots) := by
  refine MetFree.of_bodySF (plainFor_of_name pn_2) hisR ?_
  intro p e s m args below meth c s₁ Bd hml0 hP hK
  obtain ⟨rfl, hZ, hh⟩ := hP
  have hx := Bd.exec
  have hby := Bd.bytes
  have hml : c.maxLocals = 1 := hml0
  have hown : s.vm.findClass "com/example/prudent_annotator/prudentannotator/profile/PairCounts" = some m.cls := findClass_of_methodNamed Bd.named
  have hnm := (name_of_methodNamed Bd.named Bd.method).1
  have X0 : Stand p l e ({ frames := 2, cells := 2, slots := 2048, locals := 30 } : Room) s m #[(.ref r0)] below meth c s₁ [] 0 0 := Stand.of_body Bd
  have e0 : s₁.heap = h0 := by rw [← hh, Bd.state]; rfl
  have N0 := Fr.nil n0
  refine own_open fun G hG => ?_
  refine own_go (B := s₁.setTop (mkF m 0 #[.val (.ref r0)] [])) (fun t_ k_ => castTop (ef_rm2 m r0) k_) ?_
  have K0 : Keep h0 h0 [r0] := Keep.refl h0 _
  refine own_go (B := s₁.setTop (mkF m 1 #[.val (.ref r0)] [(.ref r0)])) (fun t_ k_ => ?_) ?_
  · show Steps p.tables e below (s₁.setTop (mkF m 0 #[.val (.ref r0)] [])) _
    refine XS.aloadN X0.here hx rfl (hb hby d2_0) rfl rfl ?_
    show Steps p.tables e below (s₁.setTop (mkF m 1 #[.val (.ref r0)] [(.ref r0)])) _
    exact k_
  obtain ⟨T14, X14, e14, st14⟩ := initO X0 hx hZ hown (hw _ (List.mem_of_getElem? (i := 11) rfl)) (hw _ (List.mem_of_getElem? (i := 12) rfl)) (hw _ (List.mem_of_getElem? (i := 13) rfl)) e0 (g := (mkF m 1 #[.val (.ref r0)] [(.ref r0)])) rfl (by rw [hml]; rfl) rfl (hb hby d2_1) (by decide) (W := 0) (by show 2 * 0 + _ ≤ _; exact Nat.le_of_eq rfl) (by decide)
  refine own_go (B := T14.setTop (mkF m 4 #[.val (.ref r0)] [])) (fun t_ k_ => st14 _ k_) ?_
  refine own_go (B := T14.setTop (mkF m 8 #[.val (.ref r0)] [(.int (1024 : Int32)), (.ref r0)])) (fun t_ k_ => ?_) ?_
  · show Steps p.tables e below (T14.setTop (mkF m 4 #[.val (.ref r0)] [])) _
    refine XS.aloadN X14.here hx rfl (hb hby d2_4) rfl rfl ?_
    show Steps p.tables e below (T14.setTop (mkF m 5 #[.val (.ref r0)] [(.ref r0)])) _
    refine XS.sipush X14.here hx rfl (hb hby d2_5) ?_
    show Steps p.tables e below (T14.setTop (mkF m 8 #[.val (.ref r0)] [(.int (1024 : Int32)), (.ref r0)])) _
    exact k_
  obtain ⟨vv15, _, ⟨T15, L15, k15, n15⟩, -, X15, ⟨Lc15, hQ15, l15, y15, z15⟩, st15⟩ := Jvm.LawKit.callS X14 hx (y := (⟨"com/example/prudent_annotator/prudentannotator/profile/PairCounts", "newKeys", "(I)[J"⟩ : MethodName)) hown (mvT hZ (hw _ (List.mem_of_getElem? (i := 14) rfl))) (mvT hZ (hw _ (List.mem_of_getElem? (i := 15) rfl))) (mvT hZ (hw _ (List.mem_of_getElem? (i := 7) rfl))) (mvT hZ (hw _ (List.mem_of_getElem? (i := 16) rfl))) (by decide) (backOf (W := 1) (rm4 l Z a0 hw [] h0 n0 Z0) hZ (hw _ (List.mem_of_getElem? (i := 16) rfl)) (hw _ (List.mem_of_getElem? (i := 7) rfl)) (by decide) (by decide)) (g := (mkF m 8 #[.val (.ref r0)] [(.int (1024 : Int32)), (.ref r0)])) rfl (by rw [hml]; rfl) (argsL := [(.int (1024 : Int32))]) (rest := [(.ref r0)]) (lenOf pd__28_I_29__5b_J rfl) rfl (by show 2 * 0 + _ ≤ _; exact Nat.le_of_eq rfl) (hb hby d2_8) (fun _ _ => ⟨rfl, e14, (by decide : 0 + 1 ≤ _), (by decide : 0 + 1024 ≤ _)⟩)
  dsimp only [Pt.U, Pt.locs, Pt.cells, Pt.slots] at X15 l15 y15 z15 st15 hQ15
  subst l15 y15 z15
  obtain ⟨b15, rfl, N15q, K15, s15, u15⟩ := hQ15
  have N15 := Fr.app N0 N15q
  have g_b15 : n0 ≤ b15 := Nat.le_trans Z0 s15
  have ne_r0_b15 : r0 ≠ b15 := Nat.ne_of_lt (Nat.lt_of_lt_of_le F1.lt s15)
  have sz_b15 : h0.size ≤ b15 := Nat.le_trans K0.1 s15
  have f16 : Fld Z T15.heap r0 "com/example/prudent_annotator/prudentannotator/profile/PairCounts" "keys" "[J" .null := F1.keep K15 nin0
  have f17 : Fld Z T15.heap r0 "com/example/prudent_annotator/prudentannotator/profile/PairCounts" "counts" "[I" .null := F2.keep K15 nin0
  have f18 : Fld Z T15.heap r0 "com/example/prudent_annotator/prudentannotator/profile/PairCounts" "size" "I" (.int (0 : Int32)) := F3.keep K15 nin0
  have f19 : Exa Z T15.heap r0 "com/example/prudent_annotator/prudentannotator/profile/PairCounts" := E1.keep K15
  have f20 : Keep h0 T15.heap [r0] := K0.trans K15 all0
  have Z15 : n0 ≤ T15.heap.size := Nat.le_trans Z0 K15.1
  refine own_go (B := T15.setTop (mkF m 11 #[.val (.ref r0)] [(.ref b15), (.ref r0)])) (fun t_ k_ => st15 _ k_) ?_
  obtain ⟨T21, h21, X21, e21, W21, st21⟩ := putF X15 hx hZ hown (host := "") (Or.inl (hw _ (List.mem_of_getElem? (i := 23) rfl))) Via.refl rfl f16 f19 (Or.inl (hw _ (List.mem_of_getElem? (i := 24) rfl))) (hw _ (List.mem_of_getElem? (i := 6) rfl)) (ty := (.array .long)) (by decide) rfl rfl (g := (mkF m 11 #[.val (.ref r0)] [(.ref b15), (.ref r0)])) rfl rfl (hb hby d2_11)
  have f22 : Fld Z h21 r0 "com/example/prudent_annotator/prudentannotator/profile/PairCounts" "keys" "[J" (.ref b15) := f16.same W21
  have f23 : Fld Z h21 r0 "com/example/prudent_annotator/prudentannotator/profile/PairCounts" "counts" "[I" .null := f17.other W21 (Or.inr (slot_ne (Or.inl (hw _ (List.mem_of_getElem? (i := 27) rfl))) (Or.inl (hw _ (List.mem_of_getElem? (i := 24) rfl))) (by decide) (t := (.array .int)) (t' := (.array .long)) (by decide) (by decide)))
  have f24 : Fld Z h21 r0 "com/example/prudent_annotator/prudentannotator/profile/PairCounts" "size" "I" (.int (0 : Int32)) := f18.other W21 (Or.inr (slot_ne (Or.inl (hw _ (List.mem_of_getElem? (i := 43) rfl))) (Or.inl (hw _ (List.mem_of_getElem? (i := 24) rfl))) (by decide) (t := .int) (t' := (.array .long)) (by decide) (by decide)))
  have f25 : Exa Z h21 r0 "com/example/prudent_annotator/prudentannotator/profile/PairCounts" := f19.wr W21
  have f26 : Keep h0 h21 [r0] := f20.wr W21 (Or.inl (List.mem_of_getElem? (i := 0) rfl))
  have f27 : own_LA Z h21 b15 (fun _ => -1) := u15.other W21 (Ne.symm ne_r0_b15)
  have Z21 : n0 ≤ h21.size := Nat.le_trans Z15 (Keep.of_wr W21).1
  have N21 := Fr.snoc X21 N15 g_r0
  refine own_go (B := T21.setTop (mkF m 14 #[.val (.ref r0)] [])) (fun t_ k_ => st21 _ k_) ?_
  refine own_go (B := T21.setTop (mkF m 18 #[.val (.ref r0)] [(.int (1024 : Int32)), (.ref r0)])) (fun t_ k_ => ?_) ?_
  · show Steps p.tables e below (T21.setTop (mkF m 14 #[.val (.ref r0)] [])) _
    refine XS.aloadN X21.here hx rfl (hb hby d2_14) rfl rfl ?_
    show Steps p.tables e below (T21.setTop (mkF m 15 #[.val (.ref r0)] [(.ref r0)])) _
    refine XS.sipush X21.here hx rfl (hb hby d2_15) ?_
    show Steps p.tables e below (T21.setTop (mkF m 18 #[.val (.ref r0)] [(.int (1024 : Int32)), (.ref r0)])) _
    exact k_
  obtain ⟨T28, h28, k28, X28, e28, E28, A28, st28⟩ := newP X21 hx hZ (hw _ (List.mem_of_getElem? (i := 25) rfl)) e21 (g := (mkF m 18 #[.val (.ref r0)] [(.int (1024 : Int32)), (.ref r0)])) rfl (hb hby d2_18) rfl (by decide) (cap := 1024) (by decide) (by decide) (by decide) (by decide)
  obtain ⟨b28, g28⟩ : ∃ z, z = h21.size := ⟨_, rfl⟩
  rw [← g28] at A28 st28
  have g_b28 : n0 ≤ b28 := Nat.le_trans Z21 (Nat.le_of_eq g28.symm)
  have ne_r0_b28 : r0 ≠ b28 := Nat.ne_of_lt (Nat.lt_of_lt_of_le f22.lt (Nat.le_of_eq g28.symm))
  have ne_b15_b28 : b15 ≠ b28 := Nat.ne_of_lt (Nat.lt_of_lt_of_le f27.lt (Nat.le_of_eq g28.symm))
  have sz_b28 : h0.size ≤ b28 := Nat.le_trans f26.1 (Nat.le_of_eq g28.symm)
  have f29 : Fld Z h28 r0 "com/example/prudent_annotator/prudentannotator/profile/PairCounts" "keys" "[J" (.ref b15) := f22.ext E28
  have f30 : Fld Z h28 r0 "com/example/prudent_annotator/prudentannotator/profile/PairCounts" "counts" "[I" .null := f23.ext E28
  have f31 : Fld Z h28 r0 "com/example/prudent_annotator/prudentannotator/profile/PairCounts" "size" "I" (.int (0 : Int32)) := f24.ext E28
  have f32 : Exa Z h28 r0 "com/example/prudent_annotator/prudentannotator/profile/PairCounts" := f25.ext E28
  have f33 : Keep h0 h28 [r0] := f26.ext E28
  have f34 : own_LA Z h28 b15 (fun _ => -1) := f27.ext E28
  have Z28 : n0 ≤ h28.size := Nat.le_trans Z21 E28.1
  have f35 : own_IA Z h28 b28 (fun _ => 0) := own_IA.new A28
  refine own_go (B := T28.setTop (mkF m 20 #[.val (.ref r0)] [(.ref b28), (.ref r0)])) (fun t_ k_ => st28 _ k_) ?_
  obtain ⟨T36, h36, X36, e36, W36, st36⟩ := putF X28 hx hZ hown (host := "") (Or.inl (hw _ (List.mem_of_getElem? (i := 26) rfl))) Via.refl e28 f30 f32 (Or.inl (hw _ (List.mem_of_getElem? (i := 27) rfl))) (hw _ (List.mem_of_getElem? (i := 6) rfl)) (ty := (.array .int)) (by decide) rfl rfl (g := (mkF m 20 #[.val (.ref r0)] [(.ref b28), (.ref r0)])) rfl rfl (hb hby d2_20)
  have f37 : Fld Z h36 r0 "com/example/prudent_annotator/prudentannotator/profile/PairCounts" "keys" "[J" (.ref b15) := f29.other W36 (Or.inr (slot_ne (Or.inl (hw _ (List.mem_of_getElem? (i := 24) rfl))) (Or.inl (hw _ (List.mem_of_getElem? (i := 27) rfl))) (by decide) (t := (.array .long)) (t' := (.array .int)) (by decide) (by decide)))
  have f38 : Fld Z h36 r0 "com/example/prudent_annotator/prudentannotator/profile/PairCounts" "counts" "[I" (.ref b28) := f30.same W36
  have f39 : Fld Z h36 r0 "com/example/prudent_annotator/prudentannotator/profile/PairCounts" "size" "I" (.int (0 : Int32)) := f31.other W36 (Or.inr (slot_ne (Or.inl (hw _ (List.mem_of_getElem? (i := 43) rfl))) (Or.inl (hw _ (List.mem_of_getElem? (i := 27) rfl))) (by decide) (t := .int) (t' := (.array .int)) (by decide) (by decide)))
  have f40 : Exa Z h36 r0 "com/example/prudent_annotator/prudentannotator/profile/PairCounts" := f32.wr W36
  have f41 : Keep h0 h36 [r0] := f33.wr W36 (Or.inl (List.mem_of_getElem? (i := 0) rfl))
  have f42 : own_LA Z h36 b15 (fun _ => -1) := f34.other W36 (Ne.symm ne_r0_b15)
  have f43 : own_IA Z h36 b28 (fun _ => 0) := f35.other W36 (Ne.symm ne_r0_b28)
  have Z36 : n0 ≤ h36.size := Nat.le_trans Z28 (Keep.of_wr W36).1
  have N36 := Fr.snoc X36 N21 g_r0
  refine own_go (B := T36.setTop (mkF m 23 #[.val (.ref r0)] [])) (fun t_ k_ => st36 _ k_) ?_
  obtain ⟨fs, hr, hrun, hended, hW, hsame⟩ := X36.leave (v := none) (fun _ => rfl)
  refine own_at ?_ (hG _ _ ⟨hrun, hended, _, _, rfl, ?_, ⟨_, rfl⟩, hW, hsame.mono (by decide) (by decide)⟩)
  · show Steps p.tables e below (T36.setTop (mkF m 23 #[.val (.ref r0)] [])) _
    exact X36.returnOut hx Bd.returns (hb hby d2_23) hr
  · show Q2 Z r0 h0 n0 _ T36.heap _
    rw [e36]
    exact ⟨b15, b28, rfl, N36, f41, g_b15, g_b28, sz_b15, sz_b28, ne_b15_b28, ne_r0_b15, ne_r0_b28, f37, f38, f39, f42, f43⟩
theorem d8_0 : decode jdk_33_method_48_code 0 = .ok (.iload_n 0, 1) := by decide +kernel
theorem d8_1 : decode jdk_33_method_48_code 1 = .ok (.iconst (-1), 1) := by decide +kernel
theorem d8_2 : decode jdk_33_method_48_code 2 = .ok (.ixor, 1) := by decide +kernel
theorem d8_3 : decode jdk_33_method_48_code 3 = .ok (.iload_n 0, 1) := by decide +kernel
theorem d8_4 : decode jdk_33_method_48_code 4 = .ok (.iconst 1, 1) := by decide +kernel
theorem d8_5 : decode jdk_33_method_48_code 5 = .ok (.isub, 1) := by decide +kernel
theorem d8_6 : decode jdk_33_method_48_code 6 = .ok (.iand, 1) := by decide +kernel
theorem d8_7 : decode jdk_33_method_48_code 7 = .ok (.istore_n 0, 1) := by decide +kernel
theorem d8_8 : decode jdk_33_method_48_code 8 = .ok (.iload_n 0, 1) := by decide +kernel
theorem d8_9 : decode jdk_33_method_48_code 9 = .ok (.ifCond .gt 8, 3) := by decide +kernel
theorem d8_12 : decode jdk_33_method_48_code 12 = .ok (.iload_n 0, 1) := by decide +kernel
theorem d8_13 : decode jdk_33_method_48_code 13 = .ok (.bipush 32, 2) := by decide +kernel
theorem d8_15 : decode jdk_33_method_48_code 15 = .ok (.iand, 1) := by decide +kernel
theorem d8_16 : decode jdk_33_method_48_code 16 = .ok (.ireturn, 1) := by decide +kernel
theorem d8_17 : decode jdk_33_method_48_code 17 = .ok (.iconst 1, 1) := by decide +kernel
theorem d8_18 : decode jdk_33_method_48_code 18 = .ok (.istore_n 1, 1) := by decide +kernel
theorem d8_19 : decode jdk_33_method_48_code 19 = .ok (.iload_n 0, 1) := by decide +kernel
theorem d8_20 : decode jdk_33_method_48_code 20 = .ok (.ldc_w 264, 3) := by decide +kernel
theorem d8_23 : decode jdk_33_method_48_code 23 = .ok (.if_icmp .le 11, 3) := by decide +kernel
theorem d8_26 : decode jdk_33_method_48_code 26 = .ok (.iinc 1 16, 3) := by decide +kernel
theorem d8_29 : decode jdk_33_method_48_code 29 = .ok (.iload_n 0, 1) := by decide +kernel
theorem d8_30 : decode jdk_33_method_48_code 30 = .ok (.bipush 16, 2) := by decide +kernel
theorem d8_32 : decode jdk_33_method_48_code 32 = .ok (.iushr, 1) := by decide +kernel
theorem d8_33 : decode jdk_33_method_48_code 33 = .ok (.istore_n 0, 1) := by decide +kernel
theorem d8_34 : decode jdk_33_method_48_code 34 = .ok (.iload_n 0, 1) := by decide +kernel
theorem d8_35 : decode jdk_33_method_48_code 35 = .ok (.sipush 256, 3) := by decide +kernel
theorem d8_38 : decode jdk_33_method_48_code 38 = .ok (.if_icmp .le 11, 3) := by decide +kernel
theorem d8_41 : decode jdk_33_method_48_code 41 = .ok (.iinc 1 8, 3) := by decide +kernel
theorem d8_44 : decode jdk_33_method_48_code 44 = .ok (.iload_n 0, 1) := by decide +kernel
theorem d8_45 : decode jdk_33_method_48_code 45 = .ok (.bipush 8, 2) := by decide +kernel
theorem d8_47 : decode jdk_33_method_48_code 47 = .ok (.iushr, 1) := by decide +kernel
theorem d8_48 : decode jdk_33_method_48_code 48 = .ok (.istore_n 0, 1) := by decide +kernel
theorem d8_49 : decode jdk_33_method_48_code 49 = .ok (.iload_n 0, 1) := by decide +kernel
theorem d8_50 : decode jdk_33_method_48_code 50 = .ok (.bipush 16, 2) := by decide +kernel
theorem d8_52 : decode jdk_33_method_48_code 52 = .ok (.if_icmp .le 10, 3) := by decide +kernel
theorem d8_55 : decode jdk_33_method_48_code 55 = .ok (.iinc 1 4, 3) := by decide +kernel
theorem d8_58 : decode jdk_33_method_48_code 58 = .ok (.iload_n 0, 1) := by decide +kernel
theorem d8_59 : decode jdk_33_method_48_code 59 = .ok (.iconst 4, 1) := by decide +kernel
theorem d8_60 : decode jdk_33_method_48_code 60 = .ok (.iushr, 1) := by decide +kernel
theorem d8_61 : decode jdk_33_method_48_code 61 = .ok (.istore_n 0, 1) := by decide +kernel
theorem d8_62 : decode jdk_33_method_48_code 62 = .ok (.iload_n 0, 1) := by decide +kernel
theorem d8_63 : decode jdk_33_method_48_code 63 = .ok (.iconst 4, 1) := by decide +kernel
theorem d8_64 : decode jdk_33_method_48_code 64 = .ok (.if_icmp .le 10, 3) := by decide +kernel
theorem d8_67 : decode jdk_33_method_48_code 67 = .ok (.iinc 1 2, 3) := by decide +kernel
theorem d8_70 : decode jdk_33_method_48_code 70 = .ok (.iload_n 0, 1) := by decide +kernel
theorem d8_71 : decode jdk_33_method_48_code 71 = .ok (.iconst 2, 1) := by decide +kernel
theorem d8_72 : decode jdk_33_method_48_code 72 = .ok (.iushr, 1) := by decide +kernel
theorem d8_73 : decode jdk_33_method_48_code 73 = .ok (.istore_n 0, 1) := by decide +kernel
theorem d8_74 : decode jdk_33_method_48_code 74 = .ok (.iload_n 1, 1) := by decide +kernel
theorem d8_75 : decode jdk_33_method_48_code 75 = .ok (.iload_n 0, 1) := by decide +kernel
theorem d8_76 : decode jdk_33_method_48_code 76 = .ok (.iconst 1, 1) := by decide +kernel
theorem d8_77 : decode jdk_33_method_48_code 77 = .ok (.iushr, 1) := by decide +kernel
theorem d8_78 : decode jdk_33_method_48_code 78 = .ok (.iadd, 1) := by decide +kernel
theorem d8_79 : decode jdk_33_method_48_code 79 = .ok (.ireturn, 1) := by decide +kernel
theorem pn_8 : plainName "java/lang/Integer" = true := by first | (simp [plainName, overriddenIn]; done) | decide +kernel
theorem ef_rm8 (m : MethodId) (x0 : Int32) : entryFrame m #[(.int x0)] 2 = mkF m 0 #[.val (.int x0), .unset] [] := by first | (simp [entryFrame, mkF, argsToLocals, Value.category]; done) | rfl
def Q8 (Z : State)  (h0 : Heap) (n0 : Nat) (v : Option Value) (h : Heap) (L : List Loc) : Prop := v = some (.int (10 : Int32)) ∧ Fr n0 L ∧ h = h0
set_option maxRecDepth 65536 in
set_option maxHeartbeats 40000000 in
theorem rm8 (l : Launch) (Z : State) (a0 : Array Value) (hw : ∀ d ∈ tables_1, d.before a0 Z = true) (ws : List Jvm.Cond)  (h0 : Heap) (n0 : Nat) (Z0 : n0 ≤ h0.size) :
    MetFree l (⟨"java/lang/Integer", "numberOfTrailingZeros", "(I)I"⟩ : MethodName) (head1 (Jvm.Cond.code (⟨"java/lang/Integer", "numberOfTrailingZeros", "(I)I"⟩ : MethodName) jdk_33_method_48_code 2 (some .int) :: ws) ({ frames := 0, cells := 0, slots := 0, locals := 0 } : Room)) (fun a U => a = #[(.int (1024 : Int32))] ∧ Z.Warmed39 U.vm ∧ U.heap = h0) (fun _ _ _ _ _ => True) (fun _ U o U' => ∃ v L, o = .returned v ∧ Q8 Z  h0 n0 v U'.heap L ∧ FrameEnd U o U' L ({ frames := 0, cells := 0, slots := 0, locals := 0 } : Room).cells ({ frames := 0, cells := 0, slots := 0, locals := 0 } : Room).slots) := by
  refine MetFree.of_bodySF (plainFor_of_name pn_8) hisR ?_
  intro p e s m args below meth c s₁ Bd hml0 hP hK
  obtain ⟨rfl, hZ, hh⟩ := hP
  have hx := Bd.exec
  have hby := Bd.bytes
  have hml : c.maxLocals = 2 := hml0
  have hown : s.vm.findClass "java/lang/Integer" = some m.cls := findClass_of_methodNamed Bd.named
  have hnm := (name_of_methodNamed Bd.named Bd.method).1
  have X0 : Stand p l e ({ frames := 0, cells := 0, slots := 0, locals := 0 } : Room) s m #[(.int (1024 : Int32))] below meth c s₁ [] 0 0 := Stand.of_body Bd
  have e0 : s₁.heap = h0 := by rw [← hh, Bd.state]; rfl
  have N0 := Fr.nil n0
  refine own_open fun G hG => ?_
  refine own_go (B := s₁.setTop (mkF m 0 #[.val (.int (1024 : Int32)), .unset] [])) (fun t_ k_ => castTop (ef_rm8 m (1024 : Int32)) k_) ?_
  refine own_go (B := s₁.setTop (mkF m 79 #[.val (.int (3 : Int32)), .val (.int (9 : Int32))] [(.int (10 : Int32))])) (fun t_ k_ => ?_) ?_
  · show Steps p.tables e below (s₁.setTop (mkF m 0 #[.val (.int (1024 : Int32)), .unset] [])) _
    refine XS.iloadN X0.here hx rfl (hb hby d8_0) rfl ?_
    show Steps p.tables e below (s₁.setTop (mkF m 1 #[.val (.int (1024 : Int32)), .unset] [(.int (1024 : Int32))])) _
    refine XS.iconst X0.here hx rfl (hb hby d8_1) ?_
    show Steps p.tables e below (s₁.setTop (mkF m 2 #[.val (.int (1024 : Int32)), .unset] [(.int (-1 : Int32)), (.int (1024 : Int32))])) _
    refine XS.ixor X0.here hx rfl (hb hby d8_2) rfl ?_
    show Steps p.tables e below (s₁.setTop (mkF m 3 #[.val (.int (1024 : Int32)), .unset] [(.int ((1024 : Int32) ^^^ (-1 : Int32)))])) _
    rw [show ((1024 : Int32) ^^^ (-1 : Int32)) = (-1025 : Int32) from by decide]
    show Steps p.tables e below (s₁.setTop (mkF m 3 #[.val (.int (1024 : Int32)), .unset] [(.int (-1025 : Int32))])) _
    refine XS.iloadN X0.here hx rfl (hb hby d8_3) rfl ?_
    show Steps p.tables e below (s₁.setTop (mkF m 4 #[.val (.int (1024 : Int32)), .unset] [(.int (1024 : Int32)), (.int (-1025 : Int32))])) _
    refine XS.iconst X0.here hx rfl (hb hby d8_4) ?_
    show Steps p.tables e below (s₁.setTop (mkF m 5 #[.val (.int (1024 : Int32)), .unset] [(.int (1 : Int32)), (.int (1024 : Int32)), (.int (-1025 : Int32))])) _
    refine XS.isub X0.here hx rfl (hb hby d8_5) rfl ?_
    show Steps p.tables e below (s₁.setTop (mkF m 6 #[.val (.int (1024 : Int32)), .unset] [(.int ((1024 : Int32) - (1 : Int32))), (.int (-1025 : Int32))])) _
    rw [show ((1024 : Int32) - (1 : Int32)) = (1023 : Int32) from by decide]
    show Steps p.tables e below (s₁.setTop (mkF m 6 #[.val (.int (1024 : Int32)), .unset] [(.int (1023 : Int32)), (.int (-1025 : Int32))])) _
    refine XS.iand X0.here hx rfl (hb hby d8_6) rfl ?_
    show Steps p.tables e below (s₁.setTop (mkF m 7 #[.val (.int (1024 : Int32)), .unset] [(.int ((-1025 : Int32) &&& (1023 : Int32)))])) _
    rw [show ((-1025 : Int32) &&& (1023 : Int32)) = (1023 : Int32) from by decide]
    show Steps p.tables e below (s₁.setTop (mkF m 7 #[.val (.int (1024 : Int32)), .unset] [(.int (1023 : Int32))])) _
    refine XS.istoreN X0.here hx rfl (hb hby d8_7) rfl (l' := #[.val (.int (1023 : Int32)), .unset]) rfl ?_
    show Steps p.tables e below (s₁.setTop (mkF m 8 #[.val (.int (1023 : Int32)), .unset] [])) _
    refine XS.iloadN X0.here hx rfl (hb hby d8_8) rfl ?_
    show Steps p.tables e below (s₁.setTop (mkF m 9 #[.val (.int (1023 : Int32)), .unset] [(.int (1023 : Int32))])) _
    refine XS.ifYes X0.here hx rfl (pc0 := 9) (pc' := 17) rfl (hb hby d8_9) rfl ((if0 _ _).trans (tlt (by decide : (0 : Int32) < (1023 : Int32))).2.2.1) (by decide) (by decide) ?_
    show Steps p.tables e below (s₁.setTop (mkF m 17 #[.val (.int (1023 : Int32)), .unset] [])) _
    refine XS.iconst X0.here hx rfl (hb hby d8_17) ?_
    show Steps p.tables e below (s₁.setTop (mkF m 18 #[.val (.int (1023 : Int32)), .unset] [(.int (1 : Int32))])) _
    refine XS.istoreN X0.here hx rfl (hb hby d8_18) rfl (l' := #[.val (.int (1023 : Int32)), .val (.int (1 : Int32))]) rfl ?_
    show Steps p.tables e below (s₁.setTop (mkF m 19 #[.val (.int (1023 : Int32)), .val (.int (1 : Int32))] [])) _
    refine XS.iloadN X0.here hx rfl (hb hby d8_19) rfl ?_
    show Steps p.tables e below (s₁.setTop (mkF m 20 #[.val (.int (1023 : Int32)), .val (.int (1 : Int32))] [(.int (1023 : Int32))])) _
    refine X0.ldcwInt hx hown (mvT hZ (hw _ (List.mem_of_getElem? (i := 41) rfl))) (g := (mkF m 20 #[.val (.int (1023 : Int32)), .val (.int (1 : Int32))] [(.int (1023 : Int32))])) rfl (hb hby d8_20) _ ?_
    show Steps p.tables e below (s₁.setTop (mkF m 23 #[.val (.int (1023 : Int32)), .val (.int (1 : Int32))] [(.int (65536 : Int32)), (.int (1023 : Int32))])) _
    refine XS.icmpYes X0.here hx rfl (pc0 := 23) (pc' := 34) rfl (hb hby d8_23) rfl (flt (by decide : ¬ ((65536 : Int32) < (1023 : Int32)))).2.2.2 (by decide) (by decide) ?_
    show Steps p.tables e below (s₁.setTop (mkF m 34 #[.val (.int (1023 : Int32)), .val (.int (1 : Int32))] [])) _
    refine XS.iloadN X0.here hx rfl (hb hby d8_34) rfl ?_
    show Steps p.tables e below (s₁.setTop (mkF m 35 #[.val (.int (1023 : Int32)), .val (.int (1 : Int32))] [(.int (1023 : Int32))])) _
    refine XS.sipush X0.here hx rfl (hb hby d8_35) ?_
    show Steps p.tables e below (s₁.setTop (mkF m 38 #[.val (.int (1023 : Int32)), .val (.int (1 : Int32))] [(.int (256 : Int32)), (.int (1023 : Int32))])) _
    refine XS.icmpNo X0.here hx rfl (hb hby d8_38) rfl (tlt (by decide : (256 : Int32) < (1023 : Int32))).2.2.2 ?_
    show Steps p.tables e below (s₁.setTop (mkF m 41 #[.val (.int (1023 : Int32)), .val (.int (1 : Int32))] [])) _
    refine XS.iinc X0.here hx rfl (hb hby d8_41) rfl (l' := #[.val (.int (1023 : Int32)), .val (.int ((1 : Int32) + (8 : Int32)))]) rfl ?_
    show Steps p.tables e below (s₁.setTop (mkF m 44 #[.val (.int (1023 : Int32)), .val (.int ((1 : Int32) + (8 : Int32)))] [])) _
    rw [show ((1 : Int32) + (8 : Int32)) = (9 : Int32) from by decide]
    show Steps p.tables e below (s₁.setTop (mkF m 44 #[.val (.int (1023 : Int32)), .val (.int (9 : Int32))] [])) _
    refine XS.iloadN X0.here hx rfl (hb hby d8_44) rfl ?_
    show Steps p.tables e below (s₁.setTop (mkF m 45 #[.val (.int (1023 : Int32)), .val (.int (9 : Int32))] [(.int (1023 : Int32))])) _
    refine XS.bipush X0.here hx rfl (hb hby d8_45) ?_
    show Steps p.tables e below (s₁.setTop (mkF m 47 #[.val (.int (1023 : Int32)), .val (.int (9 : Int32))] [(.int (8 : Int32)), (.int (1023 : Int32))])) _
    refine XS.iushr X0.here hx rfl (hb hby d8_47) rfl ?_
    show Steps p.tables e below (s₁.setTop (mkF m 48 #[.val (.int (1023 : Int32)), .val (.int (9 : Int32))] [(.int (((1023 : Int32).toUInt32 >>> ((8 : Int32) &&& 31).toUInt32).toInt32))])) _
    rw [show (((1023 : Int32).toUInt32 >>> ((8 : Int32) &&& 31).toUInt32).toInt32) = (3 : Int32) from by decide]
    show Steps p.tables e below (s₁.setTop (mkF m 48 #[.val (.int (1023 : Int32)), .val (.int (9 : Int32))] [(.int (3 : Int32))])) _
    refine XS.istoreN X0.here hx rfl (hb hby d8_48) rfl (l' := #[.val (.int (3 : Int32)), .val (.int (9 : Int32))]) rfl ?_
    show Steps p.tables e below (s₁.setTop (mkF m 49 #[.val (.int (3 : Int32)), .val (.int (9 : Int32))] [])) _
    refine XS.iloadN X0.here hx rfl (hb hby d8_49) rfl ?_
    show Steps p.tables e below (s₁.setTop (mkF m 50 #[.val (.int (3 : Int32)), .val (.int (9 : Int32))] [(.int (3 : Int32))])) _
    refine XS.bipush X0.here hx rfl (hb hby d8_50) ?_
    show Steps p.tables e below (s₁.setTop (mkF m 52 #[.val (.int (3 : Int32)), .val (.int (9 : Int32))] [(.int (16 : Int32)), (.int (3 : Int32))])) _
    refine XS.icmpYes X0.here hx rfl (pc0 := 52) (pc' := 62) rfl (hb hby d8_52) rfl (flt (by decide : ¬ ((16 : Int32) < (3 : Int32)))).2.2.2 (by decide) (by decide) ?_
    show Steps p.tables e below (s₁.setTop (mkF m 62 #[.val (.int (3 : Int32)), .val (.int (9 : Int32))] [])) _
    refine XS.iloadN X0.here hx rfl (hb hby d8_62) rfl ?_
    show Steps p.tables e below (s₁.setTop (mkF m 63 #[.val (.int (3 : Int32)), .val (.int (9 : Int32))] [(.int (3 : Int32))])) _
    refine XS.iconst X0.here hx rfl (hb hby d8_63) ?_
    show Steps p.tables e below (s₁.setTop (mkF m 64 #[.val (.int (3 : Int32)), .val (.int (9 : Int32))] [(.int (4 : Int32)), (.int (3 : Int32))])) _
    refine XS.icmpYes X0.here hx rfl (pc0 := 64) (pc' := 74) rfl (hb hby d8_64) rfl (flt (by decide : ¬ ((4 : Int32) < (3 : Int32)))).2.2.2 (by decide) (by decide) ?_
    show Steps p.tables e below (s₁.setTop (mkF m 74 #[.val (.int (3 : Int32)), .val (.int (9 : Int32))] [])) _
    refine XS.iloadN X0.here hx rfl (hb hby d8_74) rfl ?_
    show Steps p.tables e below (s₁.setTop (mkF m 75 #[.val (.int (3 : Int32)), .val (.int (9 : Int32))] [(.int (9 : Int32))])) _
    refine XS.iloadN X0.here hx rfl (hb hby d8_75) rfl ?_
    show Steps p.tables e below (s₁.setTop (mkF m 76 #[.val (.int (3 : Int32)), .val (.int (9 : Int32))] [(.int (3 : Int32)), (.int (9 : Int32))])) _
    refine XS.iconst X0.here hx rfl (hb hby d8_76) ?_
    show Steps p.tables e below (s₁.setTop (mkF m 77 #[.val (.int (3 : Int32)), .val (.int (9 : Int32))] [(.int (1 : Int32)), (.int (3 : Int32)), (.int (9 : Int32))])) _
    refine XS.iushr X0.here hx rfl (hb hby d8_77) rfl ?_
    show Steps p.tables e below (s₁.setTop (mkF m 78 #[.val (.int (3 : Int32)), .val (.int (9 : Int32))] [(.int (((3 : Int32).toUInt32 >>> ((1 : Int32) &&& 31).toUInt32).toInt32)), (.int (9 : Int32))])) _
    rw [show (((3 : Int32).toUInt32 >>> ((1 : Int32) &&& 31).toUInt32).toInt32) = (1 : Int32) from by decide]
    show Steps p.tables e below (s₁.setTop (mkF m 78 #[.val (.int (3 : Int32)), .val (.int (9 : Int32))] [(.int (1 : Int32)), (.int (9 : Int32))])) _
    refine XS.iadd X0.here hx rfl (hb hby d8_78) rfl ?_
    show Steps p.tables e below (s₁.setTop (mkF m 79 #[.val (.int (3 : Int32)), .val (.int (9 : Int32))] [(.int ((9 : Int32) + (1 : Int32)))])) _
    rw [show ((9 : Int32) + (1 : Int32)) = (10 : Int32) from by decide]
    show Steps p.tables e below (s₁.setTop (mkF m 79 #[.val (.int (3 : Int32)), .val (.int (9 : Int32))] [(.int (10 : Int32))])) _
    exact k_
  obtain ⟨fs, hr, hrun, hended, hW, hsame⟩ := X0.leave (v := some (.int (10 : Int32))) (fun h => by rw [Bd.returns] at h; cases h)
  refine own_at ?_ (hG _ _ ⟨hrun, hended, _, _, rfl, ?_, ⟨_, rfl⟩, hW, hsame.mono (by decide) (by decide)⟩)
  · show Steps p.tables e below (s₁.setTop (mkF m 79 #[.val (.int (3 : Int32)), .val (.int (9 : Int32))] [(.int (10 : Int32))])) _
    exact retI X0 hx Bd.returns (hb hby d8_79) hr
  · show Q8 Z  h0 n0 _ s₁.heap _
    rw [e0]
    exact ⟨rfl, N0, rfl⟩
theorem d7_0 : decode prog_54_method_9_code 0 = .ok (.aload_n 0, 1) := by decide +kernel
theorem d7_1 : decode prog_54_method_9_code 1 = .ok (.arraylength, 1) := by decide +kernel
theorem d7_2 : decode prog_54_method_9_code 2 = .ok (.iconst 1, 1) := by decide +kernel
theorem d7_3 : decode prog_54_method_9_code 3 = .ok (.isub, 1) := by decide +kernel
theorem d7_4 : decode prog_54_method_9_code 4 = .ok (.istore_n 3, 1) := by decide +kernel
theorem d7_5 : decode prog_54_method_9_code 5 = .ok (.lload_n 1, 1) := by decide +kernel
theorem d7_6 : decode prog_54_method_9_code 6 = .ok (.ldc2_w 57, 3) := by decide +kernel
theorem d7_9 : decode prog_54_method_9_code 9 = .ok (.lmul, 1) := by decide +kernel
theorem d7_10 : decode prog_54_method_9_code 10 = .ok (.bipush 64, 2) := by decide +kernel
theorem d7_12 : decode prog_54_method_9_code 12 = .ok (.aload_n 0, 1) := by decide +kernel
theorem d7_13 : decode prog_54_method_9_code 13 = .ok (.arraylength, 1) := by decide +kernel
theorem d7_14 : decode prog_54_method_9_code 14 = .ok (.invokestatic 61, 3) := by decide +kernel
theorem d7_17 : decode prog_54_method_9_code 17 = .ok (.isub, 1) := by decide +kernel
theorem d7_18 : decode prog_54_method_9_code 18 = .ok (.lushr, 1) := by decide +kernel
theorem d7_19 : decode prog_54_method_9_code 19 = .ok (.l2i, 1) := by decide +kernel
theorem d7_20 : decode prog_54_method_9_code 20 = .ok (.iload_n 3, 1) := by decide +kernel
theorem d7_21 : decode prog_54_method_9_code 21 = .ok (.iand, 1) := by decide +kernel
theorem d7_22 : decode prog_54_method_9_code 22 = .ok (.istore 4, 2) := by decide +kernel
theorem d7_24 : decode prog_54_method_9_code 24 = .ok (.aload_n 0, 1) := by decide +kernel
theorem d7_25 : decode prog_54_method_9_code 25 = .ok (.iload 4, 2) := by decide +kernel
theorem d7_27 : decode prog_54_method_9_code 27 = .ok (.laload, 1) := by decide +kernel
theorem d7_28 : decode prog_54_method_9_code 28 = .ok (.ldc2_w 27, 3) := by decide +kernel
theorem d7_31 : decode prog_54_method_9_code 31 = .ok (.lcmp, 1) := by decide +kernel
theorem d7_32 : decode prog_54_method_9_code 32 = .ok (.ifCond .eq 23, 3) := by decide +kernel
theorem d7_35 : decode prog_54_method_9_code 35 = .ok (.aload_n 0, 1) := by decide +kernel
theorem d7_36 : decode prog_54_method_9_code 36 = .ok (.iload 4, 2) := by decide +kernel
theorem d7_38 : decode prog_54_method_9_code 38 = .ok (.laload, 1) := by decide +kernel
theorem d7_39 : decode prog_54_method_9_code 39 = .ok (.lload_n 1, 1) := by decide +kernel
theorem d7_40 : decode prog_54_method_9_code 40 = .ok (.lcmp, 1) := by decide +kernel
theorem d7_41 : decode prog_54_method_9_code 41 = .ok (.ifCond .eq 14, 3) := by decide +kernel
theorem d7_44 : decode prog_54_method_9_code 44 = .ok (.iload 4, 2) := by decide +kernel
theorem d7_46 : decode prog_54_method_9_code 46 = .ok (.iconst 1, 1) := by decide +kernel
theorem d7_47 : decode prog_54_method_9_code 47 = .ok (.iadd, 1) := by decide +kernel
theorem d7_48 : decode prog_54_method_9_code 48 = .ok (.iload_n 3, 1) := by decide +kernel
theorem d7_49 : decode prog_54_method_9_code 49 = .ok (.iand, 1) := by decide +kernel
theorem d7_50 : decode prog_54_method_9_code 50 = .ok (.istore 4, 2) := by decide +kernel
theorem d7_52 : decode prog_54_method_9_code 52 = .ok (.goto (-28), 3) := by decide +kernel
theorem d7_55 : decode prog_54_method_9_code 55 = .ok (.iload 4, 2) := by decide +kernel
theorem d7_57 : decode prog_54_method_9_code 57 = .ok (.ireturn, 1) := by decide +kernel
theorem pn_7 : plainName "com/example/prudent_annotator/prudentannotator/profile/PairCounts" = true := by first | (simp [plainName, overriddenIn]; done) | decide +kernel
theorem ef_rm7 (m : MethodId) (x0 : Addr) (x1 : Int64) : entryFrame m #[(.ref x0), (.long x1)] 5 = mkF m 0 #[.val (.ref x0), .val (.long x1), .second, .unset, .unset] [] := by first | (simp [entryFrame, mkF, argsToLocals, Value.category]; done) | rfl
def Q7 (Z : State) (r0 : Addr) (q1 : Int64) (f : Nat → Int64) (h0 : Heap) (n0 : Nat) (v : Option Value) (h : Heap) (L : List Loc) : Prop := ∃ j : Nat, v = some (.int (Int32.ofNat j)) ∧ Fr n0 L ∧ h = h0 ∧ own_found f q1 j
set_option maxRecDepth 65536 in
set_option maxHeartbeats 40000000 in
theorem rm7 (l : Launch) (Z : State) (a0 : Array Value) (hw : ∀ d ∈ tables_1, d.before a0 Z = true) (ws : List Jvm.Cond) (r0 : Addr) (q1 : Int64) (f : Nat → Int64) (h0 : Heap) (n0 : Nat) (Z0 : n0 ≤ h0.size) (V0 : own_LA Z h0 r0 f) (hlen : (own_kl f 1024).length ≤ 3) :
    MetFree l (⟨"com/example/prudent_annotator/prudentannotator/profile/PairCounts", "slot", "([JJ)I"⟩ : MethodName) (head1 (Jvm.Cond.code (⟨"com/example/prudent_annotator/prudentannotator/profile/PairCounts", "slot", "([JJ)I"⟩ : MethodName) prog_54_method_9_code 5 (some .int) :: ws) ({ frames := 1, cells := 0, slots := 0, locals := 16 } : Room)) (fun a U => a = #[(.ref r0), (.long q1)] ∧ Z.Warmed39 U.vm ∧ U.heap = h0) (fun _ _ _ _ _ => True) (fun _ U o U' => ∃ v L, o = .returned v ∧ Q7 Z r0 q1 f h0 n0 v U'.heap L ∧ FrameEnd U o U' L ({ frames := 1, cells := 0, slots := 0, locals := 16 } : Room).cells ({ frames := 1, cells := 0, slots := 0, locals := 16 } : Room).slots) := by
  refine MetFree.of_bodySF (plainFor_of_name pn_7) hisR ?_
  intro p e s m args below meth c s₁ Bd hml0 hP hK
  obtain ⟨rfl, hZ, hh⟩ := hP
  have hx := Bd.exec
  have hby := Bd.bytes
  have hml : c.maxLocals = 5 := hml0
  have hown : s.vm.findClass "com/example/prudent_annotator/prudentannotator/profile/PairCounts" = some m.cls := findClass_of_methodNamed Bd.named
  have hnm := (name_of_methodNamed Bd.named Bd.method).1
  have X0 : Stand p l e ({ frames := 1, cells := 0, slots := 0, locals := 16 } : Room) s m #[(.ref r0), (.long q1)] below meth c s₁ [] 0 0 := Stand.of_body Bd
  have e0 : s₁.heap = h0 := by rw [← hh, Bd.state]; rfl
  have N0 := Fr.nil n0
  refine own_open fun G hG => ?_
  refine own_go (B := s₁.setTop (mkF m 0 #[.val (.ref r0), .val (.long q1), .second, .unset, .unset] [])) (fun t_ k_ => castTop (ef_rm7 m r0 q1) k_) ?_
  refine own_go (B := s₁.setTop (mkF m 1 #[.val (.ref r0), .val (.long q1), .second, .unset, .unset] [(.ref r0)])) (fun t_ k_ => ?_) ?_
  · show Steps p.tables e below (s₁.setTop (mkF m 0 #[.val (.ref r0), .val (.long q1), .second, .unset, .unset] [])) _
    refine XS.aloadN X0.here hx rfl (hb hby d7_0) rfl rfl ?_
    show Steps p.tables e below (s₁.setTop (mkF m 1 #[.val (.ref r0), .val (.long q1), .second, .unset, .unset] [(.ref r0)])) _
    exact k_
  obtain ⟨cl46, Ar46, S46, -⟩ := id V0
  refine own_go (B := s₁.setTop (mkF m 2 #[.val (.ref r0), .val (.long q1), .second, .unset, .unset] [(.int (1024 : Int32))])) (fun t_ k_ => ?_) ?_
  · refine X0.arraylength hx (by rw [e0]; exact Ar46.1) (State.isArrayOf_alike hZ.alike Ar46.2.1) (g := (mkF m 1 #[.val (.ref r0), .val (.long q1), .second, .unset, .unset] [(.ref r0)])) rfl rfl (hb hby d7_1) _ ?_
    rw [S46]
    exact k_
  refine own_go (B := s₁.setTop (mkF m 13 #[.val (.ref r0), .val (.long q1), .second, .val (.int (1023 : Int32)), .unset] [(.ref r0), (.int (64 : Int32)), (.long (q1 * (-7046029254386353131 : Int64)))])) (fun t_ k_ => ?_) ?_
  · show Steps p.tables e below (s₁.setTop (mkF m 2 #[.val (.ref r0), .val (.long q1), .second, .unset, .unset] [(.int (1024 : Int32))])) _
    refine XS.iconst X0.here hx rfl (hb hby d7_2) ?_
    show Steps p.tables e below (s₁.setTop (mkF m 3 #[.val (.ref r0), .val (.long q1), .second, .unset, .unset] [(.int (1 : Int32)), (.int (1024 : Int32))])) _
    refine XS.isub X0.here hx rfl (hb hby d7_3) rfl ?_
    show Steps p.tables e below (s₁.setTop (mkF m 4 #[.val (.ref r0), .val (.long q1), .second, .unset, .unset] [(.int ((1024 : Int32) - (1 : Int32)))])) _
    rw [show ((1024 : Int32) - (1 : Int32)) = (1023 : Int32) from by decide]
    show Steps p.tables e below (s₁.setTop (mkF m 4 #[.val (.ref r0), .val (.long q1), .second, .unset, .unset] [(.int (1023 : Int32))])) _
    refine XS.istoreN X0.here hx rfl (hb hby d7_4) rfl (l' := #[.val (.ref r0), .val (.long q1), .second, .val (.int (1023 : Int32)), .unset]) rfl ?_
    show Steps p.tables e below (s₁.setTop (mkF m 5 #[.val (.ref r0), .val (.long q1), .second, .val (.int (1023 : Int32)), .unset] [])) _
    refine XS.lloadN X0.here hx rfl (hb hby d7_5) rfl ?_
    show Steps p.tables e below (s₁.setTop (mkF m 6 #[.val (.ref r0), .val (.long q1), .second, .val (.int (1023 : Int32)), .unset] [(.long q1)])) _
    refine X0.ldc2Long hx hown (mvT hZ (hw _ (List.mem_of_getElem? (i := 36) rfl))) (g := (mkF m 6 #[.val (.ref r0), .val (.long q1), .second, .val (.int (1023 : Int32)), .unset] [(.long q1)])) rfl (hb hby d7_6) _ ?_
    show Steps p.tables e below (s₁.setTop (mkF m 9 #[.val (.ref r0), .val (.long q1), .second, .val (.int (1023 : Int32)), .unset] [(.long (-7046029254386353131 : Int64)), (.long q1)])) _
    refine XS.lmul X0.here hx rfl (hb hby d7_9) rfl ?_
    show Steps p.tables e below (s₁.setTop (mkF m 10 #[.val (.ref r0), .val (.long q1), .second, .val (.int (1023 : Int32)), .unset] [(.long (q1 * (-7046029254386353131 : Int64)))])) _
    refine XS.bipush X0.here hx rfl (hb hby d7_10) ?_
    show Steps p.tables e below (s₁.setTop (mkF m 12 #[.val (.ref r0), .val (.long q1), .second, .val (.int (1023 : Int32)), .unset] [(.int (64 : Int32)), (.long (q1 * (-7046029254386353131 : Int64)))])) _
    refine XS.aloadN X0.here hx rfl (hb hby d7_12) rfl rfl ?_
    show Steps p.tables e below (s₁.setTop (mkF m 13 #[.val (.ref r0), .val (.long q1), .second, .val (.int (1023 : Int32)), .unset] [(.ref r0), (.int (64 : Int32)), (.long (q1 * (-7046029254386353131 : Int64)))])) _
    exact k_
  obtain ⟨cl47, Ar47, S47, -⟩ := id V0
  refine own_go (B := s₁.setTop (mkF m 14 #[.val (.ref r0), .val (.long q1), .second, .val (.int (1023 : Int32)), .unset] [(.int (1024 : Int32)), (.int (64 : Int32)), (.long (q1 * (-7046029254386353131 : Int64)))])) (fun t_ k_ => ?_) ?_
  · refine X0.arraylength hx (by rw [e0]; exact Ar47.1) (State.isArrayOf_alike hZ.alike Ar47.2.1) (g := (mkF m 13 #[.val (.ref r0), .val (.long q1), .second, .val (.int (1023 : Int32)), .unset] [(.ref r0), (.int (64 : Int32)), (.long (q1 * (-7046029254386353131 : Int64)))])) rfl rfl (hb hby d7_13) _ ?_
    rw [S47]
    exact k_
  obtain ⟨vv48, _, ⟨T48, L48, k48, n48⟩, -, X48, ⟨Lc48, hQ48, l48, y48, z48⟩, st48⟩ := Jvm.LawKit.callS X0 hx (y := (⟨"java/lang/Integer", "numberOfTrailingZeros", "(I)I"⟩ : MethodName)) hown (mvT hZ (hw _ (List.mem_of_getElem? (i := 37) rfl))) (mvT hZ (hw _ (List.mem_of_getElem? (i := 38) rfl))) (mvT hZ (hw _ (List.mem_of_getElem? (i := 39) rfl))) (mvT hZ (hw _ (List.mem_of_getElem? (i := 40) rfl))) (by decide) (backOf (W := 3) (rm8 l Z a0 hw [] h0 n0 Z0) hZ (hw _ (List.mem_of_getElem? (i := 40) rfl)) (hw _ (List.mem_of_getElem? (i := 39) rfl)) (by decide) (by decide)) (g := (mkF m 14 #[.val (.ref r0), .val (.long q1), .second, .val (.int (1023 : Int32)), .unset] [(.int (1024 : Int32)), (.int (64 : Int32)), (.long (q1 * (-7046029254386353131 : Int64)))])) rfl (by rw [hml]; rfl) (argsL := [(.int (1024 : Int32))]) (rest := [(.int (64 : Int32)), (.long (q1 * (-7046029254386353131 : Int64)))]) (lenOf pd__28_I_29_I rfl) rfl (by show 2 * 0 + _ ≤ _; exact Nat.le_of_eq rfl) (hb hby d7_14) (fun _ _ => ⟨rfl, e0, (by decide : 0 + 0 ≤ _), (by decide : 0 + 0 ≤ _)⟩)
  dsimp only [Pt.U, Pt.locs, Pt.cells, Pt.slots] at X48 l48 y48 z48 st48 hQ48
  subst l48 y48 z48
  obtain ⟨rfl, N48q, e48q⟩ := hQ48
  have N48 := Fr.app N0 N48q
  refine own_go (B := T48.setTop (mkF m 17 #[.val (.ref r0), .val (.long q1), .second, .val (.int (1023 : Int32)), .unset] [(.int (10 : Int32)), (.int (64 : Int32)), (.long (q1 * (-7046029254386353131 : Int64)))])) (fun t_ k_ => st48 _ k_) ?_
  refine own_go (B := T48.setTop (mkF m 24 #[.val (.ref r0), .val (.long q1), .second, .val (.int (1023 : Int32)), .val (.int (((((q1 * (-7046029254386353131 : Int64)).toUInt64 >>> ((54 : Int32) &&& 0x3f).toInt64.toUInt64).toInt64).toInt32) &&& (1023 : Int32)))] [])) (fun t_ k_ => ?_) ?_
  · show Steps p.tables e below (T48.setTop (mkF m 17 #[.val (.ref r0), .val (.long q1), .second, .val (.int (1023 : Int32)), .unset] [(.int (10 : Int32)), (.int (64 : Int32)), (.long (q1 * (-7046029254386353131 : Int64)))])) _
    refine XS.isub X48.here hx rfl (hb hby d7_17) rfl ?_
    show Steps p.tables e below (T48.setTop (mkF m 18 #[.val (.ref r0), .val (.long q1), .second, .val (.int (1023 : Int32)), .unset] [(.int ((64 : Int32) - (10 : Int32))), (.long (q1 * (-7046029254386353131 : Int64)))])) _
    rw [show ((64 : Int32) - (10 : Int32)) = (54 : Int32) from by decide]
    show Steps p.tables e below (T48.setTop (mkF m 18 #[.val (.ref r0), .val (.long q1), .second, .val (.int (1023 : Int32)), .unset] [(.int (54 : Int32)), (.long (q1 * (-7046029254386353131 : Int64)))])) _
    refine XS.lushr X48.here hx rfl (hb hby d7_18) rfl ?_
    show Steps p.tables e below (T48.setTop (mkF m 19 #[.val (.ref r0), .val (.long q1), .second, .val (.int (1023 : Int32)), .unset] [(.long (((q1 * (-7046029254386353131 : Int64)).toUInt64 >>> ((54 : Int32) &&& 0x3f).toInt64.toUInt64).toInt64))])) _
    refine XS.l2i X48.here hx rfl (hb hby d7_19) rfl ?_
    show Steps p.tables e below (T48.setTop (mkF m 20 #[.val (.ref r0), .val (.long q1), .second, .val (.int (1023 : Int32)), .unset] [(.int ((((q1 * (-7046029254386353131 : Int64)).toUInt64 >>> ((54 : Int32) &&& 0x3f).toInt64.toUInt64).toInt64).toInt32))])) _
    refine XS.iloadN X48.here hx rfl (hb hby d7_20) rfl ?_
    show Steps p.tables e below (T48.setTop (mkF m 21 #[.val (.ref r0), .val (.long q1), .second, .val (.int (1023 : Int32)), .unset] [(.int (1023 : Int32)), (.int ((((q1 * (-7046029254386353131 : Int64)).toUInt64 >>> ((54 : Int32) &&& 0x3f).toInt64.toUInt64).toInt64).toInt32))])) _
    refine XS.iand X48.here hx rfl (hb hby d7_21) rfl ?_
    show Steps p.tables e below (T48.setTop (mkF m 22 #[.val (.ref r0), .val (.long q1), .second, .val (.int (1023 : Int32)), .unset] [(.int (((((q1 * (-7046029254386353131 : Int64)).toUInt64 >>> ((54 : Int32) &&& 0x3f).toInt64.toUInt64).toInt64).toInt32) &&& (1023 : Int32)))])) _
    refine XS.istore X48.here hx rfl (hb hby d7_22) rfl (l' := #[.val (.ref r0), .val (.long q1), .second, .val (.int (1023 : Int32)), .val (.int (((((q1 * (-7046029254386353131 : Int64)).toUInt64 >>> ((54 : Int32) &&& 0x3f).toInt64.toUInt64).toInt64).toInt32) &&& (1023 : Int32)))]) rfl ?_
    show Steps p.tables e below (T48.setTop (mkF m 24 #[.val (.ref r0), .val (.long q1), .second, .val (.int (1023 : Int32)), .val (.int (((((q1 * (-7046029254386353131 : Int64)).toUInt64 >>> ((54 : Int32) &&& 0x3f).toInt64.toUInt64).toInt64).toInt32) &&& (1023 : Int32)))] [])) _
    exact k_
  obtain ⟨tE, htE, hE⟩ := own_stop q1 hlen
  have LOOP : ∀ (d t : Nat), t + d = tE → (∀ t', t' < t → f (own_at_ q1 t') ≠ -1 ∧ f (own_at_ q1 t') ≠ q1) → own_R p.tables e below G (T48.setTop (mkF m 24 #[.val (.ref r0), .val (.long q1), .second, .val (.int (1023 : Int32)), .val (.int (Int32.ofNat (own_at_ q1 t)))] [])) := by
    intro d
    induction d with
    | zero =>
      intro t ht hbef
      refine own_go (B := T48.setTop (mkF m 27 #[.val (.ref r0), .val (.long q1), .second, .val (.int (1023 : Int32)), .val (.int (Int32.ofNat (own_at_ q1 t)))] [(.int (Int32.ofNat (own_at_ q1 t))), (.ref r0)])) (fun t_ k_ => ?_) ?_
      · show Steps p.tables e below (T48.setTop (mkF m 24 #[.val (.ref r0), .val (.long q1), .second, .val (.int (1023 : Int32)), .val (.int (Int32.ofNat (own_at_ q1 t)))] [])) _
        refine XS.aloadN X48.here hx rfl (hb hby d7_24) rfl rfl ?_
        show Steps p.tables e below (T48.setTop (mkF m 25 #[.val (.ref r0), .val (.long q1), .second, .val (.int (1023 : Int32)), .val (.int (Int32.ofNat (own_at_ q1 t)))] [(.ref r0)])) _
        refine XS.iload X48.here hx rfl (hb hby d7_25) rfl ?_
        show Steps p.tables e below (T48.setTop (mkF m 27 #[.val (.ref r0), .val (.long q1), .second, .val (.int (1023 : Int32)), .val (.int (Int32.ofNat (own_at_ q1 t)))] [(.int (Int32.ofNat (own_at_ q1 t))), (.ref r0)])) _
        exact k_
      obtain ⟨cl49, Ar49, S49, Hh49⟩ := id V0
      have hat49 : cl49.slots[((Int32.ofNat (own_at_ q1 t))).toNatClampNeg]? = some (.long (f (own_at_ q1 t))) := by rw [own_clamp (Nat.lt_trans (own_at_lt _ _) (by decide))]; exact Hh49 _ (own_at_lt _ _)
      refine own_go (B := T48.setTop (mkF m 28 #[.val (.ref r0), .val (.long q1), .second, .val (.int (1023 : Int32)), .val (.int (Int32.ofNat (own_at_ q1 t)))] [(.long (f (own_at_ q1 t)))])) (fun t_ k_ => X48.laload hx (j := (Int32.ofNat (own_at_ q1 t))) (v := (.long (f (own_at_ q1 t)))) (by rw [e48q]; exact Ar49.1) (State.isArrayOf_alike hZ.alike Ar49.2.1) Ar49.2.2 (own_inb S49 (own_at_lt _ _)) hat49 (g := (mkF m 27 #[.val (.ref r0), .val (.long q1), .second, .val (.int (1023 : Int32)), .val (.int (Int32.ofNat (own_at_ q1 t)))] [(.int (Int32.ofNat (own_at_ q1 t))), (.ref r0)])) rfl rfl (hb hby d7_27) _ k_) ?_
      refine own_go (B := T48.setTop (mkF m 57 #[.val (.ref r0), .val (.long q1), .second, .val (.int (1023 : Int32)), .val (.int (Int32.ofNat (own_at_ q1 t)))] [(.int (Int32.ofNat (own_at_ q1 t)))])) (fun t_ k_ => ?_) ?_
      · show Steps p.tables e below (T48.setTop (mkF m 28 #[.val (.ref r0), .val (.long q1), .second, .val (.int (1023 : Int32)), .val (.int (Int32.ofNat (own_at_ q1 t)))] [(.long (f (own_at_ q1 t)))])) _
        refine X48.ldc2Long hx hown (mvT hZ (hw _ (List.mem_of_getElem? (i := 18) rfl))) (g := (mkF m 28 #[.val (.ref r0), .val (.long q1), .second, .val (.int (1023 : Int32)), .val (.int (Int32.ofNat (own_at_ q1 t)))] [(.long (f (own_at_ q1 t)))])) rfl (hb hby d7_28) _ ?_
        show Steps p.tables e below (T48.setTop (mkF m 31 #[.val (.ref r0), .val (.long q1), .second, .val (.int (1023 : Int32)), .val (.int (Int32.ofNat (own_at_ q1 t)))] [(.long (-1 : Int64)), (.long (f (own_at_ q1 t)))])) _
        refine XS.lcmp X48.here hx rfl (hb hby d7_31) rfl ?_
        show Steps p.tables e below (T48.setTop (mkF m 32 #[.val (.ref r0), .val (.long q1), .second, .val (.int (1023 : Int32)), .val (.int (Int32.ofNat (own_at_ q1 t)))] [(.int (lcmpW (f (own_at_ q1 t)) (-1 : Int64)))])) _
        refine XS.ifYes X48.here hx rfl (pc0 := 32) (pc' := 55) rfl (hb hby d7_32) rfl ((if0 _ _).trans (teq ((lw_eq _ _).mpr (show f (own_at_ q1 t) = -1 from (by omega : t = tE) ▸ hE))).1) (by decide) (by decide) ?_
        show Steps p.tables e below (T48.setTop (mkF m 55 #[.val (.ref r0), .val (.long q1), .second, .val (.int (1023 : Int32)), .val (.int (Int32.ofNat (own_at_ q1 t)))] [])) _
        refine XS.iload X48.here hx rfl (hb hby d7_55) rfl ?_
        show Steps p.tables e below (T48.setTop (mkF m 57 #[.val (.ref r0), .val (.long q1), .second, .val (.int (1023 : Int32)), .val (.int (Int32.ofNat (own_at_ q1 t)))] [(.int (Int32.ofNat (own_at_ q1 t)))])) _
        exact k_
      obtain ⟨fs, hr, hrun, hended, hW, hsame⟩ := X48.leave (v := some (.int (Int32.ofNat (own_at_ q1 t)))) (fun h => by rw [Bd.returns] at h; cases h)
      refine own_at ?_ (hG _ _ ⟨hrun, hended, _, _, rfl, ?_, ⟨_, rfl⟩, hW, hsame.mono (by decide) (by decide)⟩)
      · show Steps p.tables e below (T48.setTop (mkF m 57 #[.val (.ref r0), .val (.long q1), .second, .val (.int (1023 : Int32)), .val (.int (Int32.ofNat (own_at_ q1 t)))] [(.int (Int32.ofNat (own_at_ q1 t)))])) _
        exact retI X48 hx Bd.returns (hb hby d7_57) hr
      · show Q7 Z r0 q1 f h0 n0 _ T48.heap _
        rw [e48q]
        exact ⟨own_at_ q1 t, rfl, N48, rfl, t, by omega, rfl, Or.inl (show f (own_at_ q1 t) = -1 from (by omega : t = tE) ▸ hE), hbef⟩
    | succ d ih =>
      intro t ht hbef
      refine own_go (B := T48.setTop (mkF m 27 #[.val (.ref r0), .val (.long q1), .second, .val (.int (1023 : Int32)), .val (.int (Int32.ofNat (own_at_ q1 t)))] [(.int (Int32.ofNat (own_at_ q1 t))), (.ref r0)])) (fun t_ k_ => ?_) ?_
      · show Steps p.tables e below (T48.setTop (mkF m 24 #[.val (.ref r0), .val (.long q1), .second, .val (.int (1023 : Int32)), .val (.int (Int32.ofNat (own_at_ q1 t)))] [])) _
        refine XS.aloadN X48.here hx rfl (hb hby d7_24) rfl rfl ?_
        show Steps p.tables e below (T48.setTop (mkF m 25 #[.val (.ref r0), .val (.long q1), .second, .val (.int (1023 : Int32)), .val (.int (Int32.ofNat (own_at_ q1 t)))] [(.ref r0)])) _
        refine XS.iload X48.here hx rfl (hb hby d7_25) rfl ?_
        show Steps p.tables e below (T48.setTop (mkF m 27 #[.val (.ref r0), .val (.long q1), .second, .val (.int (1023 : Int32)), .val (.int (Int32.ofNat (own_at_ q1 t)))] [(.int (Int32.ofNat (own_at_ q1 t))), (.ref r0)])) _
        exact k_
      obtain ⟨cl51, Ar51, S51, Hh51⟩ := id V0
      have hat51 : cl51.slots[((Int32.ofNat (own_at_ q1 t))).toNatClampNeg]? = some (.long (f (own_at_ q1 t))) := by rw [own_clamp (Nat.lt_trans (own_at_lt _ _) (by decide))]; exact Hh51 _ (own_at_lt _ _)
      refine own_go (B := T48.setTop (mkF m 28 #[.val (.ref r0), .val (.long q1), .second, .val (.int (1023 : Int32)), .val (.int (Int32.ofNat (own_at_ q1 t)))] [(.long (f (own_at_ q1 t)))])) (fun t_ k_ => X48.laload hx (j := (Int32.ofNat (own_at_ q1 t))) (v := (.long (f (own_at_ q1 t)))) (by rw [e48q]; exact Ar51.1) (State.isArrayOf_alike hZ.alike Ar51.2.1) Ar51.2.2 (own_inb S51 (own_at_lt _ _)) hat51 (g := (mkF m 27 #[.val (.ref r0), .val (.long q1), .second, .val (.int (1023 : Int32)), .val (.int (Int32.ofNat (own_at_ q1 t)))] [(.int (Int32.ofNat (own_at_ q1 t))), (.ref r0)])) rfl rfl (hb hby d7_27) _ k_) ?_
      refine own_go (B := T48.setTop (mkF m 32 #[.val (.ref r0), .val (.long q1), .second, .val (.int (1023 : Int32)), .val (.int (Int32.ofNat (own_at_ q1 t)))] [(.int (lcmpW (f (own_at_ q1 t)) (-1 : Int64)))])) (fun t_ k_ => ?_) ?_
      · show Steps p.tables e below (T48.setTop (mkF m 28 #[.val (.ref r0), .val (.long q1), .second, .val (.int (1023 : Int32)), .val (.int (Int32.ofNat (own_at_ q1 t)))] [(.long (f (own_at_ q1 t)))])) _
        refine X48.ldc2Long hx hown (mvT hZ (hw _ (List.mem_of_getElem? (i := 18) rfl))) (g := (mkF m 28 #[.val (.ref r0), .val (.long q1), .second, .val (.int (1023 : Int32)), .val (.int (Int32.ofNat (own_at_ q1 t)))] [(.long (f (own_at_ q1 t)))])) rfl (hb hby d7_28) _ ?_
        show Steps p.tables e below (T48.setTop (mkF m 31 #[.val (.ref r0), .val (.long q1), .second, .val (.int (1023 : Int32)), .val (.int (Int32.ofNat (own_at_ q1 t)))] [(.long (-1 : Int64)), (.long (f (own_at_ q1 t)))])) _
        refine XS.lcmp X48.here hx rfl (hb hby d7_31) rfl ?_
        show Steps p.tables e below (T48.setTop (mkF m 32 #[.val (.ref r0), .val (.long q1), .second, .val (.int (1023 : Int32)), .val (.int (Int32.ofNat (own_at_ q1 t)))] [(.int (lcmpW (f (own_at_ q1 t)) (-1 : Int64)))])) _
        exact k_
      by_cases hc32 : (f (own_at_ q1 t)) = (-1 : Int64)
      · refine own_go (B := T48.setTop (mkF m 57 #[.val (.ref r0), .val (.long q1), .second, .val (.int (1023 : Int32)), .val (.int (Int32.ofNat (own_at_ q1 t)))] [(.int (Int32.ofNat (own_at_ q1 t)))])) (fun t_ k_ => ?_) ?_
        · show Steps p.tables e below (T48.setTop (mkF m 32 #[.val (.ref r0), .val (.long q1), .second, .val (.int (1023 : Int32)), .val (.int (Int32.ofNat (own_at_ q1 t)))] [(.int (lcmpW (f (own_at_ q1 t)) (-1 : Int64)))])) _
          refine XS.ifYes X48.here hx rfl (pc0 := 32) (pc' := 55) rfl (hb hby d7_32) rfl ((if0 _ _).trans (teq ((lw_eq _ _).mpr hc32)).1) (by decide) (by decide) ?_
          show Steps p.tables e below (T48.setTop (mkF m 55 #[.val (.ref r0), .val (.long q1), .second, .val (.int (1023 : Int32)), .val (.int (Int32.ofNat (own_at_ q1 t)))] [])) _
          refine XS.iload X48.here hx rfl (hb hby d7_55) rfl ?_
          show Steps p.tables e below (T48.setTop (mkF m 57 #[.val (.ref r0), .val (.long q1), .second, .val (.int (1023 : Int32)), .val (.int (Int32.ofNat (own_at_ q1 t)))] [(.int (Int32.ofNat (own_at_ q1 t)))])) _
          exact k_
        obtain ⟨fs, hr, hrun, hended, hW, hsame⟩ := X48.leave (v := some (.int (Int32.ofNat (own_at_ q1 t)))) (fun h => by rw [Bd.returns] at h; cases h)
        refine own_at ?_ (hG _ _ ⟨hrun, hended, _, _, rfl, ?_, ⟨_, rfl⟩, hW, hsame.mono (by decide) (by decide)⟩)
        · show Steps p.tables e below (T48.setTop (mkF m 57 #[.val (.ref r0), .val (.long q1), .second, .val (.int (1023 : Int32)), .val (.int (Int32.ofNat (own_at_ q1 t)))] [(.int (Int32.ofNat (own_at_ q1 t)))])) _
          exact retI X48 hx Bd.returns (hb hby d7_57) hr
        · show Q7 Z r0 q1 f h0 n0 _ T48.heap _
          rw [e48q]
          exact ⟨own_at_ q1 t, rfl, N48, rfl, t, by omega, rfl, Or.inl hc32, hbef⟩
      · refine own_go (B := T48.setTop (mkF m 38 #[.val (.ref r0), .val (.long q1), .second, .val (.int (1023 : Int32)), .val (.int (Int32.ofNat (own_at_ q1 t)))] [(.int (Int32.ofNat (own_at_ q1 t))), (.ref r0)])) (fun t_ k_ => ?_) ?_
        · show Steps p.tables e below (T48.setTop (mkF m 32 #[.val (.ref r0), .val (.long q1), .second, .val (.int (1023 : Int32)), .val (.int (Int32.ofNat (own_at_ q1 t)))] [(.int (lcmpW (f (own_at_ q1 t)) (-1 : Int64)))])) _
          refine XS.ifNo X48.here hx rfl (hb hby d7_32) rfl ((if0 _ _).trans (feq (mt (lw_eq _ _).mp hc32)).1) ?_
          show Steps p.tables e below (T48.setTop (mkF m 35 #[.val (.ref r0), .val (.long q1), .second, .val (.int (1023 : Int32)), .val (.int (Int32.ofNat (own_at_ q1 t)))] [])) _
          refine XS.aloadN X48.here hx rfl (hb hby d7_35) rfl rfl ?_
          show Steps p.tables e below (T48.setTop (mkF m 36 #[.val (.ref r0), .val (.long q1), .second, .val (.int (1023 : Int32)), .val (.int (Int32.ofNat (own_at_ q1 t)))] [(.ref r0)])) _
          refine XS.iload X48.here hx rfl (hb hby d7_36) rfl ?_
          show Steps p.tables e below (T48.setTop (mkF m 38 #[.val (.ref r0), .val (.long q1), .second, .val (.int (1023 : Int32)), .val (.int (Int32.ofNat (own_at_ q1 t)))] [(.int (Int32.ofNat (own_at_ q1 t))), (.ref r0)])) _
          exact k_
        obtain ⟨cl53, Ar53, S53, Hh53⟩ := id V0
        have hat53 : cl53.slots[((Int32.ofNat (own_at_ q1 t))).toNatClampNeg]? = some (.long (f (own_at_ q1 t))) := by rw [own_clamp (Nat.lt_trans (own_at_lt _ _) (by decide))]; exact Hh53 _ (own_at_lt _ _)
        refine own_go (B := T48.setTop (mkF m 39 #[.val (.ref r0), .val (.long q1), .second, .val (.int (1023 : Int32)), .val (.int (Int32.ofNat (own_at_ q1 t)))] [(.long (f (own_at_ q1 t)))])) (fun t_ k_ => X48.laload hx (j := (Int32.ofNat (own_at_ q1 t))) (v := (.long (f (own_at_ q1 t)))) (by rw [e48q]; exact Ar53.1) (State.isArrayOf_alike hZ.alike Ar53.2.1) Ar53.2.2 (own_inb S53 (own_at_lt _ _)) hat53 (g := (mkF m 38 #[.val (.ref r0), .val (.long q1), .second, .val (.int (1023 : Int32)), .val (.int (Int32.ofNat (own_at_ q1 t)))] [(.int (Int32.ofNat (own_at_ q1 t))), (.ref r0)])) rfl rfl (hb hby d7_38) _ k_) ?_
        refine own_go (B := T48.setTop (mkF m 41 #[.val (.ref r0), .val (.long q1), .second, .val (.int (1023 : Int32)), .val (.int (Int32.ofNat (own_at_ q1 t)))] [(.int (lcmpW (f (own_at_ q1 t)) q1))])) (fun t_ k_ => ?_) ?_
        · show Steps p.tables e below (T48.setTop (mkF m 39 #[.val (.ref r0), .val (.long q1), .second, .val (.int (1023 : Int32)), .val (.int (Int32.ofNat (own_at_ q1 t)))] [(.long (f (own_at_ q1 t)))])) _
          refine XS.lloadN X48.here hx rfl (hb hby d7_39) rfl ?_
          show Steps p.tables e below (T48.setTop (mkF m 40 #[.val (.ref r0), .val (.long q1), .second, .val (.int (1023 : Int32)), .val (.int (Int32.ofNat (own_at_ q1 t)))] [(.long q1), (.long (f (own_at_ q1 t)))])) _
          refine XS.lcmp X48.here hx rfl (hb hby d7_40) rfl ?_
          show Steps p.tables e below (T48.setTop (mkF m 41 #[.val (.ref r0), .val (.long q1), .second, .val (.int (1023 : Int32)), .val (.int (Int32.ofNat (own_at_ q1 t)))] [(.int (lcmpW (f (own_at_ q1 t)) q1))])) _
          exact k_
        by_cases hc41 : (f (own_at_ q1 t)) = q1
        · refine own_go (B := T48.setTop (mkF m 57 #[.val (.ref r0), .val (.long q1), .second, .val (.int (1023 : Int32)), .val (.int (Int32.ofNat (own_at_ q1 t)))] [(.int (Int32.ofNat (own_at_ q1 t)))])) (fun t_ k_ => ?_) ?_
          · show Steps p.tables e below (T48.setTop (mkF m 41 #[.val (.ref r0), .val (.long q1), .second, .val (.int (1023 : Int32)), .val (.int (Int32.ofNat (own_at_ q1 t)))] [(.int (lcmpW (f (own_at_ q1 t)) q1))])) _
            refine XS.ifYes X48.here hx rfl (pc0 := 41) (pc' := 55) rfl (hb hby d7_41) rfl ((if0 _ _).trans (teq ((lw_eq _ _).mpr hc41)).1) (by decide) (by decide) ?_
            show Steps p.tables e below (T48.setTop (mkF m 55 #[.val (.ref r0), .val (.long q1), .second, .val (.int (1023 : Int32)), .val (.int (Int32.ofNat (own_at_ q1 t)))] [])) _
            refine XS.iload X48.here hx rfl (hb hby d7_55) rfl ?_
            show Steps p.tables e below (T48.setTop (mkF m 57 #[.val (.ref r0), .val (.long q1), .second, .val (.int (1023 : Int32)), .val (.int (Int32.ofNat (own_at_ q1 t)))] [(.int (Int32.ofNat (own_at_ q1 t)))])) _
            exact k_
          obtain ⟨fs, hr, hrun, hended, hW, hsame⟩ := X48.leave (v := some (.int (Int32.ofNat (own_at_ q1 t)))) (fun h => by rw [Bd.returns] at h; cases h)
          refine own_at ?_ (hG _ _ ⟨hrun, hended, _, _, rfl, ?_, ⟨_, rfl⟩, hW, hsame.mono (by decide) (by decide)⟩)
          · show Steps p.tables e below (T48.setTop (mkF m 57 #[.val (.ref r0), .val (.long q1), .second, .val (.int (1023 : Int32)), .val (.int (Int32.ofNat (own_at_ q1 t)))] [(.int (Int32.ofNat (own_at_ q1 t)))])) _
            exact retI X48 hx Bd.returns (hb hby d7_57) hr
          · show Q7 Z r0 q1 f h0 n0 _ T48.heap _
            rw [e48q]
            exact ⟨own_at_ q1 t, rfl, N48, rfl, t, by omega, rfl, Or.inr hc41, hbef⟩
        · refine own_go (B := T48.setTop (mkF m 24 #[.val (.ref r0), .val (.long q1), .second, .val (.int (1023 : Int32)), .val (.int (((Int32.ofNat (own_at_ q1 t)) + (1 : Int32)) &&& (1023 : Int32)))] [])) (fun t_ k_ => ?_) ?_
          · show Steps p.tables e below (T48.setTop (mkF m 41 #[.val (.ref r0), .val (.long q1), .second, .val (.int (1023 : Int32)), .val (.int (Int32.ofNat (own_at_ q1 t)))] [(.int (lcmpW (f (own_at_ q1 t)) q1))])) _
            refine XS.ifNo X48.here hx rfl (hb hby d7_41) rfl ((if0 _ _).trans (feq (mt (lw_eq _ _).mp hc41)).1) ?_
            show Steps p.tables e below (T48.setTop (mkF m 44 #[.val (.ref r0), .val (.long q1), .second, .val (.int (1023 : Int32)), .val (.int (Int32.ofNat (own_at_ q1 t)))] [])) _
            refine XS.iload X48.here hx rfl (hb hby d7_44) rfl ?_
            show Steps p.tables e below (T48.setTop (mkF m 46 #[.val (.ref r0), .val (.long q1), .second, .val (.int (1023 : Int32)), .val (.int (Int32.ofNat (own_at_ q1 t)))] [(.int (Int32.ofNat (own_at_ q1 t)))])) _
            refine XS.iconst X48.here hx rfl (hb hby d7_46) ?_
            show Steps p.tables e below (T48.setTop (mkF m 47 #[.val (.ref r0), .val (.long q1), .second, .val (.int (1023 : Int32)), .val (.int (Int32.ofNat (own_at_ q1 t)))] [(.int (1 : Int32)), (.int (Int32.ofNat (own_at_ q1 t)))])) _
            refine XS.iadd X48.here hx rfl (hb hby d7_47) rfl ?_
            show Steps p.tables e below (T48.setTop (mkF m 48 #[.val (.ref r0), .val (.long q1), .second, .val (.int (1023 : Int32)), .val (.int (Int32.ofNat (own_at_ q1 t)))] [(.int ((Int32.ofNat (own_at_ q1 t)) + (1 : Int32)))])) _
            refine XS.iloadN X48.here hx rfl (hb hby d7_48) rfl ?_
            show Steps p.tables e below (T48.setTop (mkF m 49 #[.val (.ref r0), .val (.long q1), .second, .val (.int (1023 : Int32)), .val (.int (Int32.ofNat (own_at_ q1 t)))] [(.int (1023 : Int32)), (.int ((Int32.ofNat (own_at_ q1 t)) + (1 : Int32)))])) _
            refine XS.iand X48.here hx rfl (hb hby d7_49) rfl ?_
            show Steps p.tables e below (T48.setTop (mkF m 50 #[.val (.ref r0), .val (.long q1), .second, .val (.int (1023 : Int32)), .val (.int (Int32.ofNat (own_at_ q1 t)))] [(.int (((Int32.ofNat (own_at_ q1 t)) + (1 : Int32)) &&& (1023 : Int32)))])) _
            refine XS.istore X48.here hx rfl (hb hby d7_50) rfl (l' := #[.val (.ref r0), .val (.long q1), .second, .val (.int (1023 : Int32)), .val (.int (((Int32.ofNat (own_at_ q1 t)) + (1 : Int32)) &&& (1023 : Int32)))]) rfl ?_
            show Steps p.tables e below (T48.setTop (mkF m 52 #[.val (.ref r0), .val (.long q1), .second, .val (.int (1023 : Int32)), .val (.int (((Int32.ofNat (own_at_ q1 t)) + (1 : Int32)) &&& (1023 : Int32)))] [])) _
            refine XS.goto X48.here hx rfl (pc0 := 52) (pc' := 24) rfl (hb hby d7_52) (by decide) (by decide) ?_
            show Steps p.tables e below (T48.setTop (mkF m 24 #[.val (.ref r0), .val (.long q1), .second, .val (.int (1023 : Int32)), .val (.int (((Int32.ofNat (own_at_ q1 t)) + (1 : Int32)) &&& (1023 : Int32)))] [])) _
            exact k_
          have q := ih (t + 1) (by omega) (own_upto hbef ⟨hc32, hc41⟩)
          rw [← own_wrap] at q
          exact q
  have q0 := LOOP tE 0 (by omega) (fun t' ht' => absurd ht' (Nat.not_lt_zero _))
  rw [← own_hx_eq] at q0
  exact q0
theorem own_cnt {g : Nat → Int32} {cb : Nat} {j : Nat} (hg : ∀ j, j < 1024 → 0 ≤ (g j).toInt ∧ (g j).toInt ≤ cb) (hcb : cb ≤ 2) (hj : j < 1024) : ¬ g j = (2147483647 : Int32) ∧ ∀ i, i < 1024 → 0 ≤ (own_updI g j (g j + (1 : Int32)) i).toInt ∧ (own_updI g j (g j + (1 : Int32)) i).toInt ≤ cb + 1 := by
  have a := hg j hj
  have z : (2147483647 : Int32).toInt = 2147483647 := by decide
  refine ⟨fun e => by rw [e, z] at a; omega, fun i hi => ?_⟩
  unfold own_updI
  by_cases e : i = j
  · rw [if_pos e]
    have s := c_iadd (g j) 1
    have o : (1 : Int32).toInt = 1 := by decide
    have r := rng32 (g j + 1)
    rw [o] at s
    omega
  · rw [if_neg e]
    have := hg i hi
    omega
theorem own_room {n : Nat} (hn : n ≤ 3) : ¬ ((1024 : Int32).toInt64 * (5 : Int64)) < ((Int32.ofNat n).toInt64 * (8 : Int64)) := by
  intro q
  have q' := Int64.lt_iff_toInt_lt.mp q
  have a := c_lmul (1024 : Int32).toInt64 5
  have b := c_lmul (Int32.ofNat n).toInt64 8
  have e1 : (1024 : Int32).toInt64.toInt = 1024 := by decide
  have e2 : (5 : Int64).toInt = 5 := by decide
  have e3 : (8 : Int64).toInt = 8 := by decide
  have e4 := c_i2l (Int32.ofNat n)
  rw [own_toInt (by omega)] at e4
  rw [e1, e2] at a
  rw [e4, e3] at b
  have r1 := rng64 ((1024 : Int32).toInt64 * 5)
  have r2 := rng64 ((Int32.ofNat n).toInt64 * 8)
  omega
theorem d6_0 : decode prog_54_method_5_code 0 = .ok (.aload_n 0, 1) := by decide +kernel
theorem d6_1 : decode prog_54_method_5_code 1 = .ok (.getfield 13, 3) := by decide +kernel
theorem d6_4 : decode prog_54_method_5_code 4 = .ok (.lload_n 1, 1) := by decide +kernel
theorem d6_5 : decode prog_54_method_5_code 5 = .ok (.invokestatic 23, 3) := by decide +kernel
theorem d6_8 : decode prog_54_method_5_code 8 = .ok (.istore_n 3, 1) := by decide +kernel
theorem d6_9 : decode prog_54_method_5_code 9 = .ok (.aload_n 0, 1) := by decide +kernel
theorem d6_10 : decode prog_54_method_5_code 10 = .ok (.getfield 13, 3) := by decide +kernel
theorem d6_13 : decode prog_54_method_5_code 13 = .ok (.iload_n 3, 1) := by decide +kernel
theorem d6_14 : decode prog_54_method_5_code 14 = .ok (.laload, 1) := by decide +kernel
theorem d6_15 : decode prog_54_method_5_code 15 = .ok (.ldc2_w 27, 3) := by decide +kernel
theorem d6_18 : decode prog_54_method_5_code 18 = .ok (.lcmp, 1) := by decide +kernel
theorem d6_19 : decode prog_54_method_5_code 19 = .ok (.ifCond .ne 20, 3) := by decide +kernel
theorem d6_22 : decode prog_54_method_5_code 22 = .ok (.aload_n 0, 1) := by decide +kernel
theorem d6_23 : decode prog_54_method_5_code 23 = .ok (.getfield 13, 3) := by decide +kernel
theorem d6_26 : decode prog_54_method_5_code 26 = .ok (.iload_n 3, 1) := by decide +kernel
theorem d6_27 : decode prog_54_method_5_code 27 = .ok (.lload_n 1, 1) := by decide +kernel
theorem d6_28 : decode prog_54_method_5_code 28 = .ok (.lastore, 1) := by decide +kernel
theorem d6_29 : decode prog_54_method_5_code 29 = .ok (.aload_n 0, 1) := by decide +kernel
theorem d6_30 : decode prog_54_method_5_code 30 = .ok (.dup, 1) := by decide +kernel
theorem d6_31 : decode prog_54_method_5_code 31 = .ok (.getfield 29, 3) := by decide +kernel
theorem d6_34 : decode prog_54_method_5_code 34 = .ok (.iconst 1, 1) := by decide +kernel
theorem d6_35 : decode prog_54_method_5_code 35 = .ok (.iadd, 1) := by decide +kernel
theorem d6_36 : decode prog_54_method_5_code 36 = .ok (.putfield 29, 3) := by decide +kernel
theorem d6_39 : decode prog_54_method_5_code 39 = .ok (.aload_n 0, 1) := by decide +kernel
theorem d6_40 : decode prog_54_method_5_code 40 = .ok (.getfield 17, 3) := by decide +kernel
theorem d6_43 : decode prog_54_method_5_code 43 = .ok (.iload_n 3, 1) := by decide +kernel
theorem d6_44 : decode prog_54_method_5_code 44 = .ok (.iaload, 1) := by decide +kernel
theorem d6_45 : decode prog_54_method_5_code 45 = .ok (.ldc 33, 2) := by decide +kernel
theorem d6_47 : decode prog_54_method_5_code 47 = .ok (.if_icmp .ne 24, 3) := by decide +kernel
theorem d6_50 : decode prog_54_method_5_code 50 = .ok (.new 34, 3) := by decide +kernel
theorem d6_53 : decode prog_54_method_5_code 53 = .ok (.dup, 1) := by decide +kernel
theorem d6_54 : decode prog_54_method_5_code 54 = .ok (.lload_n 1, 1) := by decide +kernel
theorem d6_55 : decode prog_54_method_5_code 55 = .ok (.invokestatic 36, 3) := by decide +kernel
theorem d6_58 : decode prog_54_method_5_code 58 = .ok (.lload_n 1, 1) := by decide +kernel
theorem d6_59 : decode prog_54_method_5_code 59 = .ok (.invokestatic 40, 3) := by decide +kernel
theorem d6_67 : decode prog_54_method_5_code 67 = .ok (.invokespecial 47, 3) := by decide +kernel
theorem d6_70 : decode prog_54_method_5_code 70 = .ok (.athrow, 1) := by decide +kernel
theorem d6_71 : decode prog_54_method_5_code 71 = .ok (.aload_n 0, 1) := by decide +kernel
theorem d6_72 : decode prog_54_method_5_code 72 = .ok (.getfield 17, 3) := by decide +kernel
theorem d6_75 : decode prog_54_method_5_code 75 = .ok (.iload_n 3, 1) := by decide +kernel
theorem d6_76 : decode prog_54_method_5_code 76 = .ok (.dup2, 1) := by decide +kernel
theorem d6_77 : decode prog_54_method_5_code 77 = .ok (.iaload, 1) := by decide +kernel
theorem d6_78 : decode prog_54_method_5_code 78 = .ok (.iconst 1, 1) := by decide +kernel
theorem d6_79 : decode prog_54_method_5_code 79 = .ok (.iadd, 1) := by decide +kernel
theorem d6_80 : decode prog_54_method_5_code 80 = .ok (.iastore, 1) := by decide +kernel
theorem d6_81 : decode prog_54_method_5_code 81 = .ok (.aload_n 0, 1) := by decide +kernel
theorem d6_82 : decode prog_54_method_5_code 82 = .ok (.getfield 29, 3) := by decide +kernel
theorem d6_85 : decode prog_54_method_5_code 85 = .ok (.i2l, 1) := by decide +kernel
theorem d6_86 : decode prog_54_method_5_code 86 = .ok (.ldc2_w 50, 3) := by decide +kernel
theorem d6_89 : decode prog_54_method_5_code 89 = .ok (.lmul, 1) := by decide +kernel
theorem d6_90 : decode prog_54_method_5_code 90 = .ok (.aload_n 0, 1) := by decide +kernel
theorem d6_91 : decode prog_54_method_5_code 91 = .ok (.getfield 13, 3) := by decide +kernel
theorem d6_94 : decode prog_54_method_5_code 94 = .ok (.arraylength, 1) := by decide +kernel
theorem d6_95 : decode prog_54_method_5_code 95 = .ok (.i2l, 1) := by decide +kernel
theorem d6_96 : decode prog_54_method_5_code 96 = .ok (.ldc2_w 52, 3) := by decide +kernel
theorem d6_99 : decode prog_54_method_5_code 99 = .ok (.lmul, 1) := by decide +kernel
theorem d6_100 : decode prog_54_method_5_code 100 = .ok (.lcmp, 1) := by decide +kernel
theorem d6_101 : decode prog_54_method_5_code 101 = .ok (.ifCond .le 7, 3) := by decide +kernel
theorem d6_104 : decode prog_54_method_5_code 104 = .ok (.aload_n 0, 1) := by decide +kernel
theorem d6_105 : decode prog_54_method_5_code 105 = .ok (.invokevirtual 54, 3) := by decide +kernel
theorem d6_108 : decode prog_54_method_5_code 108 = .ok (.return_, 1) := by decide +kernel
theorem pn_6 : plainName "com/example/prudent_annotator/prudentannotator/profile/PairCounts" = true := by first | (simp [plainName, overriddenIn]; done) | decide +kernel
theorem ef_rm6 (m : MethodId) (x0 : Addr) (x1 : Int64) : entryFrame m #[(.ref x0), (.long x1)] 4 = mkF m 0 #[.val (.ref x0), .val (.long x1), .second, .unset] [] := by first | (simp [entryFrame, mkF, argsToLocals, Value.category]; done) | rfl
def Q6 (Z : State) (r0 : Addr) (q1 : Int64) (bk : Addr) (bc : Addr) (f : Nat → Int64) (n : Nat) (g : Nat → Int32) (cb : Nat) (h0 : Heap) (n0 : Nat) (v : Option Value) (h : Heap) (L : List Loc) : Prop := v = none ∧ Fr n0 L ∧ Keep h0 h [r0, bk, bc] ∧ ∃ (f' : Nat → Int64) (n' : Nat) (g' : Nat → Int32), Fld Z h r0 "com/example/prudent_annotator/prudentannotator/profile/PairCounts" "keys" "[J" (.ref bk) ∧ Fld Z h r0 "com/example/prudent_annotator/prudentannotator/profile/PairCounts" "counts" "[I" (.ref bc) ∧ Fld Z h r0 "com/example/prudent_annotator/prudentannotator/profile/PairCounts" "size" "I" (.int (Int32.ofNat n')) ∧ own_LA Z h bk f' ∧ own_IA Z h bc g' ∧ own_ok f' n' ∧ (∀ x, x ≠ -1 → (own_mem f' x ↔ own_mem f x ∨ x = q1)) ∧ (own_mem f q1 → n' = n) ∧ (¬ own_mem f q1 → n' = n + 1) ∧ (∀ j, j < 1024 → 0 ≤ (g' j).toInt ∧ (g' j).toInt ≤ cb + 1)
set_option maxRecDepth 65536 in
set_option maxHeartbeats 40000000 in
theorem rm6 (l : Launch) (Z : State) (a0 : Array Value) (hw : ∀ d ∈ tables_1, d.before a0 Z = true) (ws : List Jvm.Cond) (r0 : Addr) (q1 : Int64) (bk : Addr) (bc : Addr) (f : Nat → Int64) (n : Nat) (g : Nat → Int32) (cb : Nat) (h0 : Heap) (n0 : Nat) (Z0 : n0 ≤ h0.size) (F1 : Fld Z h0 r0 "com/example/prudent_annotator/prudentannotator/profile/PairCounts" "keys" "[J" (.ref bk)) (F2 : Fld Z h0 r0 "com/example/prudent_annotator/prudentannotator/profile/PairCounts" "counts" "[I" (.ref bc)) (F3 : Fld Z h0 r0 "com/example/prudent_annotator/prudentannotator/profile/PairCounts" "size" "I" (.int (Int32.ofNat n))) (V1 : own_LA Z h0 bk f) (V2 : own_IA Z h0 bc g) (E1 : Exa Z h0 r0 "com/example/prudent_annotator/prudentannotator/profile/PairCounts") (g_r0 : n0 ≤ r0) (g_bk : n0 ≤ bk) (g_bc : n0 ≤ bc) (ne_bk_bc : bk ≠ bc) (ne_r0_bk : r0 ≠ bk) (ne_r0_bc : r0 ≠ bc) (hok : own_ok f n) (hn : n ≤ 2) (hk : q1 ≠ -1) (hcb : cb ≤ 2) (hg : ∀ j, j < 1024 → 0 ≤ (g j).toInt ∧ (g j).toInt ≤ cb) :
    MetFree l (⟨"com/example/prudent_annotator/prudentannotator/profile/PairCounts", "increment", "(J)V"⟩ : MethodName) (head1 (Jvm.Cond.code (⟨"com/example/prudent_annotator/prudentannotator/profile/PairCounts", "increment", "(J)V"⟩ : MethodName) prog_54_method_5_code 4 none :: ws) ({ frames := 2, cells := 0, slots := 0, locals := 32 } : Room)) (fun a U => a = #[(.ref r0), (.long q1)] ∧ Z.Warmed39 U.vm ∧ U.heap = h0) (fun _ _ _ _ _ => True) (fun _ U o U' => ∃ v L, o = .returned v ∧ Q6 Z r0 q1 bk bc f n g cb h0 n0 v U'.heap L ∧ FrameEnd U o U' L ({ frames := 2, cells := 0, slots := 0, locals := 32 } : Room).cells ({ frames := 2, cells := 0, slots := 0, locals := 32 } : Room).slots) := by
  refine MetFree.of_bodySF (plainFor_of_name pn_6) hisR ?_
  intro p e s m args below meth c s₁ Bd hml0 hP hK
  obtain ⟨rfl, hZ, hh⟩ := hP
  have hx := Bd.exec
  have hby := Bd.bytes
  have hml : c.maxLocals = 4 := hml0
  have hown : s.vm.findClass "com/example/prudent_annotator/prudentannotator/profile/PairCounts" = some m.cls := findClass_of_methodNamed Bd.named
  have hnm := (name_of_methodNamed Bd.named Bd.method).1
  have X0 : Stand p l e ({ frames := 2, cells := 0, slots := 0, locals := 32 } : Room) s m #[(.ref r0), (.long q1)] below meth c s₁ [] 0 0 := Stand.of_body Bd
  have e0 : s₁.heap = h0 := by rw [← hh, Bd.state]; rfl
  have N0 := Fr.nil n0
  refine own_open fun G hG => ?_
  refine own_go (B := s₁.setTop (mkF m 0 #[.val (.ref r0), .val (.long q1), .second, .unset] [])) (fun t_ k_ => castTop (ef_rm6 m r0 q1) k_) ?_
  have K0 : Keep h0 h0 [r0, bk, bc] := Keep.refl h0 _
  refine own_go (B := s₁.setTop (mkF m 1 #[.val (.ref r0), .val (.long q1), .second, .unset] [(.ref r0)])) (fun t_ k_ => ?_) ?_
  · show Steps p.tables e below (s₁.setTop (mkF m 0 #[.val (.ref r0), .val (.long q1), .second, .unset] [])) _
    refine XS.aloadN X0.here hx rfl (hb hby d6_0) rfl rfl ?_
    show Steps p.tables e below (s₁.setTop (mkF m 1 #[.val (.ref r0), .val (.long q1), .second, .unset] [(.ref r0)])) _
    exact k_
  obtain ⟨T55, X55, e55, st55⟩ := getF X0 hx hZ hown (host := "") (Or.inl (hw _ (List.mem_of_getElem? (i := 23) rfl))) Via.refl e0 F1 (g := (mkF m 1 #[.val (.ref r0), .val (.long q1), .second, .unset] [(.ref r0)])) rfl rfl (hb hby d6_1)
  refine own_go (B := T55.setTop (mkF m 4 #[.val (.ref r0), .val (.long q1), .second, .unset] [(.ref bk)])) (fun t_ k_ => st55 _ k_) ?_
  refine own_go (B := T55.setTop (mkF m 5 #[.val (.ref r0), .val (.long q1), .second, .unset] [(.long q1), (.ref bk)])) (fun t_ k_ => ?_) ?_
  · show Steps p.tables e below (T55.setTop (mkF m 4 #[.val (.ref r0), .val (.long q1), .second, .unset] [(.ref bk)])) _
    refine XS.lloadN X55.here hx rfl (hb hby d6_4) rfl ?_
    show Steps p.tables e below (T55.setTop (mkF m 5 #[.val (.ref r0), .val (.long q1), .second, .unset] [(.long q1), (.ref bk)])) _
    exact k_
  obtain ⟨vv56, _, ⟨T56, L56, k56, n56⟩, -, X56, ⟨Lc56, hQ56, l56, y56, z56⟩, st56⟩ := Jvm.LawKit.callS X55 hx (y := (⟨"com/example/prudent_annotator/prudentannotator/profile/PairCounts", "slot", "([JJ)I"⟩ : MethodName)) hown (mvT hZ (hw _ (List.mem_of_getElem? (i := 33) rfl))) (mvT hZ (hw _ (List.mem_of_getElem? (i := 34) rfl))) (mvT hZ (hw _ (List.mem_of_getElem? (i := 7) rfl))) (mvT hZ (hw _ (List.mem_of_getElem? (i := 35) rfl))) (by decide) (backOf (W := 0) (rm7 l Z a0 hw [] bk q1 f h0 n0 Z0 V1 (by rw [hok.2]; omega)) hZ (hw _ (List.mem_of_getElem? (i := 35) rfl)) (hw _ (List.mem_of_getElem? (i := 7) rfl)) (by decide) (by decide)) (g := (mkF m 5 #[.val (.ref r0), .val (.long q1), .second, .unset] [(.long q1), (.ref bk)])) rfl (by rw [hml]; rfl) (argsL := [(.ref bk), (.long q1)]) (rest := []) (lenOf pd__28__5b_JJ_29_I rfl) rfl (by show 2 * 0 + _ ≤ _; exact Nat.le_of_eq rfl) (hb hby d6_5) (fun _ _ => ⟨rfl, e55, (by decide : 0 + 0 ≤ _), (by decide : 0 + 0 ≤ _)⟩)
  dsimp only [Pt.U, Pt.locs, Pt.cells, Pt.slots] at X56 l56 y56 z56 st56 hQ56
  subst l56 y56 z56
  obtain ⟨j56, rfl, N56q, e56q, hf56⟩ := hQ56
  have N56 := Fr.app N0 N56q
  have hj56 := own_found_lt hf56
  refine own_go (B := T56.setTop (mkF m 8 #[.val (.ref r0), .val (.long q1), .second, .unset] [(.int (Int32.ofNat j56))])) (fun t_ k_ => st56 _ k_) ?_
  refine own_go (B := T56.setTop (mkF m 10 #[.val (.ref r0), .val (.long q1), .second, .val (.int (Int32.ofNat j56))] [(.ref r0)])) (fun t_ k_ => ?_) ?_
  · show Steps p.tables e below (T56.setTop (mkF m 8 #[.val (.ref r0), .val (.long q1), .second, .unset] [(.int (Int32.ofNat j56))])) _
    refine XS.istoreN X56.here hx rfl (hb hby d6_8) rfl (l' := #[.val (.ref r0), .val (.long q1), .second, .val (.int (Int32.ofNat j56))]) rfl ?_
    show Steps p.tables e below (T56.setTop (mkF m 9 #[.val (.ref r0), .val (.long q1), .second, .val (.int (Int32.ofNat j56))] [])) _
    refine XS.aloadN X56.here hx rfl (hb hby d6_9) rfl rfl ?_
    show Steps p.tables e below (T56.setTop (mkF m 10 #[.val (.ref r0), .val (.long q1), .second, .val (.int (Int32.ofNat j56))] [(.ref r0)])) _
    exact k_
  obtain ⟨T57, X57, e57, st57⟩ := getF X56 hx hZ hown (host := "") (Or.inl (hw _ (List.mem_of_getElem? (i := 23) rfl))) Via.refl e56q F1 (g := (mkF m 10 #[.val (.ref r0), .val (.long q1), .second, .val (.int (Int32.ofNat j56))] [(.ref r0)])) rfl rfl (hb hby d6_10)
  refine own_go (B := T57.setTop (mkF m 13 #[.val (.ref r0), .val (.long q1), .second, .val (.int (Int32.ofNat j56))] [(.ref bk)])) (fun t_ k_ => st57 _ k_) ?_
  refine own_go (B := T57.setTop (mkF m 14 #[.val (.ref r0), .val (.long q1), .second, .val (.int (Int32.ofNat j56))] [(.int (Int32.ofNat j56)), (.ref bk)])) (fun t_ k_ => ?_) ?_
  · show Steps p.tables e below (T57.setTop (mkF m 13 #[.val (.ref r0), .val (.long q1), .second, .val (.int (Int32.ofNat j56))] [(.ref bk)])) _
    refine XS.iloadN X57.here hx rfl (hb hby d6_13) rfl ?_
    show Steps p.tables e below (T57.setTop (mkF m 14 #[.val (.ref r0), .val (.long q1), .second, .val (.int (Int32.ofNat j56))] [(.int (Int32.ofNat j56)), (.ref bk)])) _
    exact k_
  obtain ⟨cl58, Ar58, S58, Hh58⟩ := id V1
  have hat58 : cl58.slots[((Int32.ofNat j56)).toNatClampNeg]? = some (.long (f j56)) := by rw [own_clamp (Nat.lt_trans hj56 (by decide))]; exact Hh58 _ hj56
  refine own_go (B := T57.setTop (mkF m 15 #[.val (.ref r0), .val (.long q1), .second, .val (.int (Int32.ofNat j56))] [(.long (f j56))])) (fun t_ k_ => X57.laload hx (j := (Int32.ofNat j56)) (v := (.long (f j56))) (by rw [e57]; exact Ar58.1) (State.isArrayOf_alike hZ.alike Ar58.2.1) Ar58.2.2 (own_inb S58 hj56) hat58 (g := (mkF m 14 #[.val (.ref r0), .val (.long q1), .second, .val (.int (Int32.ofNat j56))] [(.int (Int32.ofNat j56)), (.ref bk)])) rfl rfl (hb hby d6_14) _ k_) ?_
  refine own_go (B := T57.setTop (mkF m 19 #[.val (.ref r0), .val (.long q1), .second, .val (.int (Int32.ofNat j56))] [(.int (lcmpW (f j56) (-1 : Int64)))])) (fun t_ k_ => ?_) ?_
  · show Steps p.tables e below (T57.setTop (mkF m 15 #[.val (.ref r0), .val (.long q1), .second, .val (.int (Int32.ofNat j56))] [(.long (f j56))])) _
    refine X57.ldc2Long hx hown (mvT hZ (hw _ (List.mem_of_getElem? (i := 18) rfl))) (g := (mkF m 15 #[.val (.ref r0), .val (.long q1), .second, .val (.int (Int32.ofNat j56))] [(.long (f j56))])) rfl (hb hby d6_15) _ ?_
    show Steps p.tables e below (T57.setTop (mkF m 18 #[.val (.ref r0), .val (.long q1), .second, .val (.int (Int32.ofNat j56))] [(.long (-1 : Int64)), (.long (f j56))])) _
    refine XS.lcmp X57.here hx rfl (hb hby d6_18) rfl ?_
    show Steps p.tables e below (T57.setTop (mkF m 19 #[.val (.ref r0), .val (.long q1), .second, .val (.int (Int32.ofNat j56))] [(.int (lcmpW (f j56) (-1 : Int64)))])) _
    exact k_
  by_cases hc19 : (f j56) = (-1 : Int64)
  · refine own_go (B := T57.setTop (mkF m 23 #[.val (.ref r0), .val (.long q1), .second, .val (.int (Int32.ofNat j56))] [(.ref r0)])) (fun t_ k_ => ?_) ?_
    · show Steps p.tables e below (T57.setTop (mkF m 19 #[.val (.ref r0), .val (.long q1), .second, .val (.int (Int32.ofNat j56))] [(.int (lcmpW (f j56) (-1 : Int64)))])) _
      refine XS.ifNo X57.here hx rfl (hb hby d6_19) rfl ((if0 _ _).trans (teq ((lw_eq _ _).mpr hc19)).2) ?_
      show Steps p.tables e below (T57.setTop (mkF m 22 #[.val (.ref r0), .val (.long q1), .second, .val (.int (Int32.ofNat j56))] [])) _
      refine XS.aloadN X57.here hx rfl (hb hby d6_22) rfl rfl ?_
      show Steps p.tables e below (T57.setTop (mkF m 23 #[.val (.ref r0), .val (.long q1), .second, .val (.int (Int32.ofNat j56))] [(.ref r0)])) _
      exact k_
    obtain ⟨T59, X59, e59, st59⟩ := getF X57 hx hZ hown (host := "") (Or.inl (hw _ (List.mem_of_getElem? (i := 23) rfl))) Via.refl e57 F1 (g := (mkF m 23 #[.val (.ref r0), .val (.long q1), .second, .val (.int (Int32.ofNat j56))] [(.ref r0)])) rfl rfl (hb hby d6_23)
    refine own_go (B := T59.setTop (mkF m 26 #[.val (.ref r0), .val (.long q1), .second, .val (.int (Int32.ofNat j56))] [(.ref bk)])) (fun t_ k_ => st59 _ k_) ?_
    refine own_go (B := T59.setTop (mkF m 28 #[.val (.ref r0), .val (.long q1), .second, .val (.int (Int32.ofNat j56))] [(.long q1), (.int (Int32.ofNat j56)), (.ref bk)])) (fun t_ k_ => ?_) ?_
    · show Steps p.tables e below (T59.setTop (mkF m 26 #[.val (.ref r0), .val (.long q1), .second, .val (.int (Int32.ofNat j56))] [(.ref bk)])) _
      refine XS.iloadN X59.here hx rfl (hb hby d6_26) rfl ?_
      show Steps p.tables e below (T59.setTop (mkF m 27 #[.val (.ref r0), .val (.long q1), .second, .val (.int (Int32.ofNat j56))] [(.int (Int32.ofNat j56)), (.ref bk)])) _
      refine XS.lloadN X59.here hx rfl (hb hby d6_27) rfl ?_
      show Steps p.tables e below (T59.setTop (mkF m 28 #[.val (.ref r0), .val (.long q1), .second, .val (.int (Int32.ofNat j56))] [(.long q1), (.int (Int32.ofNat j56)), (.ref bk)])) _
      exact k_
    obtain ⟨cl60, Ar60, S60, Hh60⟩ := id V1
    obtain ⟨T60, h60, X60, e60, W60, st60⟩ := stJ X59 hx hZ e59 Ar60 (j := (Int32.ofNat j56)) (own_inb S60 hj56) (g := (mkF m 28 #[.val (.ref r0), .val (.long q1), .second, .val (.int (Int32.ofNat j56))] [(.long q1), (.int (Int32.ofNat j56)), (.ref bk)])) rfl rfl (hb hby d6_28)
    rw [own_clamp (Nat.lt_trans hj56 (by decide))] at W60
    have f61 : Fld Z h60 r0 "com/example/prudent_annotator/prudentannotator/profile/PairCounts" "keys" "[J" (.ref bk) := F1.other W60 (Or.inl ne_r0_bk)
    have f62 : Fld Z h60 r0 "com/example/prudent_annotator/prudentannotator/profile/PairCounts" "counts" "[I" (.ref bc) := F2.other W60 (Or.inl ne_r0_bk)
    have f63 : Fld Z h60 r0 "com/example/prudent_annotator/prudentannotator/profile/PairCounts" "size" "I" (.int (Int32.ofNat n)) := F3.other W60 (Or.inl ne_r0_bk)
    have f64 : own_LA Z h60 bk (own_upd f j56 q1) := V1.set W60 hj56
    have f65 : own_IA Z h60 bc g := V2.other W60 (Ne.symm ne_bk_bc)
    have f66 : Exa Z h60 r0 "com/example/prudent_annotator/prudentannotator/profile/PairCounts" := E1.wr W60
    have f67 : Keep h0 h60 [r0, bk, bc] := K0.wr W60 (Or.inl (List.mem_of_getElem? (i := 1) rfl))
    have Z60 : n0 ≤ h60.size := Nat.le_trans Z0 (Keep.of_wr W60).1
    have N60 := Fr.snoc X60 N56 g_bk
    refine own_go (B := T60.setTop (mkF m 29 #[.val (.ref r0), .val (.long q1), .second, .val (.int (Int32.ofNat j56))] [])) (fun t_ k_ => st60 _ k_) ?_
    refine own_go (B := T60.setTop (mkF m 31 #[.val (.ref r0), .val (.long q1), .second, .val (.int (Int32.ofNat j56))] [(.ref r0), (.ref r0)])) (fun t_ k_ => ?_) ?_
    · show Steps p.tables e below (T60.setTop (mkF m 29 #[.val (.ref r0), .val (.long q1), .second, .val (.int (Int32.ofNat j56))] [])) _
      refine XS.aloadN X60.here hx rfl (hb hby d6_29) rfl rfl ?_
      show Steps p.tables e below (T60.setTop (mkF m 30 #[.val (.ref r0), .val (.long q1), .second, .val (.int (Int32.ofNat j56))] [(.ref r0)])) _
      refine XS.dup X60.here hx rfl (hb hby d6_30) rfl rfl ?_
      show Steps p.tables e below (T60.setTop (mkF m 31 #[.val (.ref r0), .val (.long q1), .second, .val (.int (Int32.ofNat j56))] [(.ref r0), (.ref r0)])) _
      exact k_
    obtain ⟨T68, X68, e68, st68⟩ := getF X60 hx hZ hown (host := "") (Or.inl (hw _ (List.mem_of_getElem? (i := 42) rfl))) Via.refl e60 f63 (g := (mkF m 31 #[.val (.ref r0), .val (.long q1), .second, .val (.int (Int32.ofNat j56))] [(.ref r0), (.ref r0)])) rfl rfl (hb hby d6_31)
    refine own_go (B := T68.setTop (mkF m 34 #[.val (.ref r0), .val (.long q1), .second, .val (.int (Int32.ofNat j56))] [(.int (Int32.ofNat n)), (.ref r0)])) (fun t_ k_ => st68 _ k_) ?_
    refine own_go (B := T68.setTop (mkF m 36 #[.val (.ref r0), .val (.long q1), .second, .val (.int (Int32.ofNat j56))] [(.int ((Int32.ofNat n) + (1 : Int32))), (.ref r0)])) (fun t_ k_ => ?_) ?_
    · show Steps p.tables e below (T68.setTop (mkF m 34 #[.val (.ref r0), .val (.long q1), .second, .val (.int (Int32.ofNat j56))] [(.int (Int32.ofNat n)), (.ref r0)])) _
      refine XS.iconst X68.here hx rfl (hb hby d6_34) ?_
      show Steps p.tables e below (T68.setTop (mkF m 35 #[.val (.ref r0), .val (.long q1), .second, .val (.int (Int32.ofNat j56))] [(.int (1 : Int32)), (.int (Int32.ofNat n)), (.ref r0)])) _
      refine XS.iadd X68.here hx rfl (hb hby d6_35) rfl ?_
      show Steps p.tables e below (T68.setTop (mkF m 36 #[.val (.ref r0), .val (.long q1), .second, .val (.int (Int32.ofNat j56))] [(.int ((Int32.ofNat n) + (1 : Int32))), (.ref r0)])) _
      exact k_
    obtain ⟨T69, h69, X69, e69, W69, st69⟩ := putF X68 hx hZ hown (host := "") (Or.inl (hw _ (List.mem_of_getElem? (i := 42) rfl))) Via.refl e68 f63 f66 (Or.inl (hw _ (List.mem_of_getElem? (i := 43) rfl))) (hw _ (List.mem_of_getElem? (i := 6) rfl)) (ty := .int) (by decide) rfl rfl (g := (mkF m 36 #[.val (.ref r0), .val (.long q1), .second, .val (.int (Int32.ofNat j56))] [(.int ((Int32.ofNat n) + (1 : Int32))), (.ref r0)])) rfl rfl (hb hby d6_36)
    have f70 : Fld Z h69 r0 "com/example/prudent_annotator/prudentannotator/profile/PairCounts" "keys" "[J" (.ref bk) := f61.other W69 (Or.inr (slot_ne (Or.inl (hw _ (List.mem_of_getElem? (i := 24) rfl))) (Or.inl (hw _ (List.mem_of_getElem? (i := 43) rfl))) (by decide) (t := (.array .long)) (t' := .int) (by decide) (by decide)))
    have f71 : Fld Z h69 r0 "com/example/prudent_annotator/prudentannotator/profile/PairCounts" "counts" "[I" (.ref bc) := f62.other W69 (Or.inr (slot_ne (Or.inl (hw _ (List.mem_of_getElem? (i := 27) rfl))) (Or.inl (hw _ (List.mem_of_getElem? (i := 43) rfl))) (by decide) (t := (.array .int)) (t' := .int) (by decide) (by decide)))
    have f72 : Fld Z h69 r0 "com/example/prudent_annotator/prudentannotator/profile/PairCounts" "size" "I" (.int ((Int32.ofNat n) + (1 : Int32))) := f63.same W69
    have f73 : own_LA Z h69 bk (own_upd f j56 q1) := f64.other W69 (Ne.symm ne_r0_bk)
    have f74 : own_IA Z h69 bc g := f65.other W69 (Ne.symm ne_r0_bc)
    have f75 : Exa Z h69 r0 "com/example/prudent_annotator/prudentannotator/profile/PairCounts" := f66.wr W69
    have f76 : Keep h0 h69 [r0, bk, bc] := f67.wr W69 (Or.inl (List.mem_of_getElem? (i := 0) rfl))
    have Z69 : n0 ≤ h69.size := Nat.le_trans Z60 (Keep.of_wr W69).1
    have N69 := Fr.snoc X69 N60 g_r0
    refine own_go (B := T69.setTop (mkF m 39 #[.val (.ref r0), .val (.long q1), .second, .val (.int (Int32.ofNat j56))] [])) (fun t_ k_ => st69 _ k_) ?_
    have f77 : Fld Z h69 r0 "com/example/prudent_annotator/prudentannotator/profile/PairCounts" "size" "I" (.int (Int32.ofNat (n + 1))) := by rw [inc_ofNat]; exact f72
    refine own_go (B := T69.setTop (mkF m 40 #[.val (.ref r0), .val (.long q1), .second, .val (.int (Int32.ofNat j56))] [(.ref r0)])) (fun t_ k_ => ?_) ?_
    · show Steps p.tables e below (T69.setTop (mkF m 39 #[.val (.ref r0), .val (.long q1), .second, .val (.int (Int32.ofNat j56))] [])) _
      refine XS.aloadN X69.here hx rfl (hb hby d6_39) rfl rfl ?_
      show Steps p.tables e below (T69.setTop (mkF m 40 #[.val (.ref r0), .val (.long q1), .second, .val (.int (Int32.ofNat j56))] [(.ref r0)])) _
      exact k_
    obtain ⟨T78, X78, e78, st78⟩ := getF X69 hx hZ hown (host := "") (Or.inl (hw _ (List.mem_of_getElem? (i := 26) rfl))) Via.refl e69 f71 (g := (mkF m 40 #[.val (.ref r0), .val (.long q1), .second, .val (.int (Int32.ofNat j56))] [(.ref r0)])) rfl rfl (hb hby d6_40)
    refine own_go (B := T78.setTop (mkF m 43 #[.val (.ref r0), .val (.long q1), .second, .val (.int (Int32.ofNat j56))] [(.ref bc)])) (fun t_ k_ => st78 _ k_) ?_
    refine own_go (B := T78.setTop (mkF m 44 #[.val (.ref r0), .val (.long q1), .second, .val (.int (Int32.ofNat j56))] [(.int (Int32.ofNat j56)), (.ref bc)])) (fun t_ k_ => ?_) ?_
    · show Steps p.tables e below (T78.setTop (mkF m 43 #[.val (.ref r0), .val (.long q1), .second, .val (.int (Int32.ofNat j56))] [(.ref bc)])) _
      refine XS.iloadN X78.here hx rfl (hb hby d6_43) rfl ?_
      show Steps p.tables e below (T78.setTop (mkF m 44 #[.val (.ref r0), .val (.long q1), .second, .val (.int (Int32.ofNat j56))] [(.int (Int32.ofNat j56)), (.ref bc)])) _
      exact k_
    obtain ⟨cl79, Ar79, S79, Hh79⟩ := id f74
    have hat79 : cl79.slots[((Int32.ofNat j56)).toNatClampNeg]? = some (.int (g j56)) := by rw [own_clamp (Nat.lt_trans hj56 (by decide))]; exact Hh79 _ hj56
    refine own_go (B := T78.setTop (mkF m 45 #[.val (.ref r0), .val (.long q1), .second, .val (.int (Int32.ofNat j56))] [(.int (g j56))])) (fun t_ k_ => X78.iaload hx (j := (Int32.ofNat j56)) (v := (.int (g j56))) (by rw [e78]; exact Ar79.1) (State.isArrayOf_alike hZ.alike Ar79.2.1) Ar79.2.2 (own_inb S79 hj56) hat79 (g := (mkF m 44 #[.val (.ref r0), .val (.long q1), .second, .val (.int (Int32.ofNat j56))] [(.int (Int32.ofNat j56)), (.ref bc)])) rfl rfl (hb hby d6_44) _ k_) ?_
    refine own_go (B := T78.setTop (mkF m 72 #[.val (.ref r0), .val (.long q1), .second, .val (.int (Int32.ofNat j56))] [(.ref r0)])) (fun t_ k_ => ?_) ?_
    · show Steps p.tables e below (T78.setTop (mkF m 45 #[.val (.ref r0), .val (.long q1), .second, .val (.int (Int32.ofNat j56))] [(.int (g j56))])) _
      refine X78.ldcInt hx hown (mvT hZ (hw _ (List.mem_of_getElem? (i := 44) rfl))) (g := (mkF m 45 #[.val (.ref r0), .val (.long q1), .second, .val (.int (Int32.ofNat j56))] [(.int (g j56))])) rfl (hb hby d6_45) _ ?_
      show Steps p.tables e below (T78.setTop (mkF m 47 #[.val (.ref r0), .val (.long q1), .second, .val (.int (Int32.ofNat j56))] [(.int (2147483647 : Int32)), (.int (g j56))])) _
      refine XS.icmpYes X78.here hx rfl (pc0 := 47) (pc' := 71) rfl (hb hby d6_47) rfl (feq (own_cnt hg hcb hj56).1).2 (by decide) (by decide) ?_
      show Steps p.tables e below (T78.setTop (mkF m 71 #[.val (.ref r0), .val (.long q1), .second, .val (.int (Int32.ofNat j56))] [])) _
      refine XS.aloadN X78.here hx rfl (hb hby d6_71) rfl rfl ?_
      show Steps p.tables e below (T78.setTop (mkF m 72 #[.val (.ref r0), .val (.long q1), .second, .val (.int (Int32.ofNat j56))] [(.ref r0)])) _
      exact k_
    obtain ⟨T80, X80, e80, st80⟩ := getF X78 hx hZ hown (host := "") (Or.inl (hw _ (List.mem_of_getElem? (i := 26) rfl))) Via.refl e78 f71 (g := (mkF m 72 #[.val (.ref r0), .val (.long q1), .second, .val (.int (Int32.ofNat j56))] [(.ref r0)])) rfl rfl (hb hby d6_72)
    refine own_go (B := T80.setTop (mkF m 75 #[.val (.ref r0), .val (.long q1), .second, .val (.int (Int32.ofNat j56))] [(.ref bc)])) (fun t_ k_ => st80 _ k_) ?_
    refine own_go (B := T80.setTop (mkF m 77 #[.val (.ref r0), .val (.long q1), .second, .val (.int (Int32.ofNat j56))] [(.int (Int32.ofNat j56)), (.ref bc), (.int (Int32.ofNat j56)), (.ref bc)])) (fun t_ k_ => ?_) ?_
    · show Steps p.tables e below (T80.setTop (mkF m 75 #[.val (.ref r0), .val (.long q1), .second, .val (.int (Int32.ofNat j56))] [(.ref bc)])) _
      refine XS.iloadN X80.here hx rfl (hb hby d6_75) rfl ?_
      show Steps p.tables e below (T80.setTop (mkF m 76 #[.val (.ref r0), .val (.long q1), .second, .val (.int (Int32.ofNat j56))] [(.int (Int32.ofNat j56)), (.ref bc)])) _
      refine XT.dup2 X80.here hx rfl (hb hby d6_76) rfl rfl rfl ?_
      show Steps p.tables e below (T80.setTop (mkF m 77 #[.val (.ref r0), .val (.long q1), .second, .val (.int (Int32.ofNat j56))] [(.int (Int32.ofNat j56)), (.ref bc), (.int (Int32.ofNat j56)), (.ref bc)])) _
      exact k_
    obtain ⟨cl81, Ar81, S81, Hh81⟩ := id f74
    have hat81 : cl81.slots[((Int32.ofNat j56)).toNatClampNeg]? = some (.int (g j56)) := by rw [own_clamp (Nat.lt_trans hj56 (by decide))]; exact Hh81 _ hj56
    refine own_go (B := T80.setTop (mkF m 78 #[.val (.ref r0), .val (.long q1), .second, .val (.int (Int32.ofNat j56))] [(.int (g j56)), (.int (Int32.ofNat j56)), (.ref bc)])) (fun t_ k_ => X80.iaload hx (j := (Int32.ofNat j56)) (v := (.int (g j56))) (by rw [e80]; exact Ar81.1) (State.isArrayOf_alike hZ.alike Ar81.2.1) Ar81.2.2 (own_inb S81 hj56) hat81 (g := (mkF m 77 #[.val (.ref r0), .val (.long q1), .second, .val (.int (Int32.ofNat j56))] [(.int (Int32.ofNat j56)), (.ref bc), (.int (Int32.ofNat j56)), (.ref bc)])) rfl rfl (hb hby d6_77) _ k_) ?_
    refine own_go (B := T80.setTop (mkF m 80 #[.val (.ref r0), .val (.long q1), .second, .val (.int (Int32.ofNat j56))] [(.int ((g j56) + (1 : Int32))), (.int (Int32.ofNat j56)), (.ref bc)])) (fun t_ k_ => ?_) ?_
    · show Steps p.tables e below (T80.setTop (mkF m 78 #[.val (.ref r0), .val (.long q1), .second, .val (.int (Int32.ofNat j56))] [(.int (g j56)), (.int (Int32.ofNat j56)), (.ref bc)])) _
      refine XS.iconst X80.here hx rfl (hb hby d6_78) ?_
      show Steps p.tables e below (T80.setTop (mkF m 79 #[.val (.ref r0), .val (.long q1), .second, .val (.int (Int32.ofNat j56))] [(.int (1 : Int32)), (.int (g j56)), (.int (Int32.ofNat j56)), (.ref bc)])) _
      refine XS.iadd X80.here hx rfl (hb hby d6_79) rfl ?_
      show Steps p.tables e below (T80.setTop (mkF m 80 #[.val (.ref r0), .val (.long q1), .second, .val (.int (Int32.ofNat j56))] [(.int ((g j56) + (1 : Int32))), (.int (Int32.ofNat j56)), (.ref bc)])) _
      exact k_
    obtain ⟨cl82, Ar82, S82, Hh82⟩ := id f74
    obtain ⟨T82, h82, X82, e82, W82, st82⟩ := stI X80 hx hZ e80 Ar82 (j := (Int32.ofNat j56)) (own_inb S82 hj56) (g := (mkF m 80 #[.val (.ref r0), .val (.long q1), .second, .val (.int (Int32.ofNat j56))] [(.int ((g j56) + (1 : Int32))), (.int (Int32.ofNat j56)), (.ref bc)])) rfl rfl (hb hby d6_80)
    rw [own_clamp (Nat.lt_trans hj56 (by decide))] at W82
    have f83 : Fld Z h82 r0 "com/example/prudent_annotator/prudentannotator/profile/PairCounts" "keys" "[J" (.ref bk) := f70.other W82 (Or.inl ne_r0_bc)
    have f84 : Fld Z h82 r0 "com/example/prudent_annotator/prudentannotator/profile/PairCounts" "counts" "[I" (.ref bc) := f71.other W82 (Or.inl ne_r0_bc)
    have f85 : own_LA Z h82 bk (own_upd f j56 q1) := f73.other W82 ne_bk_bc
    have f86 : own_IA Z h82 bc (own_updI g j56 ((g j56) + (1 : Int32))) := f74.set W82 hj56
    have f87 : Exa Z h82 r0 "com/example/prudent_annotator/prudentannotator/profile/PairCounts" := f75.wr W82
    have f88 : Keep h0 h82 [r0, bk, bc] := f76.wr W82 (Or.inl (List.mem_of_getElem? (i := 2) rfl))
    have f89 : Fld Z h82 r0 "com/example/prudent_annotator/prudentannotator/profile/PairCounts" "size" "I" (.int (Int32.ofNat (n + 1))) := f77.other W82 (Or.inl ne_r0_bc)
    have Z82 : n0 ≤ h82.size := Nat.le_trans Z69 (Keep.of_wr W82).1
    have N82 := Fr.snoc X82 N69 g_bc
    refine own_go (B := T82.setTop (mkF m 81 #[.val (.ref r0), .val (.long q1), .second, .val (.int (Int32.ofNat j56))] [])) (fun t_ k_ => st82 _ k_) ?_
    refine own_go (B := T82.setTop (mkF m 82 #[.val (.ref r0), .val (.long q1), .second, .val (.int (Int32.ofNat j56))] [(.ref r0)])) (fun t_ k_ => ?_) ?_
    · show Steps p.tables e below (T82.setTop (mkF m 81 #[.val (.ref r0), .val (.long q1), .second, .val (.int (Int32.ofNat j56))] [])) _
      refine XS.aloadN X82.here hx rfl (hb hby d6_81) rfl rfl ?_
      show Steps p.tables e below (T82.setTop (mkF m 82 #[.val (.ref r0), .val (.long q1), .second, .val (.int (Int32.ofNat j56))] [(.ref r0)])) _
      exact k_
    obtain ⟨T90, X90, e90, st90⟩ := getF X82 hx hZ hown (host := "") (Or.inl (hw _ (List.mem_of_getElem? (i := 42) rfl))) Via.refl e82 f89 (g := (mkF m 82 #[.val (.ref r0), .val (.long q1), .second, .val (.int (Int32.ofNat j56))] [(.ref r0)])) rfl rfl (hb hby d6_82)
    refine own_go (B := T90.setTop (mkF m 85 #[.val (.ref r0), .val (.long q1), .second, .val (.int (Int32.ofNat j56))] [(.int (Int32.ofNat (n + 1)))])) (fun t_ k_ => st90 _ k_) ?_
    refine own_go (B := T90.setTop (mkF m 91 #[.val (.ref r0), .val (.long q1), .second, .val (.int (Int32.ofNat j56))] [(.ref r0), (.long (((Int32.ofNat (n + 1)).toInt64) * (8 : Int64)))])) (fun t_ k_ => ?_) ?_
    · show Steps p.tables e below (T90.setTop (mkF m 85 #[.val (.ref r0), .val (.long q1), .second, .val (.int (Int32.ofNat j56))] [(.int (Int32.ofNat (n + 1)))])) _
      refine XS.i2l X90.here hx rfl (hb hby d6_85) rfl ?_
      show Steps p.tables e below (T90.setTop (mkF m 86 #[.val (.ref r0), .val (.long q1), .second, .val (.int (Int32.ofNat j56))] [(.long ((Int32.ofNat (n + 1)).toInt64))])) _
      refine X90.ldc2Long hx hown (mvT hZ (hw _ (List.mem_of_getElem? (i := 45) rfl))) (g := (mkF m 86 #[.val (.ref r0), .val (.long q1), .second, .val (.int (Int32.ofNat j56))] [(.long ((Int32.ofNat (n + 1)).toInt64))])) rfl (hb hby d6_86) _ ?_
      show Steps p.tables e below (T90.setTop (mkF m 89 #[.val (.ref r0), .val (.long q1), .second, .val (.int (Int32.ofNat j56))] [(.long (8 : Int64)), (.long ((Int32.ofNat (n + 1)).toInt64))])) _
      refine XS.lmul X90.here hx rfl (hb hby d6_89) rfl ?_
      show Steps p.tables e below (T90.setTop (mkF m 90 #[.val (.ref r0), .val (.long q1), .second, .val (.int (Int32.ofNat j56))] [(.long (((Int32.ofNat (n + 1)).toInt64) * (8 : Int64)))])) _
      refine XS.aloadN X90.here hx rfl (hb hby d6_90) rfl rfl ?_
      show Steps p.tables e below (T90.setTop (mkF m 91 #[.val (.ref r0), .val (.long q1), .second, .val (.int (Int32.ofNat j56))] [(.ref r0), (.long (((Int32.ofNat (n + 1)).toInt64) * (8 : Int64)))])) _
      exact k_
    obtain ⟨T91, X91, e91, st91⟩ := getF X90 hx hZ hown (host := "") (Or.inl (hw _ (List.mem_of_getElem? (i := 23) rfl))) Via.refl e90 f83 (g := (mkF m 91 #[.val (.ref r0), .val (.long q1), .second, .val (.int (Int32.ofNat j56))] [(.ref r0), (.long (((Int32.ofNat (n + 1)).toInt64) * (8 : Int64)))])) rfl rfl (hb hby d6_91)
    refine own_go (B := T91.setTop (mkF m 94 #[.val (.ref r0), .val (.long q1), .second, .val (.int (Int32.ofNat j56))] [(.ref bk), (.long (((Int32.ofNat (n + 1)).toInt64) * (8 : Int64)))])) (fun t_ k_ => st91 _ k_) ?_
    obtain ⟨cl92, Ar92, S92, -⟩ := id f85
    refine own_go (B := T91.setTop (mkF m 95 #[.val (.ref r0), .val (.long q1), .second, .val (.int (Int32.ofNat j56))] [(.int (1024 : Int32)), (.long (((Int32.ofNat (n + 1)).toInt64) * (8 : Int64)))])) (fun t_ k_ => ?_) ?_
    · refine X91.arraylength hx (by rw [e91]; exact Ar92.1) (State.isArrayOf_alike hZ.alike Ar92.2.1) (g := (mkF m 94 #[.val (.ref r0), .val (.long q1), .second, .val (.int (Int32.ofNat j56))] [(.ref bk), (.long (((Int32.ofNat (n + 1)).toInt64) * (8 : Int64)))])) rfl rfl (hb hby d6_94) _ ?_
      rw [S92]
      exact k_
    refine own_go (B := T91.setTop (mkF m 108 #[.val (.ref r0), .val (.long q1), .second, .val (.int (Int32.ofNat j56))] [])) (fun t_ k_ => ?_) ?_
    · show Steps p.tables e below (T91.setTop (mkF m 95 #[.val (.ref r0), .val (.long q1), .second, .val (.int (Int32.ofNat j56))] [(.int (1024 : Int32)), (.long (((Int32.ofNat (n + 1)).toInt64) * (8 : Int64)))])) _
      refine XS.i2l X91.here hx rfl (hb hby d6_95) rfl ?_
      show Steps p.tables e below (T91.setTop (mkF m 96 #[.val (.ref r0), .val (.long q1), .second, .val (.int (Int32.ofNat j56))] [(.long ((1024 : Int32).toInt64)), (.long (((Int32.ofNat (n + 1)).toInt64) * (8 : Int64)))])) _
      refine X91.ldc2Long hx hown (mvT hZ (hw _ (List.mem_of_getElem? (i := 46) rfl))) (g := (mkF m 96 #[.val (.ref r0), .val (.long q1), .second, .val (.int (Int32.ofNat j56))] [(.long ((1024 : Int32).toInt64)), (.long (((Int32.ofNat (n + 1)).toInt64) * (8 : Int64)))])) rfl (hb hby d6_96) _ ?_
      show Steps p.tables e below (T91.setTop (mkF m 99 #[.val (.ref r0), .val (.long q1), .second, .val (.int (Int32.ofNat j56))] [(.long (5 : Int64)), (.long ((1024 : Int32).toInt64)), (.long (((Int32.ofNat (n + 1)).toInt64) * (8 : Int64)))])) _
      refine XS.lmul X91.here hx rfl (hb hby d6_99) rfl ?_
      show Steps p.tables e below (T91.setTop (mkF m 100 #[.val (.ref r0), .val (.long q1), .second, .val (.int (Int32.ofNat j56))] [(.long (((1024 : Int32).toInt64) * (5 : Int64))), (.long (((Int32.ofNat (n + 1)).toInt64) * (8 : Int64)))])) _
      refine XS.lcmp X91.here hx rfl (hb hby d6_100) rfl ?_
      show Steps p.tables e below (T91.setTop (mkF m 101 #[.val (.ref r0), .val (.long q1), .second, .val (.int (Int32.ofNat j56))] [(.int (lcmpW (((Int32.ofNat (n + 1)).toInt64) * (8 : Int64)) (((1024 : Int32).toInt64) * (5 : Int64))))])) _
      refine XS.ifYes X91.here hx rfl (pc0 := 101) (pc' := 108) rfl (hb hby d6_101) rfl ((if0 _ _).trans (flt (mt (lw_gt _ _).mp (own_room (by omega)))).2.2.2) (by decide) (by decide) ?_
      show Steps p.tables e below (T91.setTop (mkF m 108 #[.val (.ref r0), .val (.long q1), .second, .val (.int (Int32.ofNat j56))] [])) _
      exact k_
    have hm : ¬ own_mem f q1 := fun q => by have e := own_hit hk hok.1 q hf56; rw [hc19] at e; exact hk e.symm
    obtain ⟨fs, hr, hrun, hended, hW, hsame⟩ := X91.leave (v := none) (fun _ => rfl)
    refine own_at ?_ (hG _ _ ⟨hrun, hended, _, _, rfl, ?_, ⟨_, rfl⟩, hW, hsame.mono (by decide) (by decide)⟩)
    · show Steps p.tables e below (T91.setTop (mkF m 108 #[.val (.ref r0), .val (.long q1), .second, .val (.int (Int32.ofNat j56))] [])) _
      exact X91.returnOut hx Bd.returns (hb hby d6_108) hr
    · show Q6 Z r0 q1 bk bc f n g cb h0 n0 _ T91.heap _
      rw [e91]
      exact ⟨rfl, N82, f88, _, _, _, f83, f84, f89, f85, f86, own_ins hk hok hf56 hc19, own_ins_mem hj56 hc19, fun q => absurd q hm, fun _ => rfl, (own_cnt hg hcb hj56).2⟩
  · refine own_go (B := T57.setTop (mkF m 40 #[.val (.ref r0), .val (.long q1), .second, .val (.int (Int32.ofNat j56))] [(.ref r0)])) (fun t_ k_ => ?_) ?_
    · show Steps p.tables e below (T57.setTop (mkF m 19 #[.val (.ref r0), .val (.long q1), .second, .val (.int (Int32.ofNat j56))] [(.int (lcmpW (f j56) (-1 : Int64)))])) _
      refine XS.ifYes X57.here hx rfl (pc0 := 19) (pc' := 39) rfl (hb hby d6_19) rfl ((if0 _ _).trans (feq (mt (lw_eq _ _).mp hc19)).2) (by decide) (by decide) ?_
      show Steps p.tables e below (T57.setTop (mkF m 39 #[.val (.ref r0), .val (.long q1), .second, .val (.int (Int32.ofNat j56))] [])) _
      refine XS.aloadN X57.here hx rfl (hb hby d6_39) rfl rfl ?_
      show Steps p.tables e below (T57.setTop (mkF m 40 #[.val (.ref r0), .val (.long q1), .second, .val (.int (Int32.ofNat j56))] [(.ref r0)])) _
      exact k_
    obtain ⟨T94, X94, e94, st94⟩ := getF X57 hx hZ hown (host := "") (Or.inl (hw _ (List.mem_of_getElem? (i := 26) rfl))) Via.refl e57 F2 (g := (mkF m 40 #[.val (.ref r0), .val (.long q1), .second, .val (.int (Int32.ofNat j56))] [(.ref r0)])) rfl rfl (hb hby d6_40)
    refine own_go (B := T94.setTop (mkF m 43 #[.val (.ref r0), .val (.long q1), .second, .val (.int (Int32.ofNat j56))] [(.ref bc)])) (fun t_ k_ => st94 _ k_) ?_
    refine own_go (B := T94.setTop (mkF m 44 #[.val (.ref r0), .val (.long q1), .second, .val (.int (Int32.ofNat j56))] [(.int (Int32.ofNat j56)), (.ref bc)])) (fun t_ k_ => ?_) ?_
    · show Steps p.tables e below (T94.setTop (mkF m 43 #[.val (.ref r0), .val (.long q1), .second, .val (.int (Int32.ofNat j56))] [(.ref bc)])) _
      refine XS.iloadN X94.here hx rfl (hb hby d6_43) rfl ?_
      show Steps p.tables e below (T94.setTop (mkF m 44 #[.val (.ref r0), .val (.long q1), .second, .val (.int (Int32.ofNat j56))] [(.int (Int32.ofNat j56)), (.ref bc)])) _
      exact k_
    obtain ⟨cl95, Ar95, S95, Hh95⟩ := id V2
    have hat95 : cl95.slots[((Int32.ofNat j56)).toNatClampNeg]? = some (.int (g j56)) := by rw [own_clamp (Nat.lt_trans hj56 (by decide))]; exact Hh95 _ hj56
    refine own_go (B := T94.setTop (mkF m 45 #[.val (.ref r0), .val (.long q1), .second, .val (.int (Int32.ofNat j56))] [(.int (g j56))])) (fun t_ k_ => X94.iaload hx (j := (Int32.ofNat j56)) (v := (.int (g j56))) (by rw [e94]; exact Ar95.1) (State.isArrayOf_alike hZ.alike Ar95.2.1) Ar95.2.2 (own_inb S95 hj56) hat95 (g := (mkF m 44 #[.val (.ref r0), .val (.long q1), .second, .val (.int (Int32.ofNat j56))] [(.int (Int32.ofNat j56)), (.ref bc)])) rfl rfl (hb hby d6_44) _ k_) ?_
    refine own_go (B := T94.setTop (mkF m 72 #[.val (.ref r0), .val (.long q1), .second, .val (.int (Int32.ofNat j56))] [(.ref r0)])) (fun t_ k_ => ?_) ?_
    · show Steps p.tables e below (T94.setTop (mkF m 45 #[.val (.ref r0), .val (.long q1), .second, .val (.int (Int32.ofNat j56))] [(.int (g j56))])) _
      refine X94.ldcInt hx hown (mvT hZ (hw _ (List.mem_of_getElem? (i := 44) rfl))) (g := (mkF m 45 #[.val (.ref r0), .val (.long q1), .second, .val (.int (Int32.ofNat j56))] [(.int (g j56))])) rfl (hb hby d6_45) _ ?_
      show Steps p.tables e below (T94.setTop (mkF m 47 #[.val (.ref r0), .val (.long q1), .second, .val (.int (Int32.ofNat j56))] [(.int (2147483647 : Int32)), (.int (g j56))])) _
      refine XS.icmpYes X94.here hx rfl (pc0 := 47) (pc' := 71) rfl (hb hby d6_47) rfl (feq (own_cnt hg hcb hj56).1).2 (by decide) (by decide) ?_
      show Steps p.tables e below (T94.setTop (mkF m 71 #[.val (.ref r0), .val (.long q1), .second, .val (.int (Int32.ofNat j56))] [])) _
      refine XS.aloadN X94.here hx rfl (hb hby d6_71) rfl rfl ?_
      show Steps p.tables e below (T94.setTop (mkF m 72 #[.val (.ref r0), .val (.long q1), .second, .val (.int (Int32.ofNat j56))] [(.ref r0)])) _
      exact k_
    obtain ⟨T96, X96, e96, st96⟩ := getF X94 hx hZ hown (host := "") (Or.inl (hw _ (List.mem_of_getElem? (i := 26) rfl))) Via.refl e94 F2 (g := (mkF m 72 #[.val (.ref r0), .val (.long q1), .second, .val (.int (Int32.ofNat j56))] [(.ref r0)])) rfl rfl (hb hby d6_72)
    refine own_go (B := T96.setTop (mkF m 75 #[.val (.ref r0), .val (.long q1), .second, .val (.int (Int32.ofNat j56))] [(.ref bc)])) (fun t_ k_ => st96 _ k_) ?_
    refine own_go (B := T96.setTop (mkF m 77 #[.val (.ref r0), .val (.long q1), .second, .val (.int (Int32.ofNat j56))] [(.int (Int32.ofNat j56)), (.ref bc), (.int (Int32.ofNat j56)), (.ref bc)])) (fun t_ k_ => ?_) ?_
    · show Steps p.tables e below (T96.setTop (mkF m 75 #[.val (.ref r0), .val (.long q1), .second, .val (.int (Int32.ofNat j56))] [(.ref bc)])) _
      refine XS.iloadN X96.here hx rfl (hb hby d6_75) rfl ?_
      show Steps p.tables e below (T96.setTop (mkF m 76 #[.val (.ref r0), .val (.long q1), .second, .val (.int (Int32.ofNat j56))] [(.int (Int32.ofNat j56)), (.ref bc)])) _
      refine XT.dup2 X96.here hx rfl (hb hby d6_76) rfl rfl rfl ?_
      show Steps p.tables e below (T96.setTop (mkF m 77 #[.val (.ref r0), .val (.long q1), .second, .val (.int (Int32.ofNat j56))] [(.int (Int32.ofNat j56)), (.ref bc), (.int (Int32.ofNat j56)), (.ref bc)])) _
      exact k_
    obtain ⟨cl97, Ar97, S97, Hh97⟩ := id V2
    have hat97 : cl97.slots[((Int32.ofNat j56)).toNatClampNeg]? = some (.int (g j56)) := by rw [own_clamp (Nat.lt_trans hj56 (by decide))]; exact Hh97 _ hj56
    refine own_go (B := T96.setTop (mkF m 78 #[.val (.ref r0), .val (.long q1), .second, .val (.int (Int32.ofNat j56))] [(.int (g j56)), (.int (Int32.ofNat j56)), (.ref bc)])) (fun t_ k_ => X96.iaload hx (j := (Int32.ofNat j56)) (v := (.int (g j56))) (by rw [e96]; exact Ar97.1) (State.isArrayOf_alike hZ.alike Ar97.2.1) Ar97.2.2 (own_inb S97 hj56) hat97 (g := (mkF m 77 #[.val (.ref r0), .val (.long q1), .second, .val (.int (Int32.ofNat j56))] [(.int (Int32.ofNat j56)), (.ref bc), (.int (Int32.ofNat j56)), (.ref bc)])) rfl rfl (hb hby d6_77) _ k_) ?_
    refine own_go (B := T96.setTop (mkF m 80 #[.val (.ref r0), .val (.long q1), .second, .val (.int (Int32.ofNat j56))] [(.int ((g j56) + (1 : Int32))), (.int (Int32.ofNat j56)), (.ref bc)])) (fun t_ k_ => ?_) ?_
    · show Steps p.tables e below (T96.setTop (mkF m 78 #[.val (.ref r0), .val (.long q1), .second, .val (.int (Int32.ofNat j56))] [(.int (g j56)), (.int (Int32.ofNat j56)), (.ref bc)])) _
      refine XS.iconst X96.here hx rfl (hb hby d6_78) ?_
      show Steps p.tables e below (T96.setTop (mkF m 79 #[.val (.ref r0), .val (.long q1), .second, .val (.int (Int32.ofNat j56))] [(.int (1 : Int32)), (.int (g j56)), (.int (Int32.ofNat j56)), (.ref bc)])) _
      refine XS.iadd X96.here hx rfl (hb hby d6_79) rfl ?_
      show Steps p.tables e below (T96.setTop (mkF m 80 #[.val (.ref r0), .val (.long q1), .second, .val (.int (Int32.ofNat j56))] [(.int ((g j56) + (1 : Int32))), (.int (Int32.ofNat j56)), (.ref bc)])) _
      exact k_
    obtain ⟨cl98, Ar98, S98, Hh98⟩ := id V2
    obtain ⟨T98, h98, X98, e98, W98, st98⟩ := stI X96 hx hZ e96 Ar98 (j := (Int32.ofNat j56)) (own_inb S98 hj56) (g := (mkF m 80 #[.val (.ref r0), .val (.long q1), .second, .val (.int (Int32.ofNat j56))] [(.int ((g j56) + (1 : Int32))), (.int (Int32.ofNat j56)), (.ref bc)])) rfl rfl (hb hby d6_80)
    rw [own_clamp (Nat.lt_trans hj56 (by decide))] at W98
    have f99 : Fld Z h98 r0 "com/example/prudent_annotator/prudentannotator/profile/PairCounts" "keys" "[J" (.ref bk) := F1.other W98 (Or.inl ne_r0_bc)
    have f100 : Fld Z h98 r0 "com/example/prudent_annotator/prudentannotator/profile/PairCounts" "counts" "[I" (.ref bc) := F2.other W98 (Or.inl ne_r0_bc)
    have f101 : Fld Z h98 r0 "com/example/prudent_annotator/prudentannotator/profile/PairCounts" "size" "I" (.int (Int32.ofNat n)) := F3.other W98 (Or.inl ne_r0_bc)
    have f102 : own_LA Z h98 bk f := V1.other W98 ne_bk_bc
    have f103 : own_IA Z h98 bc (own_updI g j56 ((g j56) + (1 : Int32))) := V2.set W98 hj56
    have f104 : Exa Z h98 r0 "com/example/prudent_annotator/prudentannotator/profile/PairCounts" := E1.wr W98
    have f105 : Keep h0 h98 [r0, bk, bc] := K0.wr W98 (Or.inl (List.mem_of_getElem? (i := 2) rfl))
    have Z98 : n0 ≤ h98.size := Nat.le_trans Z0 (Keep.of_wr W98).1
    have N98 := Fr.snoc X98 N56 g_bc
    refine own_go (B := T98.setTop (mkF m 81 #[.val (.ref r0), .val (.long q1), .second, .val (.int (Int32.ofNat j56))] [])) (fun t_ k_ => st98 _ k_) ?_
    refine own_go (B := T98.setTop (mkF m 82 #[.val (.ref r0), .val (.long q1), .second, .val (.int (Int32.ofNat j56))] [(.ref r0)])) (fun t_ k_ => ?_) ?_
    · show Steps p.tables e below (T98.setTop (mkF m 81 #[.val (.ref r0), .val (.long q1), .second, .val (.int (Int32.ofNat j56))] [])) _
      refine XS.aloadN X98.here hx rfl (hb hby d6_81) rfl rfl ?_
      show Steps p.tables e below (T98.setTop (mkF m 82 #[.val (.ref r0), .val (.long q1), .second, .val (.int (Int32.ofNat j56))] [(.ref r0)])) _
      exact k_
    obtain ⟨T106, X106, e106, st106⟩ := getF X98 hx hZ hown (host := "") (Or.inl (hw _ (List.mem_of_getElem? (i := 42) rfl))) Via.refl e98 f101 (g := (mkF m 82 #[.val (.ref r0), .val (.long q1), .second, .val (.int (Int32.ofNat j56))] [(.ref r0)])) rfl rfl (hb hby d6_82)
    refine own_go (B := T106.setTop (mkF m 85 #[.val (.ref r0), .val (.long q1), .second, .val (.int (Int32.ofNat j56))] [(.int (Int32.ofNat n))])) (fun t_ k_ => st106 _ k_) ?_
    refine own_go (B := T106.setTop (mkF m 91 #[.val (.ref r0), .val (.long q1), .second, .val (.int (Int32.ofNat j56))] [(.ref r0), (.long (((Int32.ofNat n).toInt64) * (8 : Int64)))])) (fun t_ k_ => ?_) ?_
    · show Steps p.tables e below (T106.setTop (mkF m 85 #[.val (.ref r0), .val (.long q1), .second, .val (.int (Int32.ofNat j56))] [(.int (Int32.ofNat n))])) _
      refine XS.i2l X106.here hx rfl (hb hby d6_85) rfl ?_
      show Steps p.tables e below (T106.setTop (mkF m 86 #[.val (.ref r0), .val (.long q1), .second, .val (.int (Int32.ofNat j56))] [(.long ((Int32.ofNat n).toInt64))])) _
      refine X106.ldc2Long hx hown (mvT hZ (hw _ (List.mem_of_getElem? (i := 45) rfl))) (g := (mkF m 86 #[.val (.ref r0), .val (.long q1), .second, .val (.int (Int32.ofNat j56))] [(.long ((Int32.ofNat n).toInt64))])) rfl (hb hby d6_86) _ ?_
      show Steps p.tables e below (T106.setTop (mkF m 89 #[.val (.ref r0), .val (.long q1), .second, .val (.int (Int32.ofNat j56))] [(.long (8 : Int64)), (.long ((Int32.ofNat n).toInt64))])) _
      refine XS.lmul X106.here hx rfl (hb hby d6_89) rfl ?_
      show Steps p.tables e below (T106.setTop (mkF m 90 #[.val (.ref r0), .val (.long q1), .second, .val (.int (Int32.ofNat j56))] [(.long (((Int32.ofNat n).toInt64) * (8 : Int64)))])) _
      refine XS.aloadN X106.here hx rfl (hb hby d6_90) rfl rfl ?_
      show Steps p.tables e below (T106.setTop (mkF m 91 #[.val (.ref r0), .val (.long q1), .second, .val (.int (Int32.ofNat j56))] [(.ref r0), (.long (((Int32.ofNat n).toInt64) * (8 : Int64)))])) _
      exact k_
    obtain ⟨T107, X107, e107, st107⟩ := getF X106 hx hZ hown (host := "") (Or.inl (hw _ (List.mem_of_getElem? (i := 23) rfl))) Via.refl e106 f99 (g := (mkF m 91 #[.val (.ref r0), .val (.long q1), .second, .val (.int (Int32.ofNat j56))] [(.ref r0), (.long (((Int32.ofNat n).toInt64) * (8 : Int64)))])) rfl rfl (hb hby d6_91)
    refine own_go (B := T107.setTop (mkF m 94 #[.val (.ref r0), .val (.long q1), .second, .val (.int (Int32.ofNat j56))] [(.ref bk), (.long (((Int32.ofNat n).toInt64) * (8 : Int64)))])) (fun t_ k_ => st107 _ k_) ?_
    obtain ⟨cl108, Ar108, S108, -⟩ := id f102
    refine own_go (B := T107.setTop (mkF m 95 #[.val (.ref r0), .val (.long q1), .second, .val (.int (Int32.ofNat j56))] [(.int (1024 : Int32)), (.long (((Int32.ofNat n).toInt64) * (8 : Int64)))])) (fun t_ k_ => ?_) ?_
    · refine X107.arraylength hx (by rw [e107]; exact Ar108.1) (State.isArrayOf_alike hZ.alike Ar108.2.1) (g := (mkF m 94 #[.val (.ref r0), .val (.long q1), .second, .val (.int (Int32.ofNat j56))] [(.ref bk), (.long (((Int32.ofNat n).toInt64) * (8 : Int64)))])) rfl rfl (hb hby d6_94) _ ?_
      rw [S108]
      exact k_
    refine own_go (B := T107.setTop (mkF m 108 #[.val (.ref r0), .val (.long q1), .second, .val (.int (Int32.ofNat j56))] [])) (fun t_ k_ => ?_) ?_
    · show Steps p.tables e below (T107.setTop (mkF m 95 #[.val (.ref r0), .val (.long q1), .second, .val (.int (Int32.ofNat j56))] [(.int (1024 : Int32)), (.long (((Int32.ofNat n).toInt64) * (8 : Int64)))])) _
      refine XS.i2l X107.here hx rfl (hb hby d6_95) rfl ?_
      show Steps p.tables e below (T107.setTop (mkF m 96 #[.val (.ref r0), .val (.long q1), .second, .val (.int (Int32.ofNat j56))] [(.long ((1024 : Int32).toInt64)), (.long (((Int32.ofNat n).toInt64) * (8 : Int64)))])) _
      refine X107.ldc2Long hx hown (mvT hZ (hw _ (List.mem_of_getElem? (i := 46) rfl))) (g := (mkF m 96 #[.val (.ref r0), .val (.long q1), .second, .val (.int (Int32.ofNat j56))] [(.long ((1024 : Int32).toInt64)), (.long (((Int32.ofNat n).toInt64) * (8 : Int64)))])) rfl (hb hby d6_96) _ ?_
      show Steps p.tables e below (T107.setTop (mkF m 99 #[.val (.ref r0), .val (.long q1), .second, .val (.int (Int32.ofNat j56))] [(.long (5 : Int64)), (.long ((1024 : Int32).toInt64)), (.long (((Int32.ofNat n).toInt64) * (8 : Int64)))])) _
      refine XS.lmul X107.here hx rfl (hb hby d6_99) rfl ?_
      show Steps p.tables e below (T107.setTop (mkF m 100 #[.val (.ref r0), .val (.long q1), .second, .val (.int (Int32.ofNat j56))] [(.long (((1024 : Int32).toInt64) * (5 : Int64))), (.long (((Int32.ofNat n).toInt64) * (8 : Int64)))])) _
      refine XS.lcmp X107.here hx rfl (hb hby d6_100) rfl ?_
      show Steps p.tables e below (T107.setTop (mkF m 101 #[.val (.ref r0), .val (.long q1), .second, .val (.int (Int32.ofNat j56))] [(.int (lcmpW (((Int32.ofNat n).toInt64) * (8 : Int64)) (((1024 : Int32).toInt64) * (5 : Int64))))])) _
      refine XS.ifYes X107.here hx rfl (pc0 := 101) (pc' := 108) rfl (hb hby d6_101) rfl ((if0 _ _).trans (flt (mt (lw_gt _ _).mp (own_room (by omega)))).2.2.2) (by decide) (by decide) ?_
      show Steps p.tables e below (T107.setTop (mkF m 108 #[.val (.ref r0), .val (.long q1), .second, .val (.int (Int32.ofNat j56))] [])) _
      exact k_
    have hm : own_mem f q1 := Classical.byContradiction fun q => hc19 (own_miss q hf56)
    obtain ⟨fs, hr, hrun, hended, hW, hsame⟩ := X107.leave (v := none) (fun _ => rfl)
    refine own_at ?_ (hG _ _ ⟨hrun, hended, _, _, rfl, ?_, ⟨_, rfl⟩, hW, hsame.mono (by decide) (by decide)⟩)
    · show Steps p.tables e below (T107.setTop (mkF m 108 #[.val (.ref r0), .val (.long q1), .second, .val (.int (Int32.ofNat j56))] [])) _
      exact X107.returnOut hx Bd.returns (hb hby d6_108) hr
    · show Q6 Z r0 q1 bk bc f n g cb h0 n0 _ T107.heap _
      rw [e107]
      exact ⟨rfl, N98, f105, _, _, _, f99, f100, f101, f102, f103, hok, own_same_mem hm, fun _ => rfl, fun q => absurd hm q, (own_cnt hg hcb hj56).2⟩
theorem own_getl (xs : List Int64) (j : Nat) : (xs.map Value.long).getD j (.long (0 : Int64)) = .long (xs.getD j 0) := by
  rw [List.getD_eq_getElem?_getD, List.getD_eq_getElem?_getD, List.getElem?_map]
  cases xs[j]? <;> rfl
theorem own_app (xs : List Int64) (x : Int64) : (xs.map Value.long ++ [Value.long (0 : Int64)]).set xs.length (Value.long x) = (xs ++ [x]).map Value.long := by
  rw [List.map_append, show xs.length = (xs.map Value.long).length from (List.length_map ..).symm, List.set_append_right _ _ (Nat.le_refl _)]
  simp
theorem d9_0 : decode prog_54_method_7_code 0 = .ok (.aload_n 0, 1) := by decide +kernel
theorem d9_1 : decode prog_54_method_7_code 1 = .ok (.getfield 29, 3) := by decide +kernel
theorem d9_4 : decode prog_54_method_7_code 4 = .ok (.newarray .long, 2) := by decide +kernel
theorem d9_6 : decode prog_54_method_7_code 6 = .ok (.astore_n 1, 1) := by decide +kernel
theorem d9_7 : decode prog_54_method_7_code 7 = .ok (.iconst 0, 1) := by decide +kernel
theorem d9_8 : decode prog_54_method_7_code 8 = .ok (.istore_n 2, 1) := by decide +kernel
theorem d9_9 : decode prog_54_method_7_code 9 = .ok (.aload_n 0, 1) := by decide +kernel
theorem d9_10 : decode prog_54_method_7_code 10 = .ok (.getfield 13, 3) := by decide +kernel
theorem d9_13 : decode prog_54_method_7_code 13 = .ok (.astore_n 3, 1) := by decide +kernel
theorem d9_14 : decode prog_54_method_7_code 14 = .ok (.aload_n 3, 1) := by decide +kernel
theorem d9_15 : decode prog_54_method_7_code 15 = .ok (.arraylength, 1) := by decide +kernel
theorem d9_16 : decode prog_54_method_7_code 16 = .ok (.istore 4, 2) := by decide +kernel
theorem d9_18 : decode prog_54_method_7_code 18 = .ok (.iconst 0, 1) := by decide +kernel
theorem d9_19 : decode prog_54_method_7_code 19 = .ok (.istore 5, 2) := by decide +kernel
theorem d9_21 : decode prog_54_method_7_code 21 = .ok (.iload 5, 2) := by decide +kernel
theorem d9_23 : decode prog_54_method_7_code 23 = .ok (.iload 4, 2) := by decide +kernel
theorem d9_25 : decode prog_54_method_7_code 25 = .ok (.if_icmp .ge 32, 3) := by decide +kernel
theorem d9_28 : decode prog_54_method_7_code 28 = .ok (.aload_n 3, 1) := by decide +kernel
theorem d9_29 : decode prog_54_method_7_code 29 = .ok (.iload 5, 2) := by decide +kernel
theorem d9_31 : decode prog_54_method_7_code 31 = .ok (.laload, 1) := by decide +kernel
theorem d9_32 : decode prog_54_method_7_code 32 = .ok (.lstore 6, 2) := by decide +kernel
theorem d9_34 : decode prog_54_method_7_code 34 = .ok (.lload 6, 2) := by decide +kernel
theorem d9_36 : decode prog_54_method_7_code 36 = .ok (.ldc2_w 27, 3) := by decide +kernel
theorem d9_39 : decode prog_54_method_7_code 39 = .ok (.lcmp, 1) := by decide +kernel
theorem d9_40 : decode prog_54_method_7_code 40 = .ok (.ifCond .eq 11, 3) := by decide +kernel
theorem d9_43 : decode prog_54_method_7_code 43 = .ok (.aload_n 1, 1) := by decide +kernel
theorem d9_44 : decode prog_54_method_7_code 44 = .ok (.iload_n 2, 1) := by decide +kernel
theorem d9_45 : decode prog_54_method_7_code 45 = .ok (.iinc 2 1, 3) := by decide +kernel
theorem d9_48 : decode prog_54_method_7_code 48 = .ok (.lload 6, 2) := by decide +kernel
theorem d9_50 : decode prog_54_method_7_code 50 = .ok (.lastore, 1) := by decide +kernel
theorem d9_51 : decode prog_54_method_7_code 51 = .ok (.iinc 5 1, 3) := by decide +kernel
theorem d9_54 : decode prog_54_method_7_code 54 = .ok (.goto (-33), 3) := by decide +kernel
theorem d9_57 : decode prog_54_method_7_code 57 = .ok (.aload_n 1, 1) := by decide +kernel
theorem d9_58 : decode prog_54_method_7_code 58 = .ok (.areturn, 1) := by decide +kernel
theorem pn_9 : plainName "com/example/prudent_annotator/prudentannotator/profile/PairCounts" = true := by first | (simp [plainName, overriddenIn]; done) | decide +kernel
theorem ef_rm9 (m : MethodId) (x0 : Addr) : entryFrame m #[(.ref x0)] 8 = mkF m 0 #[.val (.ref x0), .unset, .unset, .unset, .unset, .unset, .unset, .unset] [] := by first | (simp [entryFrame, mkF, argsToLocals, Value.category]; done) | rfl
def Q9 (Z : State) (r0 : Addr) (bk : Addr) (f : Nat → Int64) (n : Nat) (h0 : Heap) (n0 : Nat) (v : Option Value) (h : Heap) (L : List Loc) : Prop := ∃ (b : Addr) (kb : ClassId), v = some (.ref b) ∧ Fr n0 L ∧ Keep h0 h [] ∧ Arv Z h b kb .long (Int32.ofNat n) ((own_kl f 1024).map Value.long) (.long (0 : Int64))
set_option maxRecDepth 65536 in
set_option maxHeartbeats 40000000 in
theorem rm9 (l : Launch) (Z : State) (a0 : Array Value) (hw : ∀ d ∈ tables_1, d.before a0 Z = true) (ws : List Jvm.Cond) (r0 : Addr) (bk : Addr) (f : Nat → Int64) (n : Nat) (h0 : Heap) (n0 : Nat) (Z0 : n0 ≤ h0.size) (F1 : Fld Z h0 r0 "com/example/prudent_annotator/prudentannotator/profile/PairCounts" "keys" "[J" (.ref bk)) (F3 : Fld Z h0 r0 "com/example/prudent_annotator/prudentannotator/profile/PairCounts" "size" "I" (.int (Int32.ofNat n))) (V1 : own_LA Z h0 bk f) (hok : own_ok f n) (hn : n ≤ 3) :
    MetFree l (⟨"com/example/prudent_annotator/prudentannotator/profile/PairCounts", "keys", "()[J"⟩ : MethodName) (head1 (Jvm.Cond.code (⟨"com/example/prudent_annotator/prudentannotator/profile/PairCounts", "keys", "()[J"⟩ : MethodName) prog_54_method_7_code 8 (some (.array .long)) :: ws) ({ frames := 0, cells := 1, slots := 3, locals := 0 } : Room)) (fun a U => a = #[(.ref r0)] ∧ Z.Warmed39 U.vm ∧ U.heap = h0) (fun _ _ _ _ _ => True) (fun _ U o U' => ∃ v L, o = .returned v ∧ Q9 Z r0 bk f n h0 n0 v U'.heap L ∧ FrameEnd U o U' L ({ frames := 0, cells := 1, slots := 3, locals := 0 } : Room).cells ({ frames := 0, cells := 1, slots := 3, locals := 0 } : Room).slots) := by
  refine MetFree.of_bodySF (plainFor_of_name pn_9) hisR ?_
  intro p e s m args below meth c s₁ Bd hml0 hP hK
  obtain ⟨rfl, hZ, hh⟩ := hP
  have hx := Bd.exec
  have hby := Bd.bytes
  have hml : c.maxLocals = 8 := hml0
  have hown : s.vm.findClass "com/example/prudent_annotator/prudentannotator/profile/PairCounts" = some m.cls := findClass_of_methodNamed Bd.named
  have hnm := (name_of_methodNamed Bd.named Bd.method).1
  have X0 : Stand p l e ({ frames := 0, cells := 1, slots := 3, locals := 0 } : Room) s m #[(.ref r0)] below meth c s₁ [] 0 0 := Stand.of_body Bd
  have e0 : s₁.heap = h0 := by rw [← hh, Bd.state]; rfl
  have N0 := Fr.nil n0
  refine own_open fun G hG => ?_
  refine own_go (B := s₁.setTop (mkF m 0 #[.val (.ref r0), .unset, .unset, .unset, .unset, .unset, .unset, .unset] [])) (fun t_ k_ => castTop (ef_rm9 m r0) k_) ?_
  have K0 : Keep h0 h0 [] := Keep.refl h0 _
  refine own_go (B := s₁.setTop (mkF m 1 #[.val (.ref r0), .unset, .unset, .unset, .unset, .unset, .unset, .unset] [(.ref r0)])) (fun t_ k_ => ?_) ?_
  · show Steps p.tables e below (s₁.setTop (mkF m 0 #[.val (.ref r0), .unset, .unset, .unset, .unset, .unset, .unset, .unset] [])) _
    refine XS.aloadN X0.here hx rfl (hb hby d9_0) rfl rfl ?_
    show Steps p.tables e below (s₁.setTop (mkF m 1 #[.val (.ref r0), .unset, .unset, .unset, .unset, .unset, .unset, .unset] [(.ref r0)])) _
    exact k_
  obtain ⟨T110, X110, e110, st110⟩ := getF X0 hx hZ hown (host := "") (Or.inl (hw _ (List.mem_of_getElem? (i := 42) rfl))) Via.refl e0 F3 (g := (mkF m 1 #[.val (.ref r0), .unset, .unset, .unset, .unset, .unset, .unset, .unset] [(.ref r0)])) rfl rfl (hb hby d9_1)
  refine own_go (B := T110.setTop (mkF m 4 #[.val (.ref r0), .unset, .unset, .unset, .unset, .unset, .unset, .unset] [(.int (Int32.ofNat n))])) (fun t_ k_ => st110 _ k_) ?_
  obtain ⟨T111, h111, k111, X111, e111, E111, A111, st111⟩ := newP X110 hx hZ (hw _ (List.mem_of_getElem? (i := 17) rfl)) e110 (g := (mkF m 4 #[.val (.ref r0), .unset, .unset, .unset, .unset, .unset, .unset, .unset] [(.int (Int32.ofNat n))])) rfl (hb hby d9_4) rfl (own_nn (by omega)) (cap := 3) (by rw [own_clamp (by omega)]; omega) (by decide) (by decide) (by decide)
  obtain ⟨b111, g111⟩ : ∃ z, z = h0.size := ⟨_, rfl⟩
  rw [← g111] at A111 st111
  have g_b111 : n0 ≤ b111 := Nat.le_trans Z0 (Nat.le_of_eq g111.symm)
  have ne_r0_b111 : r0 ≠ b111 := Nat.ne_of_lt (Nat.lt_of_lt_of_le F1.lt (Nat.le_of_eq g111.symm))
  have ne_bk_b111 : bk ≠ b111 := Nat.ne_of_lt (Nat.lt_of_lt_of_le V1.lt (Nat.le_of_eq g111.symm))
  have sz_b111 : h0.size ≤ b111 := Nat.le_trans K0.1 (Nat.le_of_eq g111.symm)
  have f112 : Fld Z h111 r0 "com/example/prudent_annotator/prudentannotator/profile/PairCounts" "keys" "[J" (.ref bk) := F1.ext E111
  have f113 : Fld Z h111 r0 "com/example/prudent_annotator/prudentannotator/profile/PairCounts" "size" "I" (.int (Int32.ofNat n)) := F3.ext E111
  have f114 : own_LA Z h111 bk f := V1.ext E111
  have f115 : Keep h0 h111 [] := K0.ext E111
  have Z111 : n0 ≤ h111.size := Nat.le_trans Z0 E111.1
  have f116 : Arv Z h111 b111 k111 .long (Int32.ofNat n) [] (.long (0 : Int64)) := Arv.new A111 (own_nn (by omega))
  refine own_go (B := T111.setTop (mkF m 6 #[.val (.ref r0), .unset, .unset, .unset, .unset, .unset, .unset, .unset] [(.ref b111)])) (fun t_ k_ => st111 _ k_) ?_
  refine own_go (B := T111.setTop (mkF m 10 #[.val (.ref r0), .val (.ref b111), .val (.int (0 : Int32)), .unset, .unset, .unset, .unset, .unset] [(.ref r0)])) (fun t_ k_ => ?_) ?_
  · show Steps p.tables e below (T111.setTop (mkF m 6 #[.val (.ref r0), .unset, .unset, .unset, .unset, .unset, .unset, .unset] [(.ref b111)])) _
    refine XS.astoreN X111.here hx rfl (hb hby d9_6) rfl rfl (l' := #[.val (.ref r0), .val (.ref b111), .unset, .unset, .unset, .unset, .unset, .unset]) rfl ?_
    show Steps p.tables e below (T111.setTop (mkF m 7 #[.val (.ref r0), .val (.ref b111), .unset, .unset, .unset, .unset, .unset, .unset] [])) _
    refine XS.iconst X111.here hx rfl (hb hby d9_7) ?_
    show Steps p.tables e below (T111.setTop (mkF m 8 #[.val (.ref r0), .val (.ref b111), .unset, .unset, .unset, .unset, .unset, .unset] [(.int (0 : Int32))])) _
    refine XS.istoreN X111.here hx rfl (hb hby d9_8) rfl (l' := #[.val (.ref r0), .val (.ref b111), .val (.int (0 : Int32)), .unset, .unset, .unset, .unset, .unset]) rfl ?_
    show Steps p.tables e below (T111.setTop (mkF m 9 #[.val (.ref r0), .val (.ref b111), .val (.int (0 : Int32)), .unset, .unset, .unset, .unset, .unset] [])) _
    refine XS.aloadN X111.here hx rfl (hb hby d9_9) rfl rfl ?_
    show Steps p.tables e below (T111.setTop (mkF m 10 #[.val (.ref r0), .val (.ref b111), .val (.int (0 : Int32)), .unset, .unset, .unset, .unset, .unset] [(.ref r0)])) _
    exact k_
  obtain ⟨T117, X117, e117, st117⟩ := getF X111 hx hZ hown (host := "") (Or.inl (hw _ (List.mem_of_getElem? (i := 23) rfl))) Via.refl e111 f112 (g := (mkF m 10 #[.val (.ref r0), .val (.ref b111), .val (.int (0 : Int32)), .unset, .unset, .unset, .unset, .unset] [(.ref r0)])) rfl rfl (hb hby d9_10)
  refine own_go (B := T117.setTop (mkF m 13 #[.val (.ref r0), .val (.ref b111), .val (.int (0 : Int32)), .unset, .unset, .unset, .unset, .unset] [(.ref bk)])) (fun t_ k_ => st117 _ k_) ?_
  refine own_go (B := T117.setTop (mkF m 15 #[.val (.ref r0), .val (.ref b111), .val (.int (0 : Int32)), .val (.ref bk), .unset, .unset, .unset, .unset] [(.ref bk)])) (fun t_ k_ => ?_) ?_
  · show Steps p.tables e below (T117.setTop (mkF m 13 #[.val (.ref r0), .val (.ref b111), .val (.int (0 : Int32)), .unset, .unset, .unset, .unset, .unset] [(.ref bk)])) _
    refine XS.astoreN X117.here hx rfl (hb hby d9_13) rfl rfl (l' := #[.val (.ref r0), .val (.ref b111), .val (.int (0 : Int32)), .val (.ref bk), .unset, .unset, .unset, .unset]) rfl ?_
    show Steps p.tables e below (T117.setTop (mkF m 14 #[.val (.ref r0), .val (.ref b111), .val (.int (0 : Int32)), .val (.ref bk), .unset, .unset, .unset, .unset] [])) _
    refine XS.aloadN X117.here hx rfl (hb hby d9_14) rfl rfl ?_
    show Steps p.tables e below (T117.setTop (mkF m 15 #[.val (.ref r0), .val (.ref b111), .val (.int (0 : Int32)), .val (.ref bk), .unset, .unset, .unset, .unset] [(.ref bk)])) _
    exact k_
  obtain ⟨cl118, Ar118, S118, -⟩ := id f114
  refine own_go (B := T117.setTop (mkF m 16 #[.val (.ref r0), .val (.ref b111), .val (.int (0 : Int32)), .val (.ref bk), .unset, .unset, .unset, .unset] [(.int (1024 : Int32))])) (fun t_ k_ => ?_) ?_
  · refine X117.arraylength hx (by rw [e117]; exact Ar118.1) (State.isArrayOf_alike hZ.alike Ar118.2.1) (g := (mkF m 15 #[.val (.ref r0), .val (.ref b111), .val (.int (0 : Int32)), .val (.ref bk), .unset, .unset, .unset, .unset] [(.ref bk)])) rfl rfl (hb hby d9_15) _ ?_
    rw [S118]
    exact k_
  refine own_go (B := T117.setTop (mkF m 21 #[.val (.ref r0), .val (.ref b111), .val (.int (0 : Int32)), .val (.ref bk), .val (.int (1024 : Int32)), .val (.int (0 : Int32)), .unset, .unset] [])) (fun t_ k_ => ?_) ?_
  · show Steps p.tables e below (T117.setTop (mkF m 16 #[.val (.ref r0), .val (.ref b111), .val (.int (0 : Int32)), .val (.ref bk), .unset, .unset, .unset, .unset] [(.int (1024 : Int32))])) _
    refine XS.istore X117.here hx rfl (hb hby d9_16) rfl (l' := #[.val (.ref r0), .val (.ref b111), .val (.int (0 : Int32)), .val (.ref bk), .val (.int (1024 : Int32)), .unset, .unset, .unset]) rfl ?_
    show Steps p.tables e below (T117.setTop (mkF m 18 #[.val (.ref r0), .val (.ref b111), .val (.int (0 : Int32)), .val (.ref bk), .val (.int (1024 : Int32)), .unset, .unset, .unset] [])) _
    refine XS.iconst X117.here hx rfl (hb hby d9_18) ?_
    show Steps p.tables e below (T117.setTop (mkF m 19 #[.val (.ref r0), .val (.ref b111), .val (.int (0 : Int32)), .val (.ref bk), .val (.int (1024 : Int32)), .unset, .unset, .unset] [(.int (0 : Int32))])) _
    refine XS.istore X117.here hx rfl (hb hby d9_19) rfl (l' := #[.val (.ref r0), .val (.ref b111), .val (.int (0 : Int32)), .val (.ref bk), .val (.int (1024 : Int32)), .val (.int (0 : Int32)), .unset, .unset]) rfl ?_
    show Steps p.tables e below (T117.setTop (mkF m 21 #[.val (.ref r0), .val (.ref b111), .val (.int (0 : Int32)), .val (.ref bk), .val (.int (1024 : Int32)), .val (.int (0 : Int32)), .unset, .unset] [])) _
    exact k_
  have LOOP : ∀ (d i : Nat) (TK : State) (LK : List Loc) (hK : Heap) (s6 s7 : Slot), i + d = 1024 → Stand p l e ({ frames := 0, cells := 1, slots := 3, locals := 0 } : Room) s m #[(.ref r0)] below meth c TK LK 1 3 → TK.heap = hK → Fr n0 LK → n0 ≤ hK.size → Keep h0 hK [] → own_LA Z hK bk f → Arv Z hK b111 k111 .long (Int32.ofNat n) ((own_kl f i).map Value.long) (.long (0 : Int64)) → ((s6 = .unset ∧ s7 = .unset) ∨ ∃ y, s6 = .val (.long y) ∧ s7 = .second) → own_R p.tables e below G (TK.setTop (mkF m 21 #[.val (.ref r0), .val (.ref b111), .val (.int (Int32.ofNat (own_kl f i).length)), .val (.ref bk), .val (.int (1024 : Int32)), .val (.int (Int32.ofNat i)), s6, s7] [])) := by
    intro d
    induction d with
    | zero =>
      intro i TK LK hK s6 s7 hd XK eK NK ZK KK VK AK hs
      have hi : i = 1024 := by omega
      subst hi
      refine own_go (B := TK.setTop (mkF m 58 #[.val (.ref r0), .val (.ref b111), .val (.int (Int32.ofNat (own_kl f 1024).length)), .val (.ref bk), .val (.int (1024 : Int32)), .val (.int (Int32.ofNat 1024)), s6, s7] [(.ref b111)])) (fun t_ k_ => ?_) ?_
      · show Steps p.tables e below (TK.setTop (mkF m 21 #[.val (.ref r0), .val (.ref b111), .val (.int (Int32.ofNat (own_kl f 1024).length)), .val (.ref bk), .val (.int (1024 : Int32)), .val (.int (Int32.ofNat 1024)), s6, s7] [])) _
        refine XS.iload XK.here hx rfl (hb hby d9_21) rfl ?_
        show Steps p.tables e below (TK.setTop (mkF m 23 #[.val (.ref r0), .val (.ref b111), .val (.int (Int32.ofNat (own_kl f 1024).length)), .val (.ref bk), .val (.int (1024 : Int32)), .val (.int (Int32.ofNat 1024)), s6, s7] [(.int (Int32.ofNat 1024))])) _
        refine XS.iload XK.here hx rfl (hb hby d9_23) rfl ?_
        show Steps p.tables e below (TK.setTop (mkF m 25 #[.val (.ref r0), .val (.ref b111), .val (.int (Int32.ofNat (own_kl f 1024).length)), .val (.ref bk), .val (.int (1024 : Int32)), .val (.int (Int32.ofNat 1024)), s6, s7] [(.int (1024 : Int32)), (.int (Int32.ofNat 1024))])) _
        refine XS.icmpYes XK.here hx rfl (pc0 := 25) (pc' := 57) rfl (hb hby d9_25) rfl (flt (by decide)).2.1 (by decide) (by decide) ?_
        show Steps p.tables e below (TK.setTop (mkF m 57 #[.val (.ref r0), .val (.ref b111), .val (.int (Int32.ofNat (own_kl f 1024).length)), .val (.ref bk), .val (.int (1024 : Int32)), .val (.int (Int32.ofNat 1024)), s6, s7] [])) _
        refine XS.aloadN XK.here hx rfl (hb hby d9_57) rfl rfl ?_
        show Steps p.tables e below (TK.setTop (mkF m 58 #[.val (.ref r0), .val (.ref b111), .val (.int (Int32.ofNat (own_kl f 1024).length)), .val (.ref bk), .val (.int (1024 : Int32)), .val (.int (Int32.ofNat 1024)), s6, s7] [(.ref b111)])) _
        exact k_
      obtain ⟨fs, hr, hrun, hended, hW, hsame⟩ := XK.leave (v := some (.ref b111)) (fun h => by rw [Bd.returns] at h; cases h)
      refine own_at ?_ (hG _ _ ⟨hrun, hended, _, _, rfl, ?_, ⟨_, rfl⟩, hW, hsame.mono (by decide) (by decide)⟩)
      · show Steps p.tables e below (TK.setTop (mkF m 58 #[.val (.ref r0), .val (.ref b111), .val (.int (Int32.ofNat (own_kl f 1024).length)), .val (.ref bk), .val (.int (1024 : Int32)), .val (.int (Int32.ofNat 1024)), s6, s7] [(.ref b111)])) _
        exact retOut XK hx (t := (.array .long)) Bd.returns rfl (Or.inr (Or.inr (Or.inr (Or.inr ⟨rfl, rfl, rfl⟩)))) (hb hby d9_58) hr
      · show Q9 Z r0 bk f n h0 n0 _ TK.heap _
        rw [eK]
        exact ⟨b111, k111, rfl, NK, KK, AK⟩
    | succ d ih =>
      intro i TK LK hK s6 s7 hd XK eK NK ZK KK VK AK hs
      have hi : i < 1024 := by omega
      refine own_go (B := TK.setTop (mkF m 31 #[.val (.ref r0), .val (.ref b111), .val (.int (Int32.ofNat (own_kl f i).length)), .val (.ref bk), .val (.int (1024 : Int32)), .val (.int (Int32.ofNat i)), s6, s7] [(.int (Int32.ofNat i)), (.ref bk)])) (fun t_ k_ => ?_) ?_
      · show Steps p.tables e below (TK.setTop (mkF m 21 #[.val (.ref r0), .val (.ref b111), .val (.int (Int32.ofNat (own_kl f i).length)), .val (.ref bk), .val (.int (1024 : Int32)), .val (.int (Int32.ofNat i)), s6, s7] [])) _
        refine XS.iload XK.here hx rfl (hb hby d9_21) rfl ?_
        show Steps p.tables e below (TK.setTop (mkF m 23 #[.val (.ref r0), .val (.ref b111), .val (.int (Int32.ofNat (own_kl f i).length)), .val (.ref bk), .val (.int (1024 : Int32)), .val (.int (Int32.ofNat i)), s6, s7] [(.int (Int32.ofNat i))])) _
        refine XS.iload XK.here hx rfl (hb hby d9_23) rfl ?_
        show Steps p.tables e below (TK.setTop (mkF m 25 #[.val (.ref r0), .val (.ref b111), .val (.int (Int32.ofNat (own_kl f i).length)), .val (.ref bk), .val (.int (1024 : Int32)), .val (.int (Int32.ofNat i)), s6, s7] [(.int (1024 : Int32)), (.int (Int32.ofNat i))])) _
        refine XS.icmpNo XK.here hx rfl (hb hby d9_25) rfl (tlt ((own_lt (i := i) (n := 1024) (by omega) (by decide)).mpr hi)).2.1 ?_
        show Steps p.tables e below (TK.setTop (mkF m 28 #[.val (.ref r0), .val (.ref b111), .val (.int (Int32.ofNat (own_kl f i).length)), .val (.ref bk), .val (.int (1024 : Int32)), .val (.int (Int32.ofNat i)), s6, s7] [])) _
        refine XS.aloadN XK.here hx rfl (hb hby d9_28) rfl rfl ?_
        show Steps p.tables e below (TK.setTop (mkF m 29 #[.val (.ref r0), .val (.ref b111), .val (.int (Int32.ofNat (own_kl f i).length)), .val (.ref bk), .val (.int (1024 : Int32)), .val (.int (Int32.ofNat i)), s6, s7] [(.ref bk)])) _
        refine XS.iload XK.here hx rfl (hb hby d9_29) rfl ?_
        show Steps p.tables e below (TK.setTop (mkF m 31 #[.val (.ref r0), .val (.ref b111), .val (.int (Int32.ofNat (own_kl f i).length)), .val (.ref bk), .val (.int (1024 : Int32)), .val (.int (Int32.ofNat i)), s6, s7] [(.int (Int32.ofNat i)), (.ref bk)])) _
        exact k_
      obtain ⟨cl120, Ar120, S120, Hh120⟩ := id VK
      have hat120 : cl120.slots[((Int32.ofNat i)).toNatClampNeg]? = some (.long (f i)) := by rw [own_clamp (Nat.lt_trans hi (by decide))]; exact Hh120 _ hi
      refine own_go (B := TK.setTop (mkF m 32 #[.val (.ref r0), .val (.ref b111), .val (.int (Int32.ofNat (own_kl f i).length)), .val (.ref bk), .val (.int (1024 : Int32)), .val (.int (Int32.ofNat i)), s6, s7] [(.long (f i))])) (fun t_ k_ => XK.laload hx (j := (Int32.ofNat i)) (v := (.long (f i))) (by rw [eK]; exact Ar120.1) (State.isArrayOf_alike hZ.alike Ar120.2.1) Ar120.2.2 (own_inb S120 hi) hat120 (g := (mkF m 31 #[.val (.ref r0), .val (.ref b111), .val (.int (Int32.ofNat (own_kl f i).length)), .val (.ref bk), .val (.int (1024 : Int32)), .val (.int (Int32.ofNat i)), s6, s7] [(.int (Int32.ofNat i)), (.ref bk)])) rfl rfl (hb hby d9_31) _ k_) ?_
      have hst : storeLocals #[.val (.ref r0), .val (.ref b111), .val (.int (Int32.ofNat (own_kl f i).length)), .val (.ref bk), .val (.int (1024 : Int32)), .val (.int (Int32.ofNat i)), s6, s7] 6 (.long (f i)) = some #[.val (.ref r0), .val (.ref b111), .val (.int (Int32.ofNat (own_kl f i).length)), .val (.ref bk), .val (.int (1024 : Int32)), .val (.int (Int32.ofNat i)), .val (.long (f i)), .second] := by
        rcases hs with ⟨rfl, rfl⟩ | ⟨y, rfl, rfl⟩ <;> rfl
      refine own_go (B := TK.setTop (mkF m 34 #[.val (.ref r0), .val (.ref b111), .val (.int (Int32.ofNat (own_kl f i).length)), .val (.ref bk), .val (.int (1024 : Int32)), .val (.int (Int32.ofNat i)), .val (.long (f i)), .second] [])) (fun t_ k_ => XS.lstore (g := (mkF m 32 #[.val (.ref r0), .val (.ref b111), .val (.int (Int32.ofNat (own_kl f i).length)), .val (.ref bk), .val (.int (1024 : Int32)), .val (.int (Int32.ofNat i)), s6, s7] [(.long (f i))])) XK.here hx rfl (hb hby d9_32) rfl hst k_) ?_
      refine own_go (B := TK.setTop (mkF m 40 #[.val (.ref r0), .val (.ref b111), .val (.int (Int32.ofNat (own_kl f i).length)), .val (.ref bk), .val (.int (1024 : Int32)), .val (.int (Int32.ofNat i)), .val (.long (f i)), .second] [(.int (lcmpW (f i) (-1 : Int64)))])) (fun t_ k_ => ?_) ?_
      · show Steps p.tables e below (TK.setTop (mkF m 34 #[.val (.ref r0), .val (.ref b111), .val (.int (Int32.ofNat (own_kl f i).length)), .val (.ref bk), .val (.int (1024 : Int32)), .val (.int (Int32.ofNat i)), .val (.long (f i)), .second] [])) _
        refine XS.lload XK.here hx rfl (hb hby d9_34) rfl ?_
        show Steps p.tables e below (TK.setTop (mkF m 36 #[.val (.ref r0), .val (.ref b111), .val (.int (Int32.ofNat (own_kl f i).length)), .val (.ref bk), .val (.int (1024 : Int32)), .val (.int (Int32.ofNat i)), .val (.long (f i)), .second] [(.long (f i))])) _
        refine XK.ldc2Long hx hown (mvT hZ (hw _ (List.mem_of_getElem? (i := 18) rfl))) (g := (mkF m 36 #[.val (.ref r0), .val (.ref b111), .val (.int (Int32.ofNat (own_kl f i).length)), .val (.ref bk), .val (.int (1024 : Int32)), .val (.int (Int32.ofNat i)), .val (.long (f i)), .second] [(.long (f i))])) rfl (hb hby d9_36) _ ?_
        show Steps p.tables e below (TK.setTop (mkF m 39 #[.val (.ref r0), .val (.ref b111), .val (.int (Int32.ofNat (own_kl f i).length)), .val (.ref bk), .val (.int (1024 : Int32)), .val (.int (Int32.ofNat i)), .val (.long (f i)), .second] [(.long (-1 : Int64)), (.long (f i))])) _
        refine XS.lcmp XK.here hx rfl (hb hby d9_39) rfl ?_
        show Steps p.tables e below (TK.setTop (mkF m 40 #[.val (.ref r0), .val (.ref b111), .val (.int (Int32.ofNat (own_kl f i).length)), .val (.ref bk), .val (.int (1024 : Int32)), .val (.int (Int32.ofNat i)), .val (.long (f i)), .second] [(.int (lcmpW (f i) (-1 : Int64)))])) _
        exact k_
      by_cases hc40 : (f i) = (-1 : Int64)
      · refine own_go (B := TK.setTop (mkF m 21 #[.val (.ref r0), .val (.ref b111), .val (.int (Int32.ofNat (own_kl f i).length)), .val (.ref bk), .val (.int (1024 : Int32)), .val (.int ((Int32.ofNat i) + (1 : Int32))), .val (.long (f i)), .second] [])) (fun t_ k_ => ?_) ?_
        · show Steps p.tables e below (TK.setTop (mkF m 40 #[.val (.ref r0), .val (.ref b111), .val (.int (Int32.ofNat (own_kl f i).length)), .val (.ref bk), .val (.int (1024 : Int32)), .val (.int (Int32.ofNat i)), .val (.long (f i)), .second] [(.int (lcmpW (f i) (-1 : Int64)))])) _
          refine XS.ifYes XK.here hx rfl (pc0 := 40) (pc' := 51) rfl (hb hby d9_40) rfl ((if0 _ _).trans (teq ((lw_eq _ _).mpr hc40)).1) (by decide) (by decide) ?_
          show Steps p.tables e below (TK.setTop (mkF m 51 #[.val (.ref r0), .val (.ref b111), .val (.int (Int32.ofNat (own_kl f i).length)), .val (.ref bk), .val (.int (1024 : Int32)), .val (.int (Int32.ofNat i)), .val (.long (f i)), .second] [])) _
          refine XS.iinc XK.here hx rfl (hb hby d9_51) rfl (l' := #[.val (.ref r0), .val (.ref b111), .val (.int (Int32.ofNat (own_kl f i).length)), .val (.ref bk), .val (.int (1024 : Int32)), .val (.int ((Int32.ofNat i) + (1 : Int32))), .val (.long (f i)), .second]) rfl ?_
          show Steps p.tables e below (TK.setTop (mkF m 54 #[.val (.ref r0), .val (.ref b111), .val (.int (Int32.ofNat (own_kl f i).length)), .val (.ref bk), .val (.int (1024 : Int32)), .val (.int ((Int32.ofNat i) + (1 : Int32))), .val (.long (f i)), .second] [])) _
          refine XS.goto XK.here hx rfl (pc0 := 54) (pc' := 21) rfl (hb hby d9_54) (by decide) (by decide) ?_
          show Steps p.tables e below (TK.setTop (mkF m 21 #[.val (.ref r0), .val (.ref b111), .val (.int (Int32.ofNat (own_kl f i).length)), .val (.ref bk), .val (.int (1024 : Int32)), .val (.int ((Int32.ofNat i) + (1 : Int32))), .val (.long (f i)), .second] [])) _
          exact k_
        have ekl : own_kl f (i + 1) = own_kl f i := by rw [own_kl_succ, if_pos hc40]; exact List.append_nil _
        have q := ih (i + 1) TK _ hK (.val (.long (f i))) .second (by omega) XK eK NK ZK KK VK (by rw [ekl]; exact AK) (Or.inr ⟨_, rfl, rfl⟩)
        rw [ekl, inc_ofNat] at q
        exact q
      · refine own_go (B := TK.setTop (mkF m 50 #[.val (.ref r0), .val (.ref b111), .val (.int ((Int32.ofNat (own_kl f i).length) + (1 : Int32))), .val (.ref bk), .val (.int (1024 : Int32)), .val (.int (Int32.ofNat i)), .val (.long (f i)), .second] [(.long (f i)), (.int (Int32.ofNat (own_kl f i).length)), (.ref b111)])) (fun t_ k_ => ?_) ?_
        · show Steps p.tables e below (TK.setTop (mkF m 40 #[.val (.ref r0), .val (.ref b111), .val (.int (Int32.ofNat (own_kl f i).length)), .val (.ref bk), .val (.int (1024 : Int32)), .val (.int (Int32.ofNat i)), .val (.long (f i)), .second] [(.int (lcmpW (f i) (-1 : Int64)))])) _
          refine XS.ifNo XK.here hx rfl (hb hby d9_40) rfl ((if0 _ _).trans (feq (mt (lw_eq _ _).mp hc40)).1) ?_
          show Steps p.tables e below (TK.setTop (mkF m 43 #[.val (.ref r0), .val (.ref b111), .val (.int (Int32.ofNat (own_kl f i).length)), .val (.ref bk), .val (.int (1024 : Int32)), .val (.int (Int32.ofNat i)), .val (.long (f i)), .second] [])) _
          refine XS.aloadN XK.here hx rfl (hb hby d9_43) rfl rfl ?_
          show Steps p.tables e below (TK.setTop (mkF m 44 #[.val (.ref r0), .val (.ref b111), .val (.int (Int32.ofNat (own_kl f i).length)), .val (.ref bk), .val (.int (1024 : Int32)), .val (.int (Int32.ofNat i)), .val (.long (f i)), .second] [(.ref b111)])) _
          refine XS.iloadN XK.here hx rfl (hb hby d9_44) rfl ?_
          show Steps p.tables e below (TK.setTop (mkF m 45 #[.val (.ref r0), .val (.ref b111), .val (.int (Int32.ofNat (own_kl f i).length)), .val (.ref bk), .val (.int (1024 : Int32)), .val (.int (Int32.ofNat i)), .val (.long (f i)), .second] [(.int (Int32.ofNat (own_kl f i).length)), (.ref b111)])) _
          refine XS.iinc XK.here hx rfl (hb hby d9_45) rfl (l' := #[.val (.ref r0), .val (.ref b111), .val (.int ((Int32.ofNat (own_kl f i).length) + (1 : Int32))), .val (.ref bk), .val (.int (1024 : Int32)), .val (.int (Int32.ofNat i)), .val (.long (f i)), .second]) rfl ?_
          show Steps p.tables e below (TK.setTop (mkF m 48 #[.val (.ref r0), .val (.ref b111), .val (.int ((Int32.ofNat (own_kl f i).length) + (1 : Int32))), .val (.ref bk), .val (.int (1024 : Int32)), .val (.int (Int32.ofNat i)), .val (.long (f i)), .second] [(.int (Int32.ofNat (own_kl f i).length)), (.ref b111)])) _
          refine XS.lload XK.here hx rfl (hb hby d9_48) rfl ?_
          show Steps p.tables e below (TK.setTop (mkF m 50 #[.val (.ref r0), .val (.ref b111), .val (.int ((Int32.ofNat (own_kl f i).length) + (1 : Int32))), .val (.ref bk), .val (.int (1024 : Int32)), .val (.int (Int32.ofNat i)), .val (.long (f i)), .second] [(.long (f i)), (.int (Int32.ofNat (own_kl f i).length)), (.ref b111)])) _
          exact k_
        have hlt : (own_kl f i).length < n := by rw [← hok.2]; exact own_kl_lt f hi hc40
        have AP121 : Arv Z hK b111 k111 .long (Int32.ofNat n) ((own_kl f i).map Value.long ++ [.long (0 : Int64)]) (.long (0 : Int64)) := AK.pad (pad_rep _ _ 1)
        obtain ⟨cl121, Ar121, q121, S121, M121, Hh121, G121⟩ := id AP121
        obtain ⟨T121, h121, X121, e121, W121, st121⟩ := stJ XK hx hZ eK Ar121 (j := (Int32.ofNat (own_kl f i).length)) (inb_of S121 ⟨own_nn (by omega), (own_lt (by omega) (by omega)).mpr hlt⟩) (g := (mkF m 50 #[.val (.ref r0), .val (.ref b111), .val (.int ((Int32.ofNat (own_kl f i).length) + (1 : Int32))), .val (.ref bk), .val (.int (1024 : Int32)), .val (.int (Int32.ofNat i)), .val (.long (f i)), .second] [(.long (f i)), (.int (Int32.ofNat (own_kl f i).length)), (.ref b111)])) rfl rfl (hb hby d9_50)
        have f122 : own_LA Z h121 bk f := VK.other W121 ne_bk_b111
        have f123 : Keep h0 h121 [] := KK.wr W121 (Or.inr sz_b111)
        have f124 : Arv Z h121 b111 k111 .long (Int32.ofNat n) ((own_kl f i ++ [f i]).map Value.long) (.long (0 : Int64)) := by rw [← own_app]; exact Arv.set Ar121 q121 S121 M121 Hh121 G121 rfl W121 _ (own_clamp (by omega)) (by simp)
        have Z121 : n0 ≤ h121.size := Nat.le_trans ZK (Keep.of_wr W121).1
        have N121 := Fr.snoc X121 NK g_b111
        refine own_go (B := T121.setTop (mkF m 51 #[.val (.ref r0), .val (.ref b111), .val (.int ((Int32.ofNat (own_kl f i).length) + (1 : Int32))), .val (.ref bk), .val (.int (1024 : Int32)), .val (.int (Int32.ofNat i)), .val (.long (f i)), .second] [])) (fun t_ k_ => st121 _ k_) ?_
        refine own_go (B := T121.setTop (mkF m 21 #[.val (.ref r0), .val (.ref b111), .val (.int ((Int32.ofNat (own_kl f i).length) + (1 : Int32))), .val (.ref bk), .val (.int (1024 : Int32)), .val (.int ((Int32.ofNat i) + (1 : Int32))), .val (.long (f i)), .second] [])) (fun t_ k_ => ?_) ?_
        · show Steps p.tables e below (T121.setTop (mkF m 51 #[.val (.ref r0), .val (.ref b111), .val (.int ((Int32.ofNat (own_kl f i).length) + (1 : Int32))), .val (.ref bk), .val (.int (1024 : Int32)), .val (.int (Int32.ofNat i)), .val (.long (f i)), .second] [])) _
          refine XS.iinc X121.here hx rfl (hb hby d9_51) rfl (l' := #[.val (.ref r0), .val (.ref b111), .val (.int ((Int32.ofNat (own_kl f i).length) + (1 : Int32))), .val (.ref bk), .val (.int (1024 : Int32)), .val (.int ((Int32.ofNat i) + (1 : Int32))), .val (.long (f i)), .second]) rfl ?_
          show Steps p.tables e below (T121.setTop (mkF m 54 #[.val (.ref r0), .val (.ref b111), .val (.int ((Int32.ofNat (own_kl f i).length) + (1 : Int32))), .val (.ref bk), .val (.int (1024 : Int32)), .val (.int ((Int32.ofNat i) + (1 : Int32))), .val (.long (f i)), .second] [])) _
          refine XS.goto X121.here hx rfl (pc0 := 54) (pc' := 21) rfl (hb hby d9_54) (by decide) (by decide) ?_
          show Steps p.tables e below (T121.setTop (mkF m 21 #[.val (.ref r0), .val (.ref b111), .val (.int ((Int32.ofNat (own_kl f i).length) + (1 : Int32))), .val (.ref bk), .val (.int (1024 : Int32)), .val (.int ((Int32.ofNat i) + (1 : Int32))), .val (.long (f i)), .second] [])) _
          exact k_
        have ekl : own_kl f (i + 1) = own_kl f i ++ [f i] := by rw [own_kl_succ, if_neg hc40]
        have q := ih (i + 1) T121 _ h121 (.val (.long (f i))) .second (by omega) X121 e121 N121 Z121 f123 f122 (by rw [ekl]; exact f124) (Or.inr ⟨_, rfl, rfl⟩)
        rw [ekl, List.length_append, show ([f i] : List Int64).length = 1 from rfl, inc_ofNat, inc_ofNat] at q
        exact q
  have q0 := LOOP 1024 0 T117 _ h111 .unset .unset (by omega) X117 e117 N0 Z111 f115 f114 f116 (Or.inl ⟨rfl, rfl⟩)
  exact q0
theorem own_len3 {xs : List Int64} {x : Int64} (h : x ∈ xs) (hl : xs.length ≤ 3) (h0 : ¬ xs.getD 0 0 = x) (h1 : (1 : Int32) < Int32.ofNat xs.length → ¬ xs.getD 1 0 = x) (h2 : (2 : Int32) < Int32.ofNat xs.length → ¬ xs.getD 2 0 = x) : False := by
  match xs, hl with
  | [], _ => cases h
  | [a], _ => simp at h h0; exact h0 h.symm
  | [a, b], _ =>
    have h1' := h1 (show (1 : Int32) < Int32.ofNat 2 from by decide)
    simp at h h0 h1'
    rcases h with h | h
    · exact h0 h.symm
    · exact h1' h.symm
  | [a, b, c], _ =>
    have h1' := h1 (show (1 : Int32) < Int32.ofNat 3 from by decide)
    have h2' := h2 (show (2 : Int32) < Int32.ofNat 3 from by decide)
    simp at h h0 h1' h2'
    rcases h with h | h | h
    · exact h0 h.symm
    · exact h1' h.symm
    · exact h2' h.symm
theorem own_pos {xs : List Int64} {x : Int64} (h : x ∈ xs) (hl : xs.length ≤ 3) : (0 : Int32) < Int32.ofNat xs.length := by
  have : 0 < xs.length := List.length_pos_of_mem h
  exact (own_lt (i := 0) (by decide) (by omega)).mpr this
theorem own_12 {n : Nat} (hn : n ≤ 3) (h : ¬ (1 : Int32) < Int32.ofNat n) : ¬ (2 : Int32) < Int32.ofNat n := by
  intro q
  have q' := (own_lt (i := 2) (by decide) (by omega)).mp q
  exact h ((own_lt (i := 1) (by decide) (by omega)).mpr (by omega))
theorem d10_0 : decode method_3_code 0 = .ok (.aload_n 0, 1) := by decide +kernel
theorem d10_1 : decode method_3_code 1 = .ok (.arraylength, 1) := by decide +kernel
theorem d10_2 : decode method_3_code 2 = .ok (.istore_n 3, 1) := by decide +kernel
theorem d10_3 : decode method_3_code 3 = .ok (.iload_n 3, 1) := by decide +kernel
theorem d10_4 : decode method_3_code 4 = .ok (.ifCond .le 11, 3) := by decide +kernel
theorem d10_7 : decode method_3_code 7 = .ok (.aload_n 0, 1) := by decide +kernel
theorem d10_8 : decode method_3_code 8 = .ok (.iconst 0, 1) := by decide +kernel
theorem d10_9 : decode method_3_code 9 = .ok (.laload, 1) := by decide +kernel
theorem d10_10 : decode method_3_code 10 = .ok (.lload_n 1, 1) := by decide +kernel
theorem d10_11 : decode method_3_code 11 = .ok (.lcmp, 1) := by decide +kernel
theorem d10_12 : decode method_3_code 12 = .ok (.ifCond .eq 29, 3) := by decide +kernel
theorem d10_15 : decode method_3_code 15 = .ok (.iload_n 3, 1) := by decide +kernel
theorem d10_16 : decode method_3_code 16 = .ok (.iconst 1, 1) := by decide +kernel
theorem d10_17 : decode method_3_code 17 = .ok (.if_icmp .le 11, 3) := by decide +kernel
theorem d10_20 : decode method_3_code 20 = .ok (.aload_n 0, 1) := by decide +kernel
theorem d10_21 : decode method_3_code 21 = .ok (.iconst 1, 1) := by decide +kernel
theorem d10_22 : decode method_3_code 22 = .ok (.laload, 1) := by decide +kernel
theorem d10_23 : decode method_3_code 23 = .ok (.lload_n 1, 1) := by decide +kernel
theorem d10_24 : decode method_3_code 24 = .ok (.lcmp, 1) := by decide +kernel
theorem d10_25 : decode method_3_code 25 = .ok (.ifCond .eq 16, 3) := by decide +kernel
theorem d10_28 : decode method_3_code 28 = .ok (.iload_n 3, 1) := by decide +kernel
theorem d10_29 : decode method_3_code 29 = .ok (.iconst 2, 1) := by decide +kernel
theorem d10_30 : decode method_3_code 30 = .ok (.if_icmp .le 15, 3) := by decide +kernel
theorem d10_33 : decode method_3_code 33 = .ok (.aload_n 0, 1) := by decide +kernel
theorem d10_34 : decode method_3_code 34 = .ok (.iconst 2, 1) := by decide +kernel
theorem d10_35 : decode method_3_code 35 = .ok (.laload, 1) := by decide +kernel
theorem d10_36 : decode method_3_code 36 = .ok (.lload_n 1, 1) := by decide +kernel
theorem d10_37 : decode method_3_code 37 = .ok (.lcmp, 1) := by decide +kernel
theorem d10_38 : decode method_3_code 38 = .ok (.ifCond .ne 7, 3) := by decide +kernel
theorem d10_41 : decode method_3_code 41 = .ok (.iconst 1, 1) := by decide +kernel
theorem d10_42 : decode method_3_code 42 = .ok (.goto 4, 3) := by decide +kernel
theorem d10_45 : decode method_3_code 45 = .ok (.iconst 0, 1) := by decide +kernel
theorem d10_46 : decode method_3_code 46 = .ok (.ireturn, 1) := by decide +kernel
theorem pn_10 : plainName "com/example/prudent_annotator/prudentannotator/profile/PairCountsKeysPinLaw" = true := by first | (simp [plainName, overriddenIn]; done) | decide +kernel
theorem ef_rm10 (m : MethodId) (x0 : Addr) (x1 : Int64) : entryFrame m #[(.ref x0), (.long x1)] 4 = mkF m 0 #[.val (.ref x0), .val (.long x1), .second, .unset] [] := by first | (simp [entryFrame, mkF, argsToLocals, Value.category]; done) | rfl
def Q10 (Z : State) (r0 : Addr) (q1 : Int64) (kb : ClassId) (xs : List Int64) (h0 : Heap) (n0 : Nat) (v : Option Value) (h : Heap) (L : List Loc) : Prop := v = some (.int 1) ∧ Fr n0 L ∧ h = h0
set_option maxRecDepth 65536 in
set_option maxHeartbeats 40000000 in
theorem rm10 (l : Launch) (Z : State) (a0 : Array Value) (hw : ∀ d ∈ tables_1, d.before a0 Z = true) (ws : List Jvm.Cond) (r0 : Addr) (q1 : Int64) (kb : ClassId) (xs : List Int64) (h0 : Heap) (n0 : Nat) (Z0 : n0 ≤ h0.size) (V1 : Arv Z h0 r0 kb .long (Int32.ofNat xs.length) (xs.map Value.long) (.long (0 : Int64))) (hx1 : q1 ∈ xs) (hl : xs.length ≤ 3) :
    MetFree l (⟨"com/example/prudent_annotator/prudentannotator/profile/PairCountsKeysPinLaw", "has", "([JJ)Z"⟩ : MethodName) (head1 (Jvm.Cond.code (⟨"com/example/prudent_annotator/prudentannotator/profile/PairCountsKeysPinLaw", "has", "([JJ)Z"⟩ : MethodName) method_3_code 4 (some .boolean) :: ws) ({ frames := 0, cells := 0, slots := 0, locals := 0 } : Room)) (fun a U => a = #[(.ref r0), (.long q1)] ∧ Z.Warmed39 U.vm ∧ U.heap = h0) (fun _ _ _ _ _ => True) (fun _ U o U' => ∃ v L, o = .returned v ∧ Q10 Z r0 q1 kb xs h0 n0 v U'.heap L ∧ FrameEnd U o U' L ({ frames := 0, cells := 0, slots := 0, locals := 0 } : Room).cells ({ frames := 0, cells := 0, slots := 0, locals := 0 } : Room).slots) := by
  refine MetFree.of_bodySF (plainFor_of_name pn_10) hisR ?_
  intro p e s m args below meth c s₁ Bd hml0 hP hK
  obtain ⟨rfl, hZ, hh⟩ := hP
  have hx := Bd.exec
  have hby := Bd.bytes
  have hml : c.maxLocals = 4 := hml0
  have hown : s.vm.findClass "com/example/prudent_annotator/prudentannotator/profile/PairCountsKeysPinLaw" = some m.cls := findClass_of_methodNamed Bd.named
  have hnm := (name_of_methodNamed Bd.named Bd.method).1
  have X0 : Stand p l e ({ frames := 0, cells := 0, slots := 0, locals := 0 } : Room) s m #[(.ref r0), (.long q1)] below meth c s₁ [] 0 0 := Stand.of_body Bd
  have e0 : s₁.heap = h0 := by rw [← hh, Bd.state]; rfl
  have N0 := Fr.nil n0
  refine own_open fun G hG => ?_
  refine own_go (B := s₁.setTop (mkF m 0 #[.val (.ref r0), .val (.long q1), .second, .unset] [])) (fun t_ k_ => castTop (ef_rm10 m r0 q1) k_) ?_
  refine own_go (B := s₁.setTop (mkF m 1 #[.val (.ref r0), .val (.long q1), .second, .unset] [(.ref r0)])) (fun t_ k_ => ?_) ?_
  · show Steps p.tables e below (s₁.setTop (mkF m 0 #[.val (.ref r0), .val (.long q1), .second, .unset] [])) _
    refine XS.aloadN X0.here hx rfl (hb hby d10_0) rfl rfl ?_
    show Steps p.tables e below (s₁.setTop (mkF m 1 #[.val (.ref r0), .val (.long q1), .second, .unset] [(.ref r0)])) _
    exact k_
  obtain ⟨cl125, Ar125, -, S125, M125, -, -⟩ := id V1
  refine own_go (B := s₁.setTop (mkF m 2 #[.val (.ref r0), .val (.long q1), .second, .unset] [(.int (Int32.ofNat xs.length))])) (fun t_ k_ => ?_) ?_
  · refine X0.arraylength hx (by rw [e0]; exact Ar125.1) (State.isArrayOf_alike hZ.alike Ar125.2.1) (g := (mkF m 1 #[.val (.ref r0), .val (.long q1), .second, .unset] [(.ref r0)])) rfl rfl (hb hby d10_1) _ ?_
    rw [len_of S125 M125]
    exact k_
  refine own_go (B := s₁.setTop (mkF m 9 #[.val (.ref r0), .val (.long q1), .second, .val (.int (Int32.ofNat xs.length))] [(.int (0 : Int32)), (.ref r0)])) (fun t_ k_ => ?_) ?_
  · show Steps p.tables e below (s₁.setTop (mkF m 2 #[.val (.ref r0), .val (.long q1), .second, .unset] [(.int (Int32.ofNat xs.length))])) _
    refine XS.istoreN X0.here hx rfl (hb hby d10_2) rfl (l' := #[.val (.ref r0), .val (.long q1), .second, .val (.int (Int32.ofNat xs.length))]) rfl ?_
    show Steps p.tables e below (s₁.setTop (mkF m 3 #[.val (.ref r0), .val (.long q1), .second, .val (.int (Int32.ofNat xs.length))] [])) _
    refine XS.iloadN X0.here hx rfl (hb hby d10_3) rfl ?_
    show Steps p.tables e below (s₁.setTop (mkF m 4 #[.val (.ref r0), .val (.long q1), .second, .val (.int (Int32.ofNat xs.length))] [(.int (Int32.ofNat xs.length))])) _
    refine XS.ifNo X0.here hx rfl (hb hby d10_4) rfl ((if0 _ _).trans (tlt (own_pos hx1 hl)).2.2.2) ?_
    show Steps p.tables e below (s₁.setTop (mkF m 7 #[.val (.ref r0), .val (.long q1), .second, .val (.int (Int32.ofNat xs.length))] [])) _
    refine XS.aloadN X0.here hx rfl (hb hby d10_7) rfl rfl ?_
    show Steps p.tables e below (s₁.setTop (mkF m 8 #[.val (.ref r0), .val (.long q1), .second, .val (.int (Int32.ofNat xs.length))] [(.ref r0)])) _
    refine XS.iconst X0.here hx rfl (hb hby d10_8) ?_
    show Steps p.tables e below (s₁.setTop (mkF m 9 #[.val (.ref r0), .val (.long q1), .second, .val (.int (Int32.ofNat xs.length))] [(.int (0 : Int32)), (.ref r0)])) _
    exact k_
  obtain ⟨cl126, Ar126, -, S126, M126, Hh126, -⟩ := id V1
  have hin126 : ¬ ((0 : Int32) < 0 ∨ cl126.slots.size ≤ ((0 : Int32)).toNatClampNeg) := inb_of S126 ⟨by decide, (own_pos hx1 hl)⟩
  have hat126 : cl126.slots[((0 : Int32)).toNatClampNeg]? = some (.long (xs.getD 0 0)) := Hh126.at hin126 (own_getl xs 0)
  refine own_go (B := s₁.setTop (mkF m 10 #[.val (.ref r0), .val (.long q1), .second, .val (.int (Int32.ofNat xs.length))] [(.long (xs.getD 0 0))])) (fun t_ k_ => X0.laload hx (j := (0 : Int32)) (v := (.long (xs.getD 0 0))) (by rw [e0]; exact Ar126.1) (State.isArrayOf_alike hZ.alike Ar126.2.1) Ar126.2.2 hin126 hat126 (g := (mkF m 9 #[.val (.ref r0), .val (.long q1), .second, .val (.int (Int32.ofNat xs.length))] [(.int (0 : Int32)), (.ref r0)])) rfl rfl (hb hby d10_9) _ k_) ?_
  refine own_go (B := s₁.setTop (mkF m 12 #[.val (.ref r0), .val (.long q1), .second, .val (.int (Int32.ofNat xs.length))] [(.int (lcmpW (xs.getD 0 0) q1))])) (fun t_ k_ => ?_) ?_
  · show Steps p.tables e below (s₁.setTop (mkF m 10 #[.val (.ref r0), .val (.long q1), .second, .val (.int (Int32.ofNat xs.length))] [(.long (xs.getD 0 0))])) _
    refine XS.lloadN X0.here hx rfl (hb hby d10_10) rfl ?_
    show Steps p.tables e below (s₁.setTop (mkF m 11 #[.val (.ref r0), .val (.long q1), .second, .val (.int (Int32.ofNat xs.length))] [(.long q1), (.long (xs.getD 0 0))])) _
    refine XS.lcmp X0.here hx rfl (hb hby d10_11) rfl ?_
    show Steps p.tables e below (s₁.setTop (mkF m 12 #[.val (.ref r0), .val (.long q1), .second, .val (.int (Int32.ofNat xs.length))] [(.int (lcmpW (xs.getD 0 0) q1))])) _
    exact k_
  by_cases hc12 : (xs.getD 0 0) = q1
  · refine own_go (B := s₁.setTop (mkF m 46 #[.val (.ref r0), .val (.long q1), .second, .val (.int (Int32.ofNat xs.length))] [(.int (1 : Int32))])) (fun t_ k_ => ?_) ?_
    · show Steps p.tables e below (s₁.setTop (mkF m 12 #[.val (.ref r0), .val (.long q1), .second, .val (.int (Int32.ofNat xs.length))] [(.int (lcmpW (xs.getD 0 0) q1))])) _
      refine XS.ifYes X0.here hx rfl (pc0 := 12) (pc' := 41) rfl (hb hby d10_12) rfl ((if0 _ _).trans (teq ((lw_eq _ _).mpr hc12)).1) (by decide) (by decide) ?_
      show Steps p.tables e below (s₁.setTop (mkF m 41 #[.val (.ref r0), .val (.long q1), .second, .val (.int (Int32.ofNat xs.length))] [])) _
      refine XS.iconst X0.here hx rfl (hb hby d10_41) ?_
      show Steps p.tables e below (s₁.setTop (mkF m 42 #[.val (.ref r0), .val (.long q1), .second, .val (.int (Int32.ofNat xs.length))] [(.int (1 : Int32))])) _
      refine XS.goto X0.here hx rfl (pc0 := 42) (pc' := 46) rfl (hb hby d10_42) (by decide) (by decide) ?_
      show Steps p.tables e below (s₁.setTop (mkF m 46 #[.val (.ref r0), .val (.long q1), .second, .val (.int (Int32.ofNat xs.length))] [(.int (1 : Int32))])) _
      exact k_
    obtain ⟨fs, hr, hrun, hended, hW, hsame⟩ := X0.leave (v := some (.int (1 : Int32))) (fun h => by rw [Bd.returns] at h; cases h)
    refine own_at ?_ (hG _ _ ⟨hrun, hended, _, _, rfl, ?_, ⟨_, rfl⟩, hW, hsame.mono (by decide) (by decide)⟩)
    · show Steps p.tables e below (s₁.setTop (mkF m 46 #[.val (.ref r0), .val (.long q1), .second, .val (.int (Int32.ofNat xs.length))] [(.int (1 : Int32))])) _
      exact retN X0 hx (t := .boolean) Bd.returns (by simp) (hb hby d10_46) hr
    · show Q10 Z r0 q1 kb xs h0 n0 _ s₁.heap _
      rw [e0]
      exact ⟨rfl, N0, rfl⟩
  · refine own_go (B := s₁.setTop (mkF m 17 #[.val (.ref r0), .val (.long q1), .second, .val (.int (Int32.ofNat xs.length))] [(.int (1 : Int32)), (.int (Int32.ofNat xs.length))])) (fun t_ k_ => ?_) ?_
    · show Steps p.tables e below (s₁.setTop (mkF m 12 #[.val (.ref r0), .val (.long q1), .second, .val (.int (Int32.ofNat xs.length))] [(.int (lcmpW (xs.getD 0 0) q1))])) _
      refine XS.ifNo X0.here hx rfl (hb hby d10_12) rfl ((if0 _ _).trans (feq (mt (lw_eq _ _).mp hc12)).1) ?_
      show Steps p.tables e below (s₁.setTop (mkF m 15 #[.val (.ref r0), .val (.long q1), .second, .val (.int (Int32.ofNat xs.length))] [])) _
      refine XS.iloadN X0.here hx rfl (hb hby d10_15) rfl ?_
      show Steps p.tables e below (s₁.setTop (mkF m 16 #[.val (.ref r0), .val (.long q1), .second, .val (.int (Int32.ofNat xs.length))] [(.int (Int32.ofNat xs.length))])) _
      refine XS.iconst X0.here hx rfl (hb hby d10_16) ?_
      show Steps p.tables e below (s₁.setTop (mkF m 17 #[.val (.ref r0), .val (.long q1), .second, .val (.int (Int32.ofNat xs.length))] [(.int (1 : Int32)), (.int (Int32.ofNat xs.length))])) _
      exact k_
    by_cases hc17 : (1 : Int32) < (Int32.ofNat xs.length)
    · refine own_go (B := s₁.setTop (mkF m 22 #[.val (.ref r0), .val (.long q1), .second, .val (.int (Int32.ofNat xs.length))] [(.int (1 : Int32)), (.ref r0)])) (fun t_ k_ => ?_) ?_
      · show Steps p.tables e below (s₁.setTop (mkF m 17 #[.val (.ref r0), .val (.long q1), .second, .val (.int (Int32.ofNat xs.length))] [(.int (1 : Int32)), (.int (Int32.ofNat xs.length))])) _
        refine XS.icmpNo X0.here hx rfl (hb hby d10_17) rfl (tlt hc17).2.2.2 ?_
        show Steps p.tables e below (s₁.setTop (mkF m 20 #[.val (.ref r0), .val (.long q1), .second, .val (.int (Int32.ofNat xs.length))] [])) _
        refine XS.aloadN X0.here hx rfl (hb hby d10_20) rfl rfl ?_
        show Steps p.tables e below (s₁.setTop (mkF m 21 #[.val (.ref r0), .val (.long q1), .second, .val (.int (Int32.ofNat xs.length))] [(.ref r0)])) _
        refine XS.iconst X0.here hx rfl (hb hby d10_21) ?_
        show Steps p.tables e below (s₁.setTop (mkF m 22 #[.val (.ref r0), .val (.long q1), .second, .val (.int (Int32.ofNat xs.length))] [(.int (1 : Int32)), (.ref r0)])) _
        exact k_
      obtain ⟨cl128, Ar128, -, S128, M128, Hh128, -⟩ := id V1
      have hin128 : ¬ ((1 : Int32) < 0 ∨ cl128.slots.size ≤ ((1 : Int32)).toNatClampNeg) := inb_of S128 ⟨by decide, hc17⟩
      have hat128 : cl128.slots[((1 : Int32)).toNatClampNeg]? = some (.long (xs.getD 1 0)) := Hh128.at hin128 (own_getl xs 1)
      refine own_go (B := s₁.setTop (mkF m 23 #[.val (.ref r0), .val (.long q1), .second, .val (.int (Int32.ofNat xs.length))] [(.long (xs.getD 1 0))])) (fun t_ k_ => X0.laload hx (j := (1 : Int32)) (v := (.long (xs.getD 1 0))) (by rw [e0]; exact Ar128.1) (State.isArrayOf_alike hZ.alike Ar128.2.1) Ar128.2.2 hin128 hat128 (g := (mkF m 22 #[.val (.ref r0), .val (.long q1), .second, .val (.int (Int32.ofNat xs.length))] [(.int (1 : Int32)), (.ref r0)])) rfl rfl (hb hby d10_22) _ k_) ?_
      refine own_go (B := s₁.setTop (mkF m 25 #[.val (.ref r0), .val (.long q1), .second, .val (.int (Int32.ofNat xs.length))] [(.int (lcmpW (xs.getD 1 0) q1))])) (fun t_ k_ => ?_) ?_
      · show Steps p.tables e below (s₁.setTop (mkF m 23 #[.val (.ref r0), .val (.long q1), .second, .val (.int (Int32.ofNat xs.length))] [(.long (xs.getD 1 0))])) _
        refine XS.lloadN X0.here hx rfl (hb hby d10_23) rfl ?_
        show Steps p.tables e below (s₁.setTop (mkF m 24 #[.val (.ref r0), .val (.long q1), .second, .val (.int (Int32.ofNat xs.length))] [(.long q1), (.long (xs.getD 1 0))])) _
        refine XS.lcmp X0.here hx rfl (hb hby d10_24) rfl ?_
        show Steps p.tables e below (s₁.setTop (mkF m 25 #[.val (.ref r0), .val (.long q1), .second, .val (.int (Int32.ofNat xs.length))] [(.int (lcmpW (xs.getD 1 0) q1))])) _
        exact k_
      by_cases hc25 : (xs.getD 1 0) = q1
      · refine own_go (B := s₁.setTop (mkF m 46 #[.val (.ref r0), .val (.long q1), .second, .val (.int (Int32.ofNat xs.length))] [(.int (1 : Int32))])) (fun t_ k_ => ?_) ?_
        · show Steps p.tables e below (s₁.setTop (mkF m 25 #[.val (.ref r0), .val (.long q1), .second, .val (.int (Int32.ofNat xs.length))] [(.int (lcmpW (xs.getD 1 0) q1))])) _
          refine XS.ifYes X0.here hx rfl (pc0 := 25) (pc' := 41) rfl (hb hby d10_25) rfl ((if0 _ _).trans (teq ((lw_eq _ _).mpr hc25)).1) (by decide) (by decide) ?_
          show Steps p.tables e below (s₁.setTop (mkF m 41 #[.val (.ref r0), .val (.long q1), .second, .val (.int (Int32.ofNat xs.length))] [])) _
          refine XS.iconst X0.here hx rfl (hb hby d10_41) ?_
          show Steps p.tables e below (s₁.setTop (mkF m 42 #[.val (.ref r0), .val (.long q1), .second, .val (.int (Int32.ofNat xs.length))] [(.int (1 : Int32))])) _
          refine XS.goto X0.here hx rfl (pc0 := 42) (pc' := 46) rfl (hb hby d10_42) (by decide) (by decide) ?_
          show Steps p.tables e below (s₁.setTop (mkF m 46 #[.val (.ref r0), .val (.long q1), .second, .val (.int (Int32.ofNat xs.length))] [(.int (1 : Int32))])) _
          exact k_
        obtain ⟨fs, hr, hrun, hended, hW, hsame⟩ := X0.leave (v := some (.int (1 : Int32))) (fun h => by rw [Bd.returns] at h; cases h)
        refine own_at ?_ (hG _ _ ⟨hrun, hended, _, _, rfl, ?_, ⟨_, rfl⟩, hW, hsame.mono (by decide) (by decide)⟩)
        · show Steps p.tables e below (s₁.setTop (mkF m 46 #[.val (.ref r0), .val (.long q1), .second, .val (.int (Int32.ofNat xs.length))] [(.int (1 : Int32))])) _
          exact retN X0 hx (t := .boolean) Bd.returns (by simp) (hb hby d10_46) hr
        · show Q10 Z r0 q1 kb xs h0 n0 _ s₁.heap _
          rw [e0]
          exact ⟨rfl, N0, rfl⟩
      · refine own_go (B := s₁.setTop (mkF m 30 #[.val (.ref r0), .val (.long q1), .second, .val (.int (Int32.ofNat xs.length))] [(.int (2 : Int32)), (.int (Int32.ofNat xs.length))])) (fun t_ k_ => ?_) ?_
        · show Steps p.tables e below (s₁.setTop (mkF m 25 #[.val (.ref r0), .val (.long q1), .second, .val (.int (Int32.ofNat xs.length))] [(.int (lcmpW (xs.getD 1 0) q1))])) _
          refine XS.ifNo X0.here hx rfl (hb hby d10_25) rfl ((if0 _ _).trans (feq (mt (lw_eq _ _).mp hc25)).1) ?_
          show Steps p.tables e below (s₁.setTop (mkF m 28 #[.val (.ref r0), .val (.long q1), .second, .val (.int (Int32.ofNat xs.length))] [])) _
          refine XS.iloadN X0.here hx rfl (hb hby d10_28) rfl ?_
          show Steps p.tables e below (s₁.setTop (mkF m 29 #[.val (.ref r0), .val (.long q1), .second, .val (.int (Int32.ofNat xs.length))] [(.int (Int32.ofNat xs.length))])) _
          refine XS.iconst X0.here hx rfl (hb hby d10_29) ?_
          show Steps p.tables e below (s₁.setTop (mkF m 30 #[.val (.ref r0), .val (.long q1), .second, .val (.int (Int32.ofNat xs.length))] [(.int (2 : Int32)), (.int (Int32.ofNat xs.length))])) _
          exact k_
        by_cases hc30 : (2 : Int32) < (Int32.ofNat xs.length)
        · refine own_go (B := s₁.setTop (mkF m 35 #[.val (.ref r0), .val (.long q1), .second, .val (.int (Int32.ofNat xs.length))] [(.int (2 : Int32)), (.ref r0)])) (fun t_ k_ => ?_) ?_
          · show Steps p.tables e below (s₁.setTop (mkF m 30 #[.val (.ref r0), .val (.long q1), .second, .val (.int (Int32.ofNat xs.length))] [(.int (2 : Int32)), (.int (Int32.ofNat xs.length))])) _
            refine XS.icmpNo X0.here hx rfl (hb hby d10_30) rfl (tlt hc30).2.2.2 ?_
            show Steps p.tables e below (s₁.setTop (mkF m 33 #[.val (.ref r0), .val (.long q1), .second, .val (.int (Int32.ofNat xs.length))] [])) _
            refine XS.aloadN X0.here hx rfl (hb hby d10_33) rfl rfl ?_
            show Steps p.tables e below (s₁.setTop (mkF m 34 #[.val (.ref r0), .val (.long q1), .second, .val (.int (Int32.ofNat xs.length))] [(.ref r0)])) _
            refine XS.iconst X0.here hx rfl (hb hby d10_34) ?_
            show Steps p.tables e below (s₁.setTop (mkF m 35 #[.val (.ref r0), .val (.long q1), .second, .val (.int (Int32.ofNat xs.length))] [(.int (2 : Int32)), (.ref r0)])) _
            exact k_
          obtain ⟨cl130, Ar130, -, S130, M130, Hh130, -⟩ := id V1
          have hin130 : ¬ ((2 : Int32) < 0 ∨ cl130.slots.size ≤ ((2 : Int32)).toNatClampNeg) := inb_of S130 ⟨by decide, hc30⟩
          have hat130 : cl130.slots[((2 : Int32)).toNatClampNeg]? = some (.long (xs.getD 2 0)) := Hh130.at hin130 (own_getl xs 2)
          refine own_go (B := s₁.setTop (mkF m 36 #[.val (.ref r0), .val (.long q1), .second, .val (.int (Int32.ofNat xs.length))] [(.long (xs.getD 2 0))])) (fun t_ k_ => X0.laload hx (j := (2 : Int32)) (v := (.long (xs.getD 2 0))) (by rw [e0]; exact Ar130.1) (State.isArrayOf_alike hZ.alike Ar130.2.1) Ar130.2.2 hin130 hat130 (g := (mkF m 35 #[.val (.ref r0), .val (.long q1), .second, .val (.int (Int32.ofNat xs.length))] [(.int (2 : Int32)), (.ref r0)])) rfl rfl (hb hby d10_35) _ k_) ?_
          refine own_go (B := s₁.setTop (mkF m 38 #[.val (.ref r0), .val (.long q1), .second, .val (.int (Int32.ofNat xs.length))] [(.int (lcmpW (xs.getD 2 0) q1))])) (fun t_ k_ => ?_) ?_
          · show Steps p.tables e below (s₁.setTop (mkF m 36 #[.val (.ref r0), .val (.long q1), .second, .val (.int (Int32.ofNat xs.length))] [(.long (xs.getD 2 0))])) _
            refine XS.lloadN X0.here hx rfl (hb hby d10_36) rfl ?_
            show Steps p.tables e below (s₁.setTop (mkF m 37 #[.val (.ref r0), .val (.long q1), .second, .val (.int (Int32.ofNat xs.length))] [(.long q1), (.long (xs.getD 2 0))])) _
            refine XS.lcmp X0.here hx rfl (hb hby d10_37) rfl ?_
            show Steps p.tables e below (s₁.setTop (mkF m 38 #[.val (.ref r0), .val (.long q1), .second, .val (.int (Int32.ofNat xs.length))] [(.int (lcmpW (xs.getD 2 0) q1))])) _
            exact k_
          by_cases hc38 : (xs.getD 2 0) = q1
          · refine own_go (B := s₁.setTop (mkF m 46 #[.val (.ref r0), .val (.long q1), .second, .val (.int (Int32.ofNat xs.length))] [(.int (1 : Int32))])) (fun t_ k_ => ?_) ?_
            · show Steps p.tables e below (s₁.setTop (mkF m 38 #[.val (.ref r0), .val (.long q1), .second, .val (.int (Int32.ofNat xs.length))] [(.int (lcmpW (xs.getD 2 0) q1))])) _
              refine XS.ifNo X0.here hx rfl (hb hby d10_38) rfl ((if0 _ _).trans (teq ((lw_eq _ _).mpr hc38)).2) ?_
              show Steps p.tables e below (s₁.setTop (mkF m 41 #[.val (.ref r0), .val (.long q1), .second, .val (.int (Int32.ofNat xs.length))] [])) _
              refine XS.iconst X0.here hx rfl (hb hby d10_41) ?_
              show Steps p.tables e below (s₁.setTop (mkF m 42 #[.val (.ref r0), .val (.long q1), .second, .val (.int (Int32.ofNat xs.length))] [(.int (1 : Int32))])) _
              refine XS.goto X0.here hx rfl (pc0 := 42) (pc' := 46) rfl (hb hby d10_42) (by decide) (by decide) ?_
              show Steps p.tables e below (s₁.setTop (mkF m 46 #[.val (.ref r0), .val (.long q1), .second, .val (.int (Int32.ofNat xs.length))] [(.int (1 : Int32))])) _
              exact k_
            obtain ⟨fs, hr, hrun, hended, hW, hsame⟩ := X0.leave (v := some (.int (1 : Int32))) (fun h => by rw [Bd.returns] at h; cases h)
            refine own_at ?_ (hG _ _ ⟨hrun, hended, _, _, rfl, ?_, ⟨_, rfl⟩, hW, hsame.mono (by decide) (by decide)⟩)
            · show Steps p.tables e below (s₁.setTop (mkF m 46 #[.val (.ref r0), .val (.long q1), .second, .val (.int (Int32.ofNat xs.length))] [(.int (1 : Int32))])) _
              exact retN X0 hx (t := .boolean) Bd.returns (by simp) (hb hby d10_46) hr
            · show Q10 Z r0 q1 kb xs h0 n0 _ s₁.heap _
              rw [e0]
              exact ⟨rfl, N0, rfl⟩
          · exact (own_len3 hx1 hl hc12 (fun _ => hc25) (fun _ => hc38)).elim
        · exact (own_len3 hx1 hl hc12 (fun _ => hc25) (fun q => absurd q hc30)).elim
    · exact (own_len3 hx1 hl hc12 (fun q => absurd q hc17) (fun q => absurd q (own_12 hl hc17))).elim
theorem own_l01 {m : Int32} (h : ¬ (0 : Int32) < m) : ¬ (1 : Int32) < m := by
  intro q
  apply h
  rw [Int32.lt_iff_toInt_lt] at q ⊢
  have a : (0 : Int32).toInt = 0 := by decide
  have b : (1 : Int32).toInt = 1 := by decide
  omega
theorem own_l12 {m : Int32} (h : ¬ (1 : Int32) < m) : ¬ (2 : Int32) < m := by
  intro q
  apply h
  rw [Int32.lt_iff_toInt_lt] at q ⊢
  have a : (2 : Int32).toInt = 2 := by decide
  have b : (1 : Int32).toInt = 1 := by decide
  omega
theorem pn_0 : plainName "com/example/prudent_annotator/prudentannotator/profile/PairCountsKeysPinLaw" = true := by first | (simp [plainName, overriddenIn]; done) | decide +kernel
theorem ef_rm0 (m : MethodId) (x0 : Int64) (x1 : Int64) (x2 : Int64) (x3 : Int32) : entryFrame m #[(.long x0), (.long x1), (.long x2), (.int x3)] maxLocals = mkF m 0 #[.val (.long x0), .second, .val (.long x1), .second, .val (.long x2), .second, .val (.int x3), .unset, .unset, .unset, .unset, .unset, .unset, .unset, .unset, .unset, .unset] [] := by first | (simp [entryFrame, mkF, argsToLocals, Value.category, maxLocals]; done) | rfl
def Q0 (Z : State) (q0 : Int64) (q1 : Int64) (q2 : Int64) (p3 : Int32) (h0 : Heap) (n0 : Nat) (v : Option Value) (h : Heap) (L : List Loc) : Prop := v = some (.int 1) ∧ Fr n0 L
set_option maxRecDepth 65536 in
set_option maxHeartbeats 40000000 in
theorem rm0 (l : Launch) (Z : State) (a0 : Array Value) (hw : ∀ d ∈ tables_1, d.before a0 Z = true) (ws : List Jvm.Cond) (q0 : Int64) (q1 : Int64) (q2 : Int64) (p3 : Int32) (h0 : Heap) (n0 : Nat) (Z0 : n0 ≤ h0.size) :
    MetFree l x (head1 (Jvm.Cond.code x code maxLocals ret :: ws) room_1) (fun a U => a = #[(.long q0), (.long q1), (.long q2), (.int p3)] ∧ Z.Warmed39 U.vm ∧ U.heap = h0) (fun _ _ _ _ _ => True) (fun _ U o U' => ∃ v L, o = .returned v ∧ Q0 Z q0 q1 q2 p3 h0 n0 v U'.heap L ∧ FrameEnd U o U' L room_1.cells room_1.slots) := by
  refine MetFree.of_bodySF (plainFor_of_name pn_0) hisR ?_
  intro p e s m args below meth c s₁ Bd hml0 hP hK
  obtain ⟨rfl, hZ, hh⟩ := hP
  have hx := Bd.exec
  have hby := Bd.bytes
  have hml : c.maxLocals = 17 := hml0
  have hown : s.vm.findClass "com/example/prudent_annotator/prudentannotator/profile/PairCountsKeysPinLaw" = some m.cls := findClass_of_methodNamed Bd.named
  have hnm := (name_of_methodNamed Bd.named Bd.method).1
  have X0 : Stand p l e room_1 s m #[(.long q0), (.long q1), (.long q2), (.int p3)] below meth c s₁ [] 0 0 := Stand.of_body Bd
  have e0 : s₁.heap = h0 := by rw [← hh, Bd.state]; rfl
  have N0 := Fr.nil n0
  refine own_open fun G hG => ?_
  refine own_go (B := s₁.setTop (mkF m 0 #[.val (.long q0), .second, .val (.long q1), .second, .val (.long q2), .second, .val (.int p3), .unset, .unset, .unset, .unset, .unset, .unset, .unset, .unset, .unset, .unset] [])) (fun t_ k_ => castTop (ef_rm0 m q0 q1 q2 p3) k_) ?_
  have K61 : ∀ (TK : State) (LK : List Loc) (m3 : Int32) (k0 k1 k2 : Int64), Stand p l e room_1 s m #[(.long q0), (.long q1), (.long q2), (.int p3)] below meth c TK LK 0 0 → TK.heap = h0 → Fr n0 LK → k0 ≠ -1 → k1 ≠ -1 → k2 ≠ -1 → own_R p.tables e below G (TK.setTop (mkF m 61 #[.val (.long q0), .second, .val (.long q1), .second, .val (.long q2), .second, .val (.int p3), .val (.int m3), .val (.long k0), .second, .val (.long k1), .second, .unset, .unset, .unset, .unset, .unset] [(.long k2)])) := by
    intro TK LK m3 k0 k1 k2 XK eK NK hk0 hk1 hk2
    refine own_go (B := TK.setTop (mkF m 63 #[.val (.long q0), .second, .val (.long q1), .second, .val (.long q2), .second, .val (.int p3), .val (.int m3), .val (.long k0), .second, .val (.long k1), .second, .val (.long k2), .second, .unset, .unset, .unset] [])) (fun t_ k_ => ?_) ?_
    · show Steps p.tables e below (TK.setTop (mkF m 61 #[.val (.long q0), .second, .val (.long q1), .second, .val (.long q2), .second, .val (.int p3), .val (.int m3), .val (.long k0), .second, .val (.long k1), .second, .unset, .unset, .unset, .unset, .unset] [(.long k2)])) _
      refine XS.lstore XK.here hx rfl (hb hby at_61) rfl (l' := #[.val (.long q0), .second, .val (.long q1), .second, .val (.long q2), .second, .val (.int p3), .val (.int m3), .val (.long k0), .second, .val (.long k1), .second, .val (.long k2), .second, .unset, .unset, .unset]) rfl ?_
      show Steps p.tables e below (TK.setTop (mkF m 63 #[.val (.long q0), .second, .val (.long q1), .second, .val (.long q2), .second, .val (.int p3), .val (.int m3), .val (.long k0), .second, .val (.long k1), .second, .val (.long k2), .second, .unset, .unset, .unset] [])) _
      exact k_
    obtain ⟨T132, h132, X132, e132, E132, A132, D132, U132, st132⟩ := newO XK hx hZ hown (hw _ (List.mem_of_getElem? (i := 5) rfl)) (hw _ (List.mem_of_getElem? (i := 6) rfl)) (hw _ (List.mem_of_getElem? (i := 7) rfl)) eK (g := (mkF m 63 #[.val (.long q0), .second, .val (.long q1), .second, .val (.long q2), .second, .val (.int p3), .val (.int m3), .val (.long k0), .second, .val (.long k1), .second, .val (.long k2), .second, .unset, .unset, .unset] [])) rfl (hb hby at_63) (by decide) (by decide)
    obtain ⟨b132, g132⟩ : ∃ z, z = h0.size := ⟨_, rfl⟩
    rw [← g132] at A132 D132 U132 st132
    have g_b132 : n0 ≤ b132 := Nat.le_trans Z0 (Nat.le_of_eq g132.symm)
    have Z132 : n0 ≤ h132.size := Nat.le_trans Z0 E132.1
    have f133 : Fld Z h132 b132 "com/example/prudent_annotator/prudentannotator/profile/PairCounts" "keys" "[J" .null := D132 (Or.inl (hw _ (List.mem_of_getElem? (i := 24) rfl))) (ty := (.array .long)) (by decide)
    have f134 : Fld Z h132 b132 "com/example/prudent_annotator/prudentannotator/profile/PairCounts" "counts" "[I" .null := D132 (Or.inl (hw _ (List.mem_of_getElem? (i := 27) rfl))) (ty := (.array .int)) (by decide)
    have f135 : Fld Z h132 b132 "com/example/prudent_annotator/prudentannotator/profile/PairCounts" "size" "I" (.int (0 : Int32)) := D132 (Or.inl (hw _ (List.mem_of_getElem? (i := 43) rfl))) (ty := .int) (by decide)
    refine own_go (B := T132.setTop (mkF m 66 #[.val (.long q0), .second, .val (.long q1), .second, .val (.long q2), .second, .val (.int p3), .val (.int m3), .val (.long k0), .second, .val (.long k1), .second, .val (.long k2), .second, .unset, .unset, .unset] [(.ref b132)])) (fun t_ k_ => st132 _ k_) ?_
    refine own_go (B := T132.setTop (mkF m 67 #[.val (.long q0), .second, .val (.long q1), .second, .val (.long q2), .second, .val (.int p3), .val (.int m3), .val (.long k0), .second, .val (.long k1), .second, .val (.long k2), .second, .unset, .unset, .unset] [(.ref b132), (.ref b132)])) (fun t_ k_ => ?_) ?_
    · show Steps p.tables e below (T132.setTop (mkF m 66 #[.val (.long q0), .second, .val (.long q1), .second, .val (.long q2), .second, .val (.int p3), .val (.int m3), .val (.long k0), .second, .val (.long k1), .second, .val (.long k2), .second, .unset, .unset, .unset] [(.ref b132)])) _
      refine XS.dup X132.here hx rfl (hb hby at_66) rfl rfl ?_
      show Steps p.tables e below (T132.setTop (mkF m 67 #[.val (.long q0), .second, .val (.long q1), .second, .val (.long q2), .second, .val (.int p3), .val (.int m3), .val (.long k0), .second, .val (.long k1), .second, .val (.long k2), .second, .unset, .unset, .unset] [(.ref b132), (.ref b132)])) _
      exact k_
    obtain ⟨vv136, _, ⟨T136, L136, k136, n136⟩, -, X136, ⟨Lc136, hQ136, l136, y136, z136⟩, st136⟩ := X132.specialBack hx (y := (⟨"com/example/prudent_annotator/prudentannotator/profile/PairCounts", "<init>", "()V"⟩ : MethodName)) rfl hown (mvT hZ (hw _ (List.mem_of_getElem? (i := 8) rfl))) (mvT hZ (hw _ (List.mem_of_getElem? (i := 9) rfl))) (mvT hZ (hw _ (List.mem_of_getElem? (i := 10) rfl))) (by decide) (backOf (W := 1) (rm2 l Z a0 hw [] b132 h132 n0 Z132 f133 f134 f135 A132 g_b132) hZ (hw _ (List.mem_of_getElem? (i := 10) rfl)) (hw _ (List.mem_of_getElem? (i := 7) rfl)) (by decide) (by decide)) (g := (mkF m 67 #[.val (.long q0), .second, .val (.long q1), .second, .val (.long q2), .second, .val (.int p3), .val (.int m3), .val (.long k0), .second, .val (.long k1), .second, .val (.long k2), .second, .unset, .unset, .unset] [(.ref b132), (.ref b132)])) rfl (by rw [hml]; rfl) (Steps.refl _) (a := b132) (argsL := []) (rest := [(.ref b132)]) (lenOf pd__28__29_V rfl) rfl (by show 2 * 0 + _ ≤ _; exact Nat.le_of_eq rfl) (hb hby at_67) (fun _ _ => ⟨rfl, e132, (by decide : 1 + 2 ≤ _), (by decide : 3 + 2048 ≤ _)⟩)
    dsimp only [Pt.U, Pt.locs, Pt.cells, Pt.slots] at X136 l136 y136 z136 st136 hQ136
    subst l136 y136 z136
    obtain ⟨bk136, bc136, rfl, N136q, K136, g_bk136, g_bc136, s1136, s2136, ne_bk136_bc136, ne_b132_bk136, ne_b132_bc136, u1136, u2136, u3136, u4136, u5136⟩ := hQ136
    have N136 := Fr.app NK N136q
    have f137 : Exa Z T136.heap b132 "com/example/prudent_annotator/prudentannotator/profile/PairCounts" := A132.keep K136
    have Z136 : n0 ≤ T136.heap.size := Nat.le_trans Z132 K136.1
    refine own_go (B := T136.setTop (mkF m 70 #[.val (.long q0), .second, .val (.long q1), .second, .val (.long q2), .second, .val (.int p3), .val (.int m3), .val (.long k0), .second, .val (.long k1), .second, .val (.long k2), .second, .unset, .unset, .unset] [(.ref b132)])) (fun t_ k_ => st136.trans k_) ?_
    refine own_go (B := T136.setTop (mkF m 74 #[.val (.long q0), .second, .val (.long q1), .second, .val (.long q2), .second, .val (.int p3), .val (.int m3), .val (.long k0), .second, .val (.long k1), .second, .val (.long k2), .second, .val (.ref b132), .unset, .unset] [(.int m3)])) (fun t_ k_ => ?_) ?_
    · show Steps p.tables e below (T136.setTop (mkF m 70 #[.val (.long q0), .second, .val (.long q1), .second, .val (.long q2), .second, .val (.int p3), .val (.int m3), .val (.long k0), .second, .val (.long k1), .second, .val (.long k2), .second, .unset, .unset, .unset] [(.ref b132)])) _
      refine XS.astore X136.here hx rfl (hb hby at_70) rfl rfl (l' := #[.val (.long q0), .second, .val (.long q1), .second, .val (.long q2), .second, .val (.int p3), .val (.int m3), .val (.long k0), .second, .val (.long k1), .second, .val (.long k2), .second, .val (.ref b132), .unset, .unset]) rfl ?_
      show Steps p.tables e below (T136.setTop (mkF m 72 #[.val (.long q0), .second, .val (.long q1), .second, .val (.long q2), .second, .val (.int p3), .val (.int m3), .val (.long k0), .second, .val (.long k1), .second, .val (.long k2), .second, .val (.ref b132), .unset, .unset] [])) _
      refine XS.iload X136.here hx rfl (hb hby at_72) rfl ?_
      show Steps p.tables e below (T136.setTop (mkF m 74 #[.val (.long q0), .second, .val (.long q1), .second, .val (.long q2), .second, .val (.int p3), .val (.int m3), .val (.long k0), .second, .val (.long k1), .second, .val (.long k2), .second, .val (.ref b132), .unset, .unset] [(.int m3)])) _
      exact k_
    by_cases b0 : (0 : Int32) < m3
    · refine own_go (B := T136.setTop (mkF m 81 #[.val (.long q0), .second, .val (.long q1), .second, .val (.long q2), .second, .val (.int p3), .val (.int m3), .val (.long k0), .second, .val (.long k1), .second, .val (.long k2), .second, .val (.ref b132), .unset, .unset] [(.long k0), (.ref b132)])) (fun t_ k_ => ?_) ?_
      · show Steps p.tables e below (T136.setTop (mkF m 74 #[.val (.long q0), .second, .val (.long q1), .second, .val (.long q2), .second, .val (.int p3), .val (.int m3), .val (.long k0), .second, .val (.long k1), .second, .val (.long k2), .second, .val (.ref b132), .unset, .unset] [(.int m3)])) _
        refine XS.ifNo X136.here hx rfl (hb hby at_74) rfl ((if0 _ _).trans (tlt b0).2.2.2) ?_
        show Steps p.tables e below (T136.setTop (mkF m 77 #[.val (.long q0), .second, .val (.long q1), .second, .val (.long q2), .second, .val (.int p3), .val (.int m3), .val (.long k0), .second, .val (.long k1), .second, .val (.long k2), .second, .val (.ref b132), .unset, .unset] [])) _
        refine XS.aload X136.here hx rfl (hb hby at_77) rfl rfl ?_
        show Steps p.tables e below (T136.setTop (mkF m 79 #[.val (.long q0), .second, .val (.long q1), .second, .val (.long q2), .second, .val (.int p3), .val (.int m3), .val (.long k0), .second, .val (.long k1), .second, .val (.long k2), .second, .val (.ref b132), .unset, .unset] [(.ref b132)])) _
        refine XS.lload X136.here hx rfl (hb hby at_79) rfl ?_
        show Steps p.tables e below (T136.setTop (mkF m 81 #[.val (.long q0), .second, .val (.long q1), .second, .val (.long q2), .second, .val (.int p3), .val (.int m3), .val (.long k0), .second, .val (.long k1), .second, .val (.long k2), .second, .val (.ref b132), .unset, .unset] [(.long k0), (.ref b132)])) _
        exact k_
      obtain ⟨cq138, kq138, q138a, q138b, q138c⟩ := isOf hZ rfl f137
      obtain ⟨vv138, _, ⟨T138, L138, k138, n138⟩, -, X138, ⟨Lc138, hQ138, l138, y138, z138⟩, st138⟩ := X136.virtualBack hx (y := (⟨"com/example/prudent_annotator/prudentannotator/profile/PairCounts", "increment", "(J)V"⟩ : MethodName)) (z := (⟨"com/example/prudent_annotator/prudentannotator/profile/PairCounts", "increment", "(J)V"⟩ : MethodName)) hown (mvT hZ (hw _ (List.mem_of_getElem? (i := 28) rfl))) (mvT hZ (hw _ (List.mem_of_getElem? (i := 29) rfl))) (notFace_of_selects (args := #[]) (mvT hZ (hw _ (List.mem_of_getElem? (i := 31) rfl)))) (mvT hZ (hw _ (List.mem_of_getElem? (i := 31) rfl))) (mvT hZ (hw _ (List.mem_of_getElem? (i := 30) rfl))) (by decide) (backOf (W := 0) (rm6 l Z a0 hw [] b132 k0 bk136 bc136 (fun _ => -1) 0 (fun _ => 0) 0 T136.heap n0 Z136 u1136 u2136 u3136 u4136 u5136 f137 g_b132 g_bk136 g_bc136 ne_bk136_bc136 ne_b132_bk136 ne_b132_bc136 own_ok0 (by decide) hk0 (by decide) (fun j hj => ⟨by decide, by decide⟩)) hZ (hw _ (List.mem_of_getElem? (i := 32) rfl)) (hw _ (List.mem_of_getElem? (i := 7) rfl)) (by decide) (by decide)) q138a q138c (g := (mkF m 81 #[.val (.long q0), .second, .val (.long q1), .second, .val (.long q2), .second, .val (.int p3), .val (.int m3), .val (.long k0), .second, .val (.long k1), .second, .val (.long k2), .second, .val (.ref b132), .unset, .unset] [(.long k0), (.ref b132)])) rfl (by rw [hml]; rfl) (Steps.refl _) (argsL := [(.long k0)]) (rest := []) (lenOf pd__28_J_29_V rfl) rfl (by show 2 * 0 + _ ≤ _; exact Nat.le_of_eq rfl) (hb hby at_81) (fun _ _ => ⟨rfl, rfl, (by decide : 3 + 0 ≤ _), (by decide : 2051 + 0 ≤ _)⟩)
      dsimp only [Pt.U, Pt.locs, Pt.cells, Pt.slots] at X138 l138 y138 z138 st138 hQ138
      subst l138 y138 z138
      obtain ⟨rfl, N138q, K138, f138x, n138x, g138x, u1138, u2138, u3138, u4138, u5138, ok138, mem138, old138, new138, bd138⟩ := hQ138
      have N138 := Fr.app N136 N138q
      have f139 : Exa Z T138.heap b132 "com/example/prudent_annotator/prudentannotator/profile/PairCounts" := f137.keep K138
      have Z138 : n0 ≤ T138.heap.size := Nat.le_trans Z136 K138.1
      refine own_go (B := T138.setTop (mkF m 84 #[.val (.long q0), .second, .val (.long q1), .second, .val (.long q2), .second, .val (.int p3), .val (.int m3), .val (.long k0), .second, .val (.long k1), .second, .val (.long k2), .second, .val (.ref b132), .unset, .unset] [])) (fun t_ k_ => st138.trans k_) ?_
      have hs1 : n138x = 1 := new138 (own_mem0 k0 hk0)
      have hle1 : n138x ≤ 2 := by omega
      have me0_1 : own_mem f138x k0 := (mem138 k0 hk0).mpr (Or.inr rfl)
      have on_1 : ∀ x, x ≠ -1 → own_mem f138x x → x = k0 := fun x hx q => ((mem138 x hx).mp q).resolve_left (own_mem0 x hx)
      refine own_go (B := T138.setTop (mkF m 87 #[.val (.long q0), .second, .val (.long q1), .second, .val (.long q2), .second, .val (.int p3), .val (.int m3), .val (.long k0), .second, .val (.long k1), .second, .val (.long k2), .second, .val (.ref b132), .unset, .unset] [(.int (1 : Int32)), (.int m3)])) (fun t_ k_ => ?_) ?_
      · show Steps p.tables e below (T138.setTop (mkF m 84 #[.val (.long q0), .second, .val (.long q1), .second, .val (.long q2), .second, .val (.int p3), .val (.int m3), .val (.long k0), .second, .val (.long k1), .second, .val (.long k2), .second, .val (.ref b132), .unset, .unset] [])) _
        refine XS.iload X138.here hx rfl (hb hby at_84) rfl ?_
        show Steps p.tables e below (T138.setTop (mkF m 86 #[.val (.long q0), .second, .val (.long q1), .second, .val (.long q2), .second, .val (.int p3), .val (.int m3), .val (.long k0), .second, .val (.long k1), .second, .val (.long k2), .second, .val (.ref b132), .unset, .unset] [(.int m3)])) _
        refine XS.iconst X138.here hx rfl (hb hby at_86) ?_
        show Steps p.tables e below (T138.setTop (mkF m 87 #[.val (.long q0), .second, .val (.long q1), .second, .val (.long q2), .second, .val (.int p3), .val (.int m3), .val (.long k0), .second, .val (.long k1), .second, .val (.long k2), .second, .val (.ref b132), .unset, .unset] [(.int (1 : Int32)), (.int m3)])) _
        exact k_
      by_cases b1 : (1 : Int32) < m3
      · refine own_go (B := T138.setTop (mkF m 94 #[.val (.long q0), .second, .val (.long q1), .second, .val (.long q2), .second, .val (.int p3), .val (.int m3), .val (.long k0), .second, .val (.long k1), .second, .val (.long k2), .second, .val (.ref b132), .unset, .unset] [(.long k1), (.ref b132)])) (fun t_ k_ => ?_) ?_
        · show Steps p.tables e below (T138.setTop (mkF m 87 #[.val (.long q0), .second, .val (.long q1), .second, .val (.long q2), .second, .val (.int p3), .val (.int m3), .val (.long k0), .second, .val (.long k1), .second, .val (.long k2), .second, .val (.ref b132), .unset, .unset] [(.int (1 : Int32)), (.int m3)])) _
          refine XS.icmpNo X138.here hx rfl (hb hby at_87) rfl (tlt b1).2.2.2 ?_
          show Steps p.tables e below (T138.setTop (mkF m 90 #[.val (.long q0), .second, .val (.long q1), .second, .val (.long q2), .second, .val (.int p3), .val (.int m3), .val (.long k0), .second, .val (.long k1), .second, .val (.long k2), .second, .val (.ref b132), .unset, .unset] [])) _
          refine XS.aload X138.here hx rfl (hb hby at_90) rfl rfl ?_
          show Steps p.tables e below (T138.setTop (mkF m 92 #[.val (.long q0), .second, .val (.long q1), .second, .val (.long q2), .second, .val (.int p3), .val (.int m3), .val (.long k0), .second, .val (.long k1), .second, .val (.long k2), .second, .val (.ref b132), .unset, .unset] [(.ref b132)])) _
          refine XS.lload X138.here hx rfl (hb hby at_92) rfl ?_
          show Steps p.tables e below (T138.setTop (mkF m 94 #[.val (.long q0), .second, .val (.long q1), .second, .val (.long q2), .second, .val (.int p3), .val (.int m3), .val (.long k0), .second, .val (.long k1), .second, .val (.long k2), .second, .val (.ref b132), .unset, .unset] [(.long k1), (.ref b132)])) _
          exact k_
        obtain ⟨cq140, kq140, q140a, q140b, q140c⟩ := isOf hZ rfl f139
        obtain ⟨vv140, _, ⟨T140, L140, k140, n140⟩, -, X140, ⟨Lc140, hQ140, l140, y140, z140⟩, st140⟩ := X138.virtualBack hx (y := (⟨"com/example/prudent_annotator/prudentannotator/profile/PairCounts", "increment", "(J)V"⟩ : MethodName)) (z := (⟨"com/example/prudent_annotator/prudentannotator/profile/PairCounts", "increment", "(J)V"⟩ : MethodName)) hown (mvT hZ (hw _ (List.mem_of_getElem? (i := 28) rfl))) (mvT hZ (hw _ (List.mem_of_getElem? (i := 29) rfl))) (notFace_of_selects (args := #[]) (mvT hZ (hw _ (List.mem_of_getElem? (i := 31) rfl)))) (mvT hZ (hw _ (List.mem_of_getElem? (i := 31) rfl))) (mvT hZ (hw _ (List.mem_of_getElem? (i := 30) rfl))) (by decide) (backOf (W := 0) (rm6 l Z a0 hw [] b132 k1 bk136 bc136 f138x n138x g138x 1 T138.heap n0 Z138 u1138 u2138 u3138 u4138 u5138 f139 g_b132 g_bk136 g_bc136 ne_bk136_bc136 ne_b132_bk136 ne_b132_bc136 ok138 hle1 hk1 (by decide) bd138) hZ (hw _ (List.mem_of_getElem? (i := 32) rfl)) (hw _ (List.mem_of_getElem? (i := 7) rfl)) (by decide) (by decide)) q140a q140c (g := (mkF m 94 #[.val (.long q0), .second, .val (.long q1), .second, .val (.long q2), .second, .val (.int p3), .val (.int m3), .val (.long k0), .second, .val (.long k1), .second, .val (.long k2), .second, .val (.ref b132), .unset, .unset] [(.long k1), (.ref b132)])) rfl (by rw [hml]; rfl) (Steps.refl _) (argsL := [(.long k1)]) (rest := []) (lenOf pd__28_J_29_V rfl) rfl (by show 2 * 0 + _ ≤ _; exact Nat.le_of_eq rfl) (hb hby at_94) (fun _ _ => ⟨rfl, rfl, (by decide : 3 + 0 ≤ _), (by decide : 2051 + 0 ≤ _)⟩)
        dsimp only [Pt.U, Pt.locs, Pt.cells, Pt.slots] at X140 l140 y140 z140 st140 hQ140
        subst l140 y140 z140
        obtain ⟨rfl, N140q, K140, f140x, n140x, g140x, u1140, u2140, u3140, u4140, u5140, ok140, mem140, old140, new140, bd140⟩ := hQ140
        have N140 := Fr.app N138 N140q
        have f141 : Exa Z T140.heap b132 "com/example/prudent_annotator/prudentannotator/profile/PairCounts" := f139.keep K140
        have Z140 : n0 ≤ T140.heap.size := Nat.le_trans Z138 K140.1
        refine own_go (B := T140.setTop (mkF m 97 #[.val (.long q0), .second, .val (.long q1), .second, .val (.long q2), .second, .val (.int p3), .val (.int m3), .val (.long k0), .second, .val (.long k1), .second, .val (.long k2), .second, .val (.ref b132), .unset, .unset] [])) (fun t_ k_ => st140.trans k_) ?_
        have hle2 : n140x ≤ 2 := own_cas old140 new140 (by omega) (by omega)
        have me0_2 : own_mem f140x k0 := (mem140 k0 hk0).mpr (Or.inl me0_1)
        have me1_2 : own_mem f140x k1 := (mem140 k1 hk1).mpr (Or.inr rfl)
        have on_2 : ∀ x, x ≠ -1 → own_mem f140x x → x = k0 ∨ x = k1 := fun x hx q => ((mem140 x hx).mp q).imp_left (on_1 x hx)
        refine own_go (B := T140.setTop (mkF m 100 #[.val (.long q0), .second, .val (.long q1), .second, .val (.long q2), .second, .val (.int p3), .val (.int m3), .val (.long k0), .second, .val (.long k1), .second, .val (.long k2), .second, .val (.ref b132), .unset, .unset] [(.int (2 : Int32)), (.int m3)])) (fun t_ k_ => ?_) ?_
        · show Steps p.tables e below (T140.setTop (mkF m 97 #[.val (.long q0), .second, .val (.long q1), .second, .val (.long q2), .second, .val (.int p3), .val (.int m3), .val (.long k0), .second, .val (.long k1), .second, .val (.long k2), .second, .val (.ref b132), .unset, .unset] [])) _
          refine XS.iload X140.here hx rfl (hb hby at_97) rfl ?_
          show Steps p.tables e below (T140.setTop (mkF m 99 #[.val (.long q0), .second, .val (.long q1), .second, .val (.long q2), .second, .val (.int p3), .val (.int m3), .val (.long k0), .second, .val (.long k1), .second, .val (.long k2), .second, .val (.ref b132), .unset, .unset] [(.int m3)])) _
          refine XS.iconst X140.here hx rfl (hb hby at_99) ?_
          show Steps p.tables e below (T140.setTop (mkF m 100 #[.val (.long q0), .second, .val (.long q1), .second, .val (.long q2), .second, .val (.int p3), .val (.int m3), .val (.long k0), .second, .val (.long k1), .second, .val (.long k2), .second, .val (.ref b132), .unset, .unset] [(.int (2 : Int32)), (.int m3)])) _
          exact k_
        by_cases b2 : (2 : Int32) < m3
        · refine own_go (B := T140.setTop (mkF m 107 #[.val (.long q0), .second, .val (.long q1), .second, .val (.long q2), .second, .val (.int p3), .val (.int m3), .val (.long k0), .second, .val (.long k1), .second, .val (.long k2), .second, .val (.ref b132), .unset, .unset] [(.long k2), (.ref b132)])) (fun t_ k_ => ?_) ?_
          · show Steps p.tables e below (T140.setTop (mkF m 100 #[.val (.long q0), .second, .val (.long q1), .second, .val (.long q2), .second, .val (.int p3), .val (.int m3), .val (.long k0), .second, .val (.long k1), .second, .val (.long k2), .second, .val (.ref b132), .unset, .unset] [(.int (2 : Int32)), (.int m3)])) _
            refine XS.icmpNo X140.here hx rfl (hb hby at_100) rfl (tlt b2).2.2.2 ?_
            show Steps p.tables e below (T140.setTop (mkF m 103 #[.val (.long q0), .second, .val (.long q1), .second, .val (.long q2), .second, .val (.int p3), .val (.int m3), .val (.long k0), .second, .val (.long k1), .second, .val (.long k2), .second, .val (.ref b132), .unset, .unset] [])) _
            refine XS.aload X140.here hx rfl (hb hby at_103) rfl rfl ?_
            show Steps p.tables e below (T140.setTop (mkF m 105 #[.val (.long q0), .second, .val (.long q1), .second, .val (.long q2), .second, .val (.int p3), .val (.int m3), .val (.long k0), .second, .val (.long k1), .second, .val (.long k2), .second, .val (.ref b132), .unset, .unset] [(.ref b132)])) _
            refine XS.lload X140.here hx rfl (hb hby at_105) rfl ?_
            show Steps p.tables e below (T140.setTop (mkF m 107 #[.val (.long q0), .second, .val (.long q1), .second, .val (.long q2), .second, .val (.int p3), .val (.int m3), .val (.long k0), .second, .val (.long k1), .second, .val (.long k2), .second, .val (.ref b132), .unset, .unset] [(.long k2), (.ref b132)])) _
            exact k_
          obtain ⟨cq142, kq142, q142a, q142b, q142c⟩ := isOf hZ rfl f141
          obtain ⟨vv142, _, ⟨T142, L142, k142, n142⟩, -, X142, ⟨Lc142, hQ142, l142, y142, z142⟩, st142⟩ := X140.virtualBack hx (y := (⟨"com/example/prudent_annotator/prudentannotator/profile/PairCounts", "increment", "(J)V"⟩ : MethodName)) (z := (⟨"com/example/prudent_annotator/prudentannotator/profile/PairCounts", "increment", "(J)V"⟩ : MethodName)) hown (mvT hZ (hw _ (List.mem_of_getElem? (i := 28) rfl))) (mvT hZ (hw _ (List.mem_of_getElem? (i := 29) rfl))) (notFace_of_selects (args := #[]) (mvT hZ (hw _ (List.mem_of_getElem? (i := 31) rfl)))) (mvT hZ (hw _ (List.mem_of_getElem? (i := 31) rfl))) (mvT hZ (hw _ (List.mem_of_getElem? (i := 30) rfl))) (by decide) (backOf (W := 0) (rm6 l Z a0 hw [] b132 k2 bk136 bc136 f140x n140x g140x 2 T140.heap n0 Z140 u1140 u2140 u3140 u4140 u5140 f141 g_b132 g_bk136 g_bc136 ne_bk136_bc136 ne_b132_bk136 ne_b132_bc136 ok140 hle2 hk2 (by decide) bd140) hZ (hw _ (List.mem_of_getElem? (i := 32) rfl)) (hw _ (List.mem_of_getElem? (i := 7) rfl)) (by decide) (by decide)) q142a q142c (g := (mkF m 107 #[.val (.long q0), .second, .val (.long q1), .second, .val (.long q2), .second, .val (.int p3), .val (.int m3), .val (.long k0), .second, .val (.long k1), .second, .val (.long k2), .second, .val (.ref b132), .unset, .unset] [(.long k2), (.ref b132)])) rfl (by rw [hml]; rfl) (Steps.refl _) (argsL := [(.long k2)]) (rest := []) (lenOf pd__28_J_29_V rfl) rfl (by show 2 * 0 + _ ≤ _; exact Nat.le_of_eq rfl) (hb hby at_107) (fun _ _ => ⟨rfl, rfl, (by decide : 3 + 0 ≤ _), (by decide : 2051 + 0 ≤ _)⟩)
          dsimp only [Pt.U, Pt.locs, Pt.cells, Pt.slots] at X142 l142 y142 z142 st142 hQ142
          subst l142 y142 z142
          obtain ⟨rfl, N142q, K142, f142x, n142x, g142x, u1142, u2142, u3142, u4142, u5142, ok142, mem142, old142, new142, bd142⟩ := hQ142
          have N142 := Fr.app N140 N142q
          have f143 : Exa Z T142.heap b132 "com/example/prudent_annotator/prudentannotator/profile/PairCounts" := f141.keep K142
          have Z142 : n0 ≤ T142.heap.size := Nat.le_trans Z140 K142.1
          refine own_go (B := T142.setTop (mkF m 110 #[.val (.long q0), .second, .val (.long q1), .second, .val (.long q2), .second, .val (.int p3), .val (.int m3), .val (.long k0), .second, .val (.long k1), .second, .val (.long k2), .second, .val (.ref b132), .unset, .unset] [])) (fun t_ k_ => st142.trans k_) ?_
          have hle3 : n142x ≤ 3 := own_cas old142 new142 (by omega) (by omega)
          have me0_3 : own_mem f142x k0 := (mem142 k0 hk0).mpr (Or.inl me0_2)
          have me1_3 : own_mem f142x k1 := (mem142 k1 hk1).mpr (Or.inl me1_2)
          have me2_3 : own_mem f142x k2 := (mem142 k2 hk2).mpr (Or.inr rfl)
          refine own_go (B := T142.setTop (mkF m 112 #[.val (.long q0), .second, .val (.long q1), .second, .val (.long q2), .second, .val (.int p3), .val (.int m3), .val (.long k0), .second, .val (.long k1), .second, .val (.long k2), .second, .val (.ref b132), .unset, .unset] [(.ref b132)])) (fun t_ k_ => ?_) ?_
          · show Steps p.tables e below (T142.setTop (mkF m 110 #[.val (.long q0), .second, .val (.long q1), .second, .val (.long q2), .second, .val (.int p3), .val (.int m3), .val (.long k0), .second, .val (.long k1), .second, .val (.long k2), .second, .val (.ref b132), .unset, .unset] [])) _
            refine XS.aload X142.here hx rfl (hb hby at_110) rfl rfl ?_
            show Steps p.tables e below (T142.setTop (mkF m 112 #[.val (.long q0), .second, .val (.long q1), .second, .val (.long q2), .second, .val (.int p3), .val (.int m3), .val (.long k0), .second, .val (.long k1), .second, .val (.long k2), .second, .val (.ref b132), .unset, .unset] [(.ref b132)])) _
            exact k_
          obtain ⟨cq144, kq144, q144a, q144b, q144c⟩ := isOf hZ rfl f143
          obtain ⟨vv144, _, ⟨T144, L144, k144, n144⟩, -, X144, ⟨Lc144, hQ144, l144, y144, z144⟩, st144⟩ := X142.virtualBack hx (y := (⟨"com/example/prudent_annotator/prudentannotator/profile/PairCounts", "keys", "()[J"⟩ : MethodName)) (z := (⟨"com/example/prudent_annotator/prudentannotator/profile/PairCounts", "keys", "()[J"⟩ : MethodName)) hown (mvT hZ (hw _ (List.mem_of_getElem? (i := 47) rfl))) (mvT hZ (hw _ (List.mem_of_getElem? (i := 48) rfl))) (notFace_of_selects (args := #[]) (mvT hZ (hw _ (List.mem_of_getElem? (i := 50) rfl)))) (mvT hZ (hw _ (List.mem_of_getElem? (i := 50) rfl))) (mvT hZ (hw _ (List.mem_of_getElem? (i := 49) rfl))) (by decide) (backOf (W := 0) (rm9 l Z a0 hw [] b132 bk136 f142x n142x T142.heap n0 Z142 u1142 u3142 u4142 ok142 (by omega)) hZ (hw _ (List.mem_of_getElem? (i := 51) rfl)) (hw _ (List.mem_of_getElem? (i := 7) rfl)) (by decide) (by decide)) q144a q144c (g := (mkF m 112 #[.val (.long q0), .second, .val (.long q1), .second, .val (.long q2), .second, .val (.int p3), .val (.int m3), .val (.long k0), .second, .val (.long k1), .second, .val (.long k2), .second, .val (.ref b132), .unset, .unset] [(.ref b132)])) rfl (by rw [hml]; rfl) (Steps.refl _) (argsL := []) (rest := []) (lenOf pd__28__29__5b_J rfl) rfl (by show 2 * 0 + _ ≤ _; exact Nat.le_of_eq rfl) (hb hby at_112) (fun _ _ => ⟨rfl, rfl, (by decide : 3 + 1 ≤ _), (by decide : 2051 + 3 ≤ _)⟩)
          dsimp only [Pt.U, Pt.locs, Pt.cells, Pt.slots] at X144 l144 y144 z144 st144 hQ144
          subst l144 y144 z144
          obtain ⟨b144, kb144, rfl, N144q, K144, u144⟩ := hQ144
          have N144 := Fr.app N142 N144q
          have f145 : Exa Z T144.heap b132 "com/example/prudent_annotator/prudentannotator/profile/PairCounts" := f143.keep K144
          have f146 : Fld Z T144.heap b132 "com/example/prudent_annotator/prudentannotator/profile/PairCounts" "keys" "[J" (.ref bk136) := u1142.keep K144 nin0
          have f147 : Fld Z T144.heap b132 "com/example/prudent_annotator/prudentannotator/profile/PairCounts" "counts" "[I" (.ref bc136) := u2142.keep K144 nin0
          have f148 : Fld Z T144.heap b132 "com/example/prudent_annotator/prudentannotator/profile/PairCounts" "size" "I" (.int (Int32.ofNat n142x)) := u3142.keep K144 nin0
          have f149 : own_LA Z T144.heap bk136 f142x := u4142.keep K144 nin0
          have f150 : own_IA Z T144.heap bc136 g142x := u5142.keep K144 nin0
          have Z144 : n0 ≤ T144.heap.size := Nat.le_trans Z142 K144.1
          refine own_go (B := T144.setTop (mkF m 115 #[.val (.long q0), .second, .val (.long q1), .second, .val (.long q2), .second, .val (.int p3), .val (.int m3), .val (.long k0), .second, .val (.long k1), .second, .val (.long k2), .second, .val (.ref b132), .unset, .unset] [(.ref b144)])) (fun t_ k_ => st144.trans k_) ?_
          refine own_go (B := T144.setTop (mkF m 139 #[.val (.long q0), .second, .val (.long q1), .second, .val (.long q2), .second, .val (.int p3), .val (.int m3), .val (.long k0), .second, .val (.long k1), .second, .val (.long k2), .second, .val (.ref b132), .val (.ref b144), .val (.int (1 : Int32))] [(.int (lcmpW k1 k0))])) (fun t_ k_ => ?_) ?_
          · show Steps p.tables e below (T144.setTop (mkF m 115 #[.val (.long q0), .second, .val (.long q1), .second, .val (.long q2), .second, .val (.int p3), .val (.int m3), .val (.long k0), .second, .val (.long k1), .second, .val (.long k2), .second, .val (.ref b132), .unset, .unset] [(.ref b144)])) _
            refine XS.astore X144.here hx rfl (hb hby at_115) rfl rfl (l' := #[.val (.long q0), .second, .val (.long q1), .second, .val (.long q2), .second, .val (.int p3), .val (.int m3), .val (.long k0), .second, .val (.long k1), .second, .val (.long k2), .second, .val (.ref b132), .val (.ref b144), .unset]) rfl ?_
            show Steps p.tables e below (T144.setTop (mkF m 117 #[.val (.long q0), .second, .val (.long q1), .second, .val (.long q2), .second, .val (.int p3), .val (.int m3), .val (.long k0), .second, .val (.long k1), .second, .val (.long k2), .second, .val (.ref b132), .val (.ref b144), .unset] [])) _
            refine XS.iconst X144.here hx rfl (hb hby at_117) ?_
            show Steps p.tables e below (T144.setTop (mkF m 118 #[.val (.long q0), .second, .val (.long q1), .second, .val (.long q2), .second, .val (.int p3), .val (.int m3), .val (.long k0), .second, .val (.long k1), .second, .val (.long k2), .second, .val (.ref b132), .val (.ref b144), .unset] [(.int (0 : Int32))])) _
            refine XS.istore X144.here hx rfl (hb hby at_118) rfl (l' := #[.val (.long q0), .second, .val (.long q1), .second, .val (.long q2), .second, .val (.int p3), .val (.int m3), .val (.long k0), .second, .val (.long k1), .second, .val (.long k2), .second, .val (.ref b132), .val (.ref b144), .val (.int (0 : Int32))]) rfl ?_
            show Steps p.tables e below (T144.setTop (mkF m 120 #[.val (.long q0), .second, .val (.long q1), .second, .val (.long q2), .second, .val (.int p3), .val (.int m3), .val (.long k0), .second, .val (.long k1), .second, .val (.long k2), .second, .val (.ref b132), .val (.ref b144), .val (.int (0 : Int32))] [])) _
            refine XS.iload X144.here hx rfl (hb hby at_120) rfl ?_
            show Steps p.tables e below (T144.setTop (mkF m 122 #[.val (.long q0), .second, .val (.long q1), .second, .val (.long q2), .second, .val (.int p3), .val (.int m3), .val (.long k0), .second, .val (.long k1), .second, .val (.long k2), .second, .val (.ref b132), .val (.ref b144), .val (.int (0 : Int32))] [(.int m3)])) _
            refine XS.ifNo X144.here hx rfl (hb hby at_122) rfl ((if0 _ _).trans (tlt b0).2.2.2) ?_
            show Steps p.tables e below (T144.setTop (mkF m 125 #[.val (.long q0), .second, .val (.long q1), .second, .val (.long q2), .second, .val (.int p3), .val (.int m3), .val (.long k0), .second, .val (.long k1), .second, .val (.long k2), .second, .val (.ref b132), .val (.ref b144), .val (.int (0 : Int32))] [])) _
            refine XS.iconst X144.here hx rfl (hb hby at_125) ?_
            show Steps p.tables e below (T144.setTop (mkF m 126 #[.val (.long q0), .second, .val (.long q1), .second, .val (.long q2), .second, .val (.int p3), .val (.int m3), .val (.long k0), .second, .val (.long k1), .second, .val (.long k2), .second, .val (.ref b132), .val (.ref b144), .val (.int (0 : Int32))] [(.int (1 : Int32))])) _
            refine XS.istore X144.here hx rfl (hb hby at_126) rfl (l' := #[.val (.long q0), .second, .val (.long q1), .second, .val (.long q2), .second, .val (.int p3), .val (.int m3), .val (.long k0), .second, .val (.long k1), .second, .val (.long k2), .second, .val (.ref b132), .val (.ref b144), .val (.int (1 : Int32))]) rfl ?_
            show Steps p.tables e below (T144.setTop (mkF m 128 #[.val (.long q0), .second, .val (.long q1), .second, .val (.long q2), .second, .val (.int p3), .val (.int m3), .val (.long k0), .second, .val (.long k1), .second, .val (.long k2), .second, .val (.ref b132), .val (.ref b144), .val (.int (1 : Int32))] [])) _
            refine XS.iload X144.here hx rfl (hb hby at_128) rfl ?_
            show Steps p.tables e below (T144.setTop (mkF m 130 #[.val (.long q0), .second, .val (.long q1), .second, .val (.long q2), .second, .val (.int p3), .val (.int m3), .val (.long k0), .second, .val (.long k1), .second, .val (.long k2), .second, .val (.ref b132), .val (.ref b144), .val (.int (1 : Int32))] [(.int m3)])) _
            refine XS.iconst X144.here hx rfl (hb hby at_130) ?_
            show Steps p.tables e below (T144.setTop (mkF m 131 #[.val (.long q0), .second, .val (.long q1), .second, .val (.long q2), .second, .val (.int p3), .val (.int m3), .val (.long k0), .second, .val (.long k1), .second, .val (.long k2), .second, .val (.ref b132), .val (.ref b144), .val (.int (1 : Int32))] [(.int (1 : Int32)), (.int m3)])) _
            refine XS.icmpNo X144.here hx rfl (hb hby at_131) rfl (tlt b1).2.2.2 ?_
            show Steps p.tables e below (T144.setTop (mkF m 134 #[.val (.long q0), .second, .val (.long q1), .second, .val (.long q2), .second, .val (.int p3), .val (.int m3), .val (.long k0), .second, .val (.long k1), .second, .val (.long k2), .second, .val (.ref b132), .val (.ref b144), .val (.int (1 : Int32))] [])) _
            refine XS.lload X144.here hx rfl (hb hby at_134) rfl ?_
            show Steps p.tables e below (T144.setTop (mkF m 136 #[.val (.long q0), .second, .val (.long q1), .second, .val (.long q2), .second, .val (.int p3), .val (.int m3), .val (.long k0), .second, .val (.long k1), .second, .val (.long k2), .second, .val (.ref b132), .val (.ref b144), .val (.int (1 : Int32))] [(.long k1)])) _
            refine XS.lload X144.here hx rfl (hb hby at_136) rfl ?_
            show Steps p.tables e below (T144.setTop (mkF m 138 #[.val (.long q0), .second, .val (.long q1), .second, .val (.long q2), .second, .val (.int p3), .val (.int m3), .val (.long k0), .second, .val (.long k1), .second, .val (.long k2), .second, .val (.ref b132), .val (.ref b144), .val (.int (1 : Int32))] [(.long k0), (.long k1)])) _
            refine XS.lcmp X144.here hx rfl (hb hby at_138) rfl ?_
            show Steps p.tables e below (T144.setTop (mkF m 139 #[.val (.long q0), .second, .val (.long q1), .second, .val (.long q2), .second, .val (.int p3), .val (.int m3), .val (.long k0), .second, .val (.long k1), .second, .val (.long k2), .second, .val (.ref b132), .val (.ref b144), .val (.int (1 : Int32))] [(.int (lcmpW k1 k0))])) _
            exact k_
          by_cases d10 : k1 = k0
          · refine own_go (B := T144.setTop (mkF m 159 #[.val (.long q0), .second, .val (.long q1), .second, .val (.long q2), .second, .val (.int p3), .val (.int m3), .val (.long k0), .second, .val (.long k1), .second, .val (.long k2), .second, .val (.ref b132), .val (.ref b144), .val (.int (1 : Int32))] [(.int (lcmpW k2 k0))])) (fun t_ k_ => ?_) ?_
            · show Steps p.tables e below (T144.setTop (mkF m 139 #[.val (.long q0), .second, .val (.long q1), .second, .val (.long q2), .second, .val (.int p3), .val (.int m3), .val (.long k0), .second, .val (.long k1), .second, .val (.long k2), .second, .val (.ref b132), .val (.ref b144), .val (.int (1 : Int32))] [(.int (lcmpW k1 k0))])) _
              refine XS.ifYes X144.here hx rfl (pc0 := 139) (pc' := 148) rfl (hb hby at_139) rfl ((if0 _ _).trans (teq ((lw_eq _ _).mpr d10)).1) (by decide) (by decide) ?_
              show Steps p.tables e below (T144.setTop (mkF m 148 #[.val (.long q0), .second, .val (.long q1), .second, .val (.long q2), .second, .val (.int p3), .val (.int m3), .val (.long k0), .second, .val (.long k1), .second, .val (.long k2), .second, .val (.ref b132), .val (.ref b144), .val (.int (1 : Int32))] [])) _
              refine XS.iload X144.here hx rfl (hb hby at_148) rfl ?_
              show Steps p.tables e below (T144.setTop (mkF m 150 #[.val (.long q0), .second, .val (.long q1), .second, .val (.long q2), .second, .val (.int p3), .val (.int m3), .val (.long k0), .second, .val (.long k1), .second, .val (.long k2), .second, .val (.ref b132), .val (.ref b144), .val (.int (1 : Int32))] [(.int m3)])) _
              refine XS.iconst X144.here hx rfl (hb hby at_150) ?_
              show Steps p.tables e below (T144.setTop (mkF m 151 #[.val (.long q0), .second, .val (.long q1), .second, .val (.long q2), .second, .val (.int p3), .val (.int m3), .val (.long k0), .second, .val (.long k1), .second, .val (.long k2), .second, .val (.ref b132), .val (.ref b144), .val (.int (1 : Int32))] [(.int (2 : Int32)), (.int m3)])) _
              refine XS.icmpNo X144.here hx rfl (hb hby at_151) rfl (tlt b2).2.2.2 ?_
              show Steps p.tables e below (T144.setTop (mkF m 154 #[.val (.long q0), .second, .val (.long q1), .second, .val (.long q2), .second, .val (.int p3), .val (.int m3), .val (.long k0), .second, .val (.long k1), .second, .val (.long k2), .second, .val (.ref b132), .val (.ref b144), .val (.int (1 : Int32))] [])) _
              refine XS.lload X144.here hx rfl (hb hby at_154) rfl ?_
              show Steps p.tables e below (T144.setTop (mkF m 156 #[.val (.long q0), .second, .val (.long q1), .second, .val (.long q2), .second, .val (.int p3), .val (.int m3), .val (.long k0), .second, .val (.long k1), .second, .val (.long k2), .second, .val (.ref b132), .val (.ref b144), .val (.int (1 : Int32))] [(.long k2)])) _
              refine XS.lload X144.here hx rfl (hb hby at_156) rfl ?_
              show Steps p.tables e below (T144.setTop (mkF m 158 #[.val (.long q0), .second, .val (.long q1), .second, .val (.long q2), .second, .val (.int p3), .val (.int m3), .val (.long k0), .second, .val (.long k1), .second, .val (.long k2), .second, .val (.ref b132), .val (.ref b144), .val (.int (1 : Int32))] [(.long k0), (.long k2)])) _
              refine XS.lcmp X144.here hx rfl (hb hby at_158) rfl ?_
              show Steps p.tables e below (T144.setTop (mkF m 159 #[.val (.long q0), .second, .val (.long q1), .second, .val (.long q2), .second, .val (.int p3), .val (.int m3), .val (.long k0), .second, .val (.long k1), .second, .val (.long k2), .second, .val (.ref b132), .val (.ref b144), .val (.int (1 : Int32))] [(.int (lcmpW k2 k0))])) _
              exact k_
            by_cases d20 : k2 = k0
            · refine own_go (B := T144.setTop (mkF m 183 #[.val (.long q0), .second, .val (.long q1), .second, .val (.long q2), .second, .val (.int p3), .val (.int m3), .val (.long k0), .second, .val (.long k1), .second, .val (.long k2), .second, .val (.ref b132), .val (.ref b144), .val (.int (1 : Int32))] [(.ref b144)])) (fun t_ k_ => ?_) ?_
              · show Steps p.tables e below (T144.setTop (mkF m 159 #[.val (.long q0), .second, .val (.long q1), .second, .val (.long q2), .second, .val (.int p3), .val (.int m3), .val (.long k0), .second, .val (.long k1), .second, .val (.long k2), .second, .val (.ref b132), .val (.ref b144), .val (.int (1 : Int32))] [(.int (lcmpW k2 k0))])) _
                refine XS.ifYes X144.here hx rfl (pc0 := 159) (pc' := 176) rfl (hb hby at_159) rfl ((if0 _ _).trans (teq ((lw_eq _ _).mpr d20)).1) (by decide) (by decide) ?_
                show Steps p.tables e below (T144.setTop (mkF m 176 #[.val (.long q0), .second, .val (.long q1), .second, .val (.long q2), .second, .val (.int p3), .val (.int m3), .val (.long k0), .second, .val (.long k1), .second, .val (.long k2), .second, .val (.ref b132), .val (.ref b144), .val (.int (1 : Int32))] [])) _
                refine XS.aload X144.here hx rfl (hb hby at_176) rfl rfl ?_
                show Steps p.tables e below (T144.setTop (mkF m 178 #[.val (.long q0), .second, .val (.long q1), .second, .val (.long q2), .second, .val (.int p3), .val (.int m3), .val (.long k0), .second, .val (.long k1), .second, .val (.long k2), .second, .val (.ref b132), .val (.ref b144), .val (.int (1 : Int32))] [(.ref b144)])) _
                refine XS.ifnullNo X144.here hx rfl (hb hby at_178) rfl ?_
                show Steps p.tables e below (T144.setTop (mkF m 181 #[.val (.long q0), .second, .val (.long q1), .second, .val (.long q2), .second, .val (.int p3), .val (.int m3), .val (.long k0), .second, .val (.long k1), .second, .val (.long k2), .second, .val (.ref b132), .val (.ref b144), .val (.int (1 : Int32))] [])) _
                refine XS.aload X144.here hx rfl (hb hby at_181) rfl rfl ?_
                show Steps p.tables e below (T144.setTop (mkF m 183 #[.val (.long q0), .second, .val (.long q1), .second, .val (.long q2), .second, .val (.int p3), .val (.int m3), .val (.long k0), .second, .val (.long k1), .second, .val (.long k2), .second, .val (.ref b132), .val (.ref b144), .val (.int (1 : Int32))] [(.ref b144)])) _
                exact k_
              obtain ⟨cl151, Ar151, -, S151, M151, -, -⟩ := id u144
              refine own_go (B := T144.setTop (mkF m 184 #[.val (.long q0), .second, .val (.long q1), .second, .val (.long q2), .second, .val (.int p3), .val (.int m3), .val (.long k0), .second, .val (.long k1), .second, .val (.long k2), .second, .val (.ref b132), .val (.ref b144), .val (.int (1 : Int32))] [(.int (Int32.ofNat n142x))])) (fun t_ k_ => ?_) ?_
              · refine X144.arraylength hx Ar151.1 (State.isArrayOf_alike hZ.alike Ar151.2.1) (g := (mkF m 183 #[.val (.long q0), .second, .val (.long q1), .second, .val (.long q2), .second, .val (.int p3), .val (.int m3), .val (.long k0), .second, .val (.long k1), .second, .val (.long k2), .second, .val (.ref b132), .val (.ref b144), .val (.int (1 : Int32))] [(.ref b144)])) rfl rfl (hb hby at_183) _ ?_
                rw [len_of S151 M151]
                exact k_
              refine own_go (B := T144.setTop (mkF m 191 #[.val (.long q0), .second, .val (.long q1), .second, .val (.long q2), .second, .val (.int p3), .val (.int m3), .val (.long k0), .second, .val (.long k1), .second, .val (.long k2), .second, .val (.ref b132), .val (.ref b144), .val (.int (1 : Int32))] [])) (fun t_ k_ => ?_) ?_
              · show Steps p.tables e below (T144.setTop (mkF m 184 #[.val (.long q0), .second, .val (.long q1), .second, .val (.long q2), .second, .val (.int p3), .val (.int m3), .val (.long k0), .second, .val (.long k1), .second, .val (.long k2), .second, .val (.ref b132), .val (.ref b144), .val (.int (1 : Int32))] [(.int (Int32.ofNat n142x))])) _
                refine XS.iload X144.here hx rfl (hb hby at_184) rfl ?_
                show Steps p.tables e below (T144.setTop (mkF m 186 #[.val (.long q0), .second, .val (.long q1), .second, .val (.long q2), .second, .val (.int p3), .val (.int m3), .val (.long k0), .second, .val (.long k1), .second, .val (.long k2), .second, .val (.ref b132), .val (.ref b144), .val (.int (1 : Int32))] [(.int (1 : Int32)), (.int (Int32.ofNat n142x))])) _
                refine XS.icmpYes X144.here hx rfl (pc0 := 186) (pc' := 191) rfl (hb hby at_186) rfl (teq (by have e2 : n140x = 1 := (by have := old140 (by rw [d10]; exact me0_1); omega); have e3 : n142x = n140x := old142 (by rw [d20]; exact me0_2); rw [e3, e2]; rfl)).1 (by decide) (by decide) ?_
                show Steps p.tables e below (T144.setTop (mkF m 191 #[.val (.long q0), .second, .val (.long q1), .second, .val (.long q2), .second, .val (.int p3), .val (.int m3), .val (.long k0), .second, .val (.long k1), .second, .val (.long k2), .second, .val (.ref b132), .val (.ref b144), .val (.int (1 : Int32))] [])) _
                exact k_
              have hlen : (own_kl f142x 1024).length = n142x := ok142.2
              have Vx : Arv Z T144.heap b144 kb144 .long (Int32.ofNat (own_kl f142x 1024).length) ((own_kl f142x 1024).map Value.long) (.long (0 : Int64)) := by rw [hlen]; exact u144
              have hin0 : k0 ∈ own_kl f142x 1024 := own_kl_mem.mpr ⟨hk0, me0_3⟩
              have hin1 : k1 ∈ own_kl f142x 1024 := own_kl_mem.mpr ⟨hk1, me1_3⟩
              have hin2 : k2 ∈ own_kl f142x 1024 := own_kl_mem.mpr ⟨hk2, me2_3⟩
              refine own_go (B := T144.setTop (mkF m 200 #[.val (.long q0), .second, .val (.long q1), .second, .val (.long q2), .second, .val (.int p3), .val (.int m3), .val (.long k0), .second, .val (.long k1), .second, .val (.long k2), .second, .val (.ref b132), .val (.ref b144), .val (.int (1 : Int32))] [(.long k0), (.ref b144)])) (fun t_ k_ => ?_) ?_
              · show Steps p.tables e below (T144.setTop (mkF m 191 #[.val (.long q0), .second, .val (.long q1), .second, .val (.long q2), .second, .val (.int p3), .val (.int m3), .val (.long k0), .second, .val (.long k1), .second, .val (.long k2), .second, .val (.ref b132), .val (.ref b144), .val (.int (1 : Int32))] [])) _
                refine XS.iload X144.here hx rfl (hb hby at_191) rfl ?_
                show Steps p.tables e below (T144.setTop (mkF m 193 #[.val (.long q0), .second, .val (.long q1), .second, .val (.long q2), .second, .val (.int p3), .val (.int m3), .val (.long k0), .second, .val (.long k1), .second, .val (.long k2), .second, .val (.ref b132), .val (.ref b144), .val (.int (1 : Int32))] [(.int m3)])) _
                refine XS.ifNo X144.here hx rfl (hb hby at_193) rfl ((if0 _ _).trans (tlt b0).2.2.2) ?_
                show Steps p.tables e below (T144.setTop (mkF m 196 #[.val (.long q0), .second, .val (.long q1), .second, .val (.long q2), .second, .val (.int p3), .val (.int m3), .val (.long k0), .second, .val (.long k1), .second, .val (.long k2), .second, .val (.ref b132), .val (.ref b144), .val (.int (1 : Int32))] [])) _
                refine XS.aload X144.here hx rfl (hb hby at_196) rfl rfl ?_
                show Steps p.tables e below (T144.setTop (mkF m 198 #[.val (.long q0), .second, .val (.long q1), .second, .val (.long q2), .second, .val (.int p3), .val (.int m3), .val (.long k0), .second, .val (.long k1), .second, .val (.long k2), .second, .val (.ref b132), .val (.ref b144), .val (.int (1 : Int32))] [(.ref b144)])) _
                refine XS.lload X144.here hx rfl (hb hby at_198) rfl ?_
                show Steps p.tables e below (T144.setTop (mkF m 200 #[.val (.long q0), .second, .val (.long q1), .second, .val (.long q2), .second, .val (.int p3), .val (.int m3), .val (.long k0), .second, .val (.long k1), .second, .val (.long k2), .second, .val (.ref b132), .val (.ref b144), .val (.int (1 : Int32))] [(.long k0), (.ref b144)])) _
                exact k_
              obtain ⟨vv152, _, ⟨T152, L152, k152, n152⟩, -, X152, ⟨Lc152, hQ152, l152, y152, z152⟩, st152⟩ := Jvm.LawKit.callS X144 hx (y := (⟨"com/example/prudent_annotator/prudentannotator/profile/PairCountsKeysPinLaw", "has", "([JJ)Z"⟩ : MethodName)) hown (mvT hZ (hw _ (List.mem_of_getElem? (i := 52) rfl))) (mvT hZ (hw _ (List.mem_of_getElem? (i := 53) rfl))) (mvT hZ (hw _ (List.mem_of_getElem? (i := 2) rfl))) (mvT hZ (hw _ (List.mem_of_getElem? (i := 54) rfl))) (by decide) (backOf (W := 0) (rm10 l Z a0 hw [] b144 k0 kb144 (own_kl f142x 1024) T144.heap n0 Z144 Vx hin0 (by rw [hlen]; omega)) hZ (hw _ (List.mem_of_getElem? (i := 54) rfl)) (hw _ (List.mem_of_getElem? (i := 2) rfl)) (by decide) (by decide)) (g := (mkF m 200 #[.val (.long q0), .second, .val (.long q1), .second, .val (.long q2), .second, .val (.int p3), .val (.int m3), .val (.long k0), .second, .val (.long k1), .second, .val (.long k2), .second, .val (.ref b132), .val (.ref b144), .val (.int (1 : Int32))] [(.long k0), (.ref b144)])) rfl (by rw [hml]; rfl) (argsL := [(.ref b144), (.long k0)]) (rest := []) (lenOf pd__28__5b_JJ_29_Z rfl) rfl (by show 2 * 0 + _ ≤ _; exact Nat.le_of_eq rfl) (hb hby at_200) (fun _ _ => ⟨rfl, rfl, (by decide : 4 + 0 ≤ _), (by decide : 2054 + 0 ≤ _)⟩)
              dsimp only [Pt.U, Pt.locs, Pt.cells, Pt.slots] at X152 l152 y152 z152 st152 hQ152
              subst l152 y152 z152
              obtain ⟨rfl, N152q, e152q⟩ := hQ152
              have N152 := Fr.app N144 N152q
              refine own_go (B := T152.setTop (mkF m 203 #[.val (.long q0), .second, .val (.long q1), .second, .val (.long q2), .second, .val (.int p3), .val (.int m3), .val (.long k0), .second, .val (.long k1), .second, .val (.long k2), .second, .val (.ref b132), .val (.ref b144), .val (.int (1 : Int32))] [(.int (1 : Int32))])) (fun t_ k_ => st152 _ k_) ?_
              refine own_go (B := T152.setTop (mkF m 218 #[.val (.long q0), .second, .val (.long q1), .second, .val (.long q2), .second, .val (.int p3), .val (.int m3), .val (.long k0), .second, .val (.long k1), .second, .val (.long k2), .second, .val (.ref b132), .val (.ref b144), .val (.int (1 : Int32))] [(.long k1), (.ref b144)])) (fun t_ k_ => ?_) ?_
              · show Steps p.tables e below (T152.setTop (mkF m 203 #[.val (.long q0), .second, .val (.long q1), .second, .val (.long q2), .second, .val (.int p3), .val (.int m3), .val (.long k0), .second, .val (.long k1), .second, .val (.long k2), .second, .val (.ref b132), .val (.ref b144), .val (.int (1 : Int32))] [(.int (1 : Int32))])) _
                refine XS.ifYes X152.here hx rfl (pc0 := 203) (pc' := 208) rfl (hb hby at_203) rfl ((if0 _ _).trans (feq (by decide : ¬ ((1 : Int32) = (0 : Int32)))).2) (by decide) (by decide) ?_
                show Steps p.tables e below (T152.setTop (mkF m 208 #[.val (.long q0), .second, .val (.long q1), .second, .val (.long q2), .second, .val (.int p3), .val (.int m3), .val (.long k0), .second, .val (.long k1), .second, .val (.long k2), .second, .val (.ref b132), .val (.ref b144), .val (.int (1 : Int32))] [])) _
                refine XS.iload X152.here hx rfl (hb hby at_208) rfl ?_
                show Steps p.tables e below (T152.setTop (mkF m 210 #[.val (.long q0), .second, .val (.long q1), .second, .val (.long q2), .second, .val (.int p3), .val (.int m3), .val (.long k0), .second, .val (.long k1), .second, .val (.long k2), .second, .val (.ref b132), .val (.ref b144), .val (.int (1 : Int32))] [(.int m3)])) _
                refine XS.iconst X152.here hx rfl (hb hby at_210) ?_
                show Steps p.tables e below (T152.setTop (mkF m 211 #[.val (.long q0), .second, .val (.long q1), .second, .val (.long q2), .second, .val (.int p3), .val (.int m3), .val (.long k0), .second, .val (.long k1), .second, .val (.long k2), .second, .val (.ref b132), .val (.ref b144), .val (.int (1 : Int32))] [(.int (1 : Int32)), (.int m3)])) _
                refine XS.icmpNo X152.here hx rfl (hb hby at_211) rfl (tlt b1).2.2.2 ?_
                show Steps p.tables e below (T152.setTop (mkF m 214 #[.val (.long q0), .second, .val (.long q1), .second, .val (.long q2), .second, .val (.int p3), .val (.int m3), .val (.long k0), .second, .val (.long k1), .second, .val (.long k2), .second, .val (.ref b132), .val (.ref b144), .val (.int (1 : Int32))] [])) _
                refine XS.aload X152.here hx rfl (hb hby at_214) rfl rfl ?_
                show Steps p.tables e below (T152.setTop (mkF m 216 #[.val (.long q0), .second, .val (.long q1), .second, .val (.long q2), .second, .val (.int p3), .val (.int m3), .val (.long k0), .second, .val (.long k1), .second, .val (.long k2), .second, .val (.ref b132), .val (.ref b144), .val (.int (1 : Int32))] [(.ref b144)])) _
                refine XS.lload X152.here hx rfl (hb hby at_216) rfl ?_
                show Steps p.tables e below (T152.setTop (mkF m 218 #[.val (.long q0), .second, .val (.long q1), .second, .val (.long q2), .second, .val (.int p3), .val (.int m3), .val (.long k0), .second, .val (.long k1), .second, .val (.long k2), .second, .val (.ref b132), .val (.ref b144), .val (.int (1 : Int32))] [(.long k1), (.ref b144)])) _
                exact k_
              obtain ⟨vv153, _, ⟨T153, L153, k153, n153⟩, -, X153, ⟨Lc153, hQ153, l153, y153, z153⟩, st153⟩ := Jvm.LawKit.callS X152 hx (y := (⟨"com/example/prudent_annotator/prudentannotator/profile/PairCountsKeysPinLaw", "has", "([JJ)Z"⟩ : MethodName)) hown (mvT hZ (hw _ (List.mem_of_getElem? (i := 52) rfl))) (mvT hZ (hw _ (List.mem_of_getElem? (i := 53) rfl))) (mvT hZ (hw _ (List.mem_of_getElem? (i := 2) rfl))) (mvT hZ (hw _ (List.mem_of_getElem? (i := 54) rfl))) (by decide) (backOf (W := 0) (rm10 l Z a0 hw [] b144 k1 kb144 (own_kl f142x 1024) T144.heap n0 Z144 Vx hin1 (by rw [hlen]; omega)) hZ (hw _ (List.mem_of_getElem? (i := 54) rfl)) (hw _ (List.mem_of_getElem? (i := 2) rfl)) (by decide) (by decide)) (g := (mkF m 218 #[.val (.long q0), .second, .val (.long q1), .second, .val (.long q2), .second, .val (.int p3), .val (.int m3), .val (.long k0), .second, .val (.long k1), .second, .val (.long k2), .second, .val (.ref b132), .val (.ref b144), .val (.int (1 : Int32))] [(.long k1), (.ref b144)])) rfl (by rw [hml]; rfl) (argsL := [(.ref b144), (.long k1)]) (rest := []) (lenOf pd__28__5b_JJ_29_Z rfl) rfl (by show 2 * 0 + _ ≤ _; exact Nat.le_of_eq rfl) (hb hby at_218) (fun _ _ => ⟨rfl, e152q, (by decide : 4 + 0 ≤ _), (by decide : 2054 + 0 ≤ _)⟩)
              dsimp only [Pt.U, Pt.locs, Pt.cells, Pt.slots] at X153 l153 y153 z153 st153 hQ153
              subst l153 y153 z153
              obtain ⟨rfl, N153q, e153q⟩ := hQ153
              have N153 := Fr.app N152 N153q
              refine own_go (B := T153.setTop (mkF m 221 #[.val (.long q0), .second, .val (.long q1), .second, .val (.long q2), .second, .val (.int p3), .val (.int m3), .val (.long k0), .second, .val (.long k1), .second, .val (.long k2), .second, .val (.ref b132), .val (.ref b144), .val (.int (1 : Int32))] [(.int (1 : Int32))])) (fun t_ k_ => st153 _ k_) ?_
              refine own_go (B := T153.setTop (mkF m 236 #[.val (.long q0), .second, .val (.long q1), .second, .val (.long q2), .second, .val (.int p3), .val (.int m3), .val (.long k0), .second, .val (.long k1), .second, .val (.long k2), .second, .val (.ref b132), .val (.ref b144), .val (.int (1 : Int32))] [(.long k2), (.ref b144)])) (fun t_ k_ => ?_) ?_
              · show Steps p.tables e below (T153.setTop (mkF m 221 #[.val (.long q0), .second, .val (.long q1), .second, .val (.long q2), .second, .val (.int p3), .val (.int m3), .val (.long k0), .second, .val (.long k1), .second, .val (.long k2), .second, .val (.ref b132), .val (.ref b144), .val (.int (1 : Int32))] [(.int (1 : Int32))])) _
                refine XS.ifYes X153.here hx rfl (pc0 := 221) (pc' := 226) rfl (hb hby at_221) rfl ((if0 _ _).trans (feq (by decide : ¬ ((1 : Int32) = (0 : Int32)))).2) (by decide) (by decide) ?_
                show Steps p.tables e below (T153.setTop (mkF m 226 #[.val (.long q0), .second, .val (.long q1), .second, .val (.long q2), .second, .val (.int p3), .val (.int m3), .val (.long k0), .second, .val (.long k1), .second, .val (.long k2), .second, .val (.ref b132), .val (.ref b144), .val (.int (1 : Int32))] [])) _
                refine XS.iload X153.here hx rfl (hb hby at_226) rfl ?_
                show Steps p.tables e below (T153.setTop (mkF m 228 #[.val (.long q0), .second, .val (.long q1), .second, .val (.long q2), .second, .val (.int p3), .val (.int m3), .val (.long k0), .second, .val (.long k1), .second, .val (.long k2), .second, .val (.ref b132), .val (.ref b144), .val (.int (1 : Int32))] [(.int m3)])) _
                refine XS.iconst X153.here hx rfl (hb hby at_228) ?_
                show Steps p.tables e below (T153.setTop (mkF m 229 #[.val (.long q0), .second, .val (.long q1), .second, .val (.long q2), .second, .val (.int p3), .val (.int m3), .val (.long k0), .second, .val (.long k1), .second, .val (.long k2), .second, .val (.ref b132), .val (.ref b144), .val (.int (1 : Int32))] [(.int (2 : Int32)), (.int m3)])) _
                refine XS.icmpNo X153.here hx rfl (hb hby at_229) rfl (tlt b2).2.2.2 ?_
                show Steps p.tables e below (T153.setTop (mkF m 232 #[.val (.long q0), .second, .val (.long q1), .second, .val (.long q2), .second, .val (.int p3), .val (.int m3), .val (.long k0), .second, .val (.long k1), .second, .val (.long k2), .second, .val (.ref b132), .val (.ref b144), .val (.int (1 : Int32))] [])) _
                refine XS.aload X153.here hx rfl (hb hby at_232) rfl rfl ?_
                show Steps p.tables e below (T153.setTop (mkF m 234 #[.val (.long q0), .second, .val (.long q1), .second, .val (.long q2), .second, .val (.int p3), .val (.int m3), .val (.long k0), .second, .val (.long k1), .second, .val (.long k2), .second, .val (.ref b132), .val (.ref b144), .val (.int (1 : Int32))] [(.ref b144)])) _
                refine XS.lload X153.here hx rfl (hb hby at_234) rfl ?_
                show Steps p.tables e below (T153.setTop (mkF m 236 #[.val (.long q0), .second, .val (.long q1), .second, .val (.long q2), .second, .val (.int p3), .val (.int m3), .val (.long k0), .second, .val (.long k1), .second, .val (.long k2), .second, .val (.ref b132), .val (.ref b144), .val (.int (1 : Int32))] [(.long k2), (.ref b144)])) _
                exact k_
              obtain ⟨vv154, _, ⟨T154, L154, k154, n154⟩, -, X154, ⟨Lc154, hQ154, l154, y154, z154⟩, st154⟩ := Jvm.LawKit.callS X153 hx (y := (⟨"com/example/prudent_annotator/prudentannotator/profile/PairCountsKeysPinLaw", "has", "([JJ)Z"⟩ : MethodName)) hown (mvT hZ (hw _ (List.mem_of_getElem? (i := 52) rfl))) (mvT hZ (hw _ (List.mem_of_getElem? (i := 53) rfl))) (mvT hZ (hw _ (List.mem_of_getElem? (i := 2) rfl))) (mvT hZ (hw _ (List.mem_of_getElem? (i := 54) rfl))) (by decide) (backOf (W := 0) (rm10 l Z a0 hw [] b144 k2 kb144 (own_kl f142x 1024) T144.heap n0 Z144 Vx hin2 (by rw [hlen]; omega)) hZ (hw _ (List.mem_of_getElem? (i := 54) rfl)) (hw _ (List.mem_of_getElem? (i := 2) rfl)) (by decide) (by decide)) (g := (mkF m 236 #[.val (.long q0), .second, .val (.long q1), .second, .val (.long q2), .second, .val (.int p3), .val (.int m3), .val (.long k0), .second, .val (.long k1), .second, .val (.long k2), .second, .val (.ref b132), .val (.ref b144), .val (.int (1 : Int32))] [(.long k2), (.ref b144)])) rfl (by rw [hml]; rfl) (argsL := [(.ref b144), (.long k2)]) (rest := []) (lenOf pd__28__5b_JJ_29_Z rfl) rfl (by show 2 * 0 + _ ≤ _; exact Nat.le_of_eq rfl) (hb hby at_236) (fun _ _ => ⟨rfl, e153q, (by decide : 4 + 0 ≤ _), (by decide : 2054 + 0 ≤ _)⟩)
              dsimp only [Pt.U, Pt.locs, Pt.cells, Pt.slots] at X154 l154 y154 z154 st154 hQ154
              subst l154 y154 z154
              obtain ⟨rfl, N154q, e154q⟩ := hQ154
              have N154 := Fr.app N153 N154q
              refine own_go (B := T154.setTop (mkF m 239 #[.val (.long q0), .second, .val (.long q1), .second, .val (.long q2), .second, .val (.int p3), .val (.int m3), .val (.long k0), .second, .val (.long k1), .second, .val (.long k2), .second, .val (.ref b132), .val (.ref b144), .val (.int (1 : Int32))] [(.int (1 : Int32))])) (fun t_ k_ => st154 _ k_) ?_
              refine own_go (B := T154.setTop (mkF m 245 #[.val (.long q0), .second, .val (.long q1), .second, .val (.long q2), .second, .val (.int p3), .val (.int m3), .val (.long k0), .second, .val (.long k1), .second, .val (.long k2), .second, .val (.ref b132), .val (.ref b144), .val (.int (1 : Int32))] [(.int (1 : Int32))])) (fun t_ k_ => ?_) ?_
              · show Steps p.tables e below (T154.setTop (mkF m 239 #[.val (.long q0), .second, .val (.long q1), .second, .val (.long q2), .second, .val (.int p3), .val (.int m3), .val (.long k0), .second, .val (.long k1), .second, .val (.long k2), .second, .val (.ref b132), .val (.ref b144), .val (.int (1 : Int32))] [(.int (1 : Int32))])) _
                refine XS.ifYes X154.here hx rfl (pc0 := 239) (pc' := 244) rfl (hb hby at_239) rfl ((if0 _ _).trans (feq (by decide : ¬ ((1 : Int32) = (0 : Int32)))).2) (by decide) (by decide) ?_
                show Steps p.tables e below (T154.setTop (mkF m 244 #[.val (.long q0), .second, .val (.long q1), .second, .val (.long q2), .second, .val (.int p3), .val (.int m3), .val (.long k0), .second, .val (.long k1), .second, .val (.long k2), .second, .val (.ref b132), .val (.ref b144), .val (.int (1 : Int32))] [])) _
                refine XS.iconst X154.here hx rfl (hb hby at_244) ?_
                show Steps p.tables e below (T154.setTop (mkF m 245 #[.val (.long q0), .second, .val (.long q1), .second, .val (.long q2), .second, .val (.int p3), .val (.int m3), .val (.long k0), .second, .val (.long k1), .second, .val (.long k2), .second, .val (.ref b132), .val (.ref b144), .val (.int (1 : Int32))] [(.int (1 : Int32))])) _
                exact k_
              obtain ⟨fs, hr, hrun, hended, hW, hsame⟩ := X154.leave (v := some (.int (1 : Int32))) (fun h => by rw [Bd.returns] at h; cases h)
              refine own_at ?_ (hG _ _ ⟨hrun, hended, _, _, rfl, ?_, ⟨_, rfl⟩, hW, hsame.mono (by decide) (by decide)⟩)
              · show Steps p.tables e below (T154.setTop (mkF m 245 #[.val (.long q0), .second, .val (.long q1), .second, .val (.long q2), .second, .val (.int p3), .val (.int m3), .val (.long k0), .second, .val (.long k1), .second, .val (.long k2), .second, .val (.ref b132), .val (.ref b144), .val (.int (1 : Int32))] [(.int (1 : Int32))])) _
                exact retN X154 hx (t := .boolean) Bd.returns (by simp) (hb hby at_245) hr
              · show Q0 Z q0 q1 q2 p3 h0 n0 _ T154.heap _
                rw [e154q]
                exact ⟨rfl, N154⟩
            · refine own_go (B := T144.setTop (mkF m 167 #[.val (.long q0), .second, .val (.long q1), .second, .val (.long q2), .second, .val (.int p3), .val (.int m3), .val (.long k0), .second, .val (.long k1), .second, .val (.long k2), .second, .val (.ref b132), .val (.ref b144), .val (.int (1 : Int32))] [(.int (lcmpW k2 k1))])) (fun t_ k_ => ?_) ?_
              · show Steps p.tables e below (T144.setTop (mkF m 159 #[.val (.long q0), .second, .val (.long q1), .second, .val (.long q2), .second, .val (.int p3), .val (.int m3), .val (.long k0), .second, .val (.long k1), .second, .val (.long k2), .second, .val (.ref b132), .val (.ref b144), .val (.int (1 : Int32))] [(.int (lcmpW k2 k0))])) _
                refine XS.ifNo X144.here hx rfl (hb hby at_159) rfl ((if0 _ _).trans (feq (mt (lw_eq _ _).mp d20)).1) ?_
                show Steps p.tables e below (T144.setTop (mkF m 162 #[.val (.long q0), .second, .val (.long q1), .second, .val (.long q2), .second, .val (.int p3), .val (.int m3), .val (.long k0), .second, .val (.long k1), .second, .val (.long k2), .second, .val (.ref b132), .val (.ref b144), .val (.int (1 : Int32))] [])) _
                refine XS.lload X144.here hx rfl (hb hby at_162) rfl ?_
                show Steps p.tables e below (T144.setTop (mkF m 164 #[.val (.long q0), .second, .val (.long q1), .second, .val (.long q2), .second, .val (.int p3), .val (.int m3), .val (.long k0), .second, .val (.long k1), .second, .val (.long k2), .second, .val (.ref b132), .val (.ref b144), .val (.int (1 : Int32))] [(.long k2)])) _
                refine XS.lload X144.here hx rfl (hb hby at_164) rfl ?_
                show Steps p.tables e below (T144.setTop (mkF m 166 #[.val (.long q0), .second, .val (.long q1), .second, .val (.long q2), .second, .val (.int p3), .val (.int m3), .val (.long k0), .second, .val (.long k1), .second, .val (.long k2), .second, .val (.ref b132), .val (.ref b144), .val (.int (1 : Int32))] [(.long k1), (.long k2)])) _
                refine XS.lcmp X144.here hx rfl (hb hby at_166) rfl ?_
                show Steps p.tables e below (T144.setTop (mkF m 167 #[.val (.long q0), .second, .val (.long q1), .second, .val (.long q2), .second, .val (.int p3), .val (.int m3), .val (.long k0), .second, .val (.long k1), .second, .val (.long k2), .second, .val (.ref b132), .val (.ref b144), .val (.int (1 : Int32))] [(.int (lcmpW k2 k1))])) _
                exact k_
              by_cases d21 : k2 = k1
              · refine own_go (B := T144.setTop (mkF m 183 #[.val (.long q0), .second, .val (.long q1), .second, .val (.long q2), .second, .val (.int p3), .val (.int m3), .val (.long k0), .second, .val (.long k1), .second, .val (.long k2), .second, .val (.ref b132), .val (.ref b144), .val (.int (1 : Int32))] [(.ref b144)])) (fun t_ k_ => ?_) ?_
                · show Steps p.tables e below (T144.setTop (mkF m 167 #[.val (.long q0), .second, .val (.long q1), .second, .val (.long q2), .second, .val (.int p3), .val (.int m3), .val (.long k0), .second, .val (.long k1), .second, .val (.long k2), .second, .val (.ref b132), .val (.ref b144), .val (.int (1 : Int32))] [(.int (lcmpW k2 k1))])) _
                  refine XS.ifYes X144.here hx rfl (pc0 := 167) (pc' := 176) rfl (hb hby at_167) rfl ((if0 _ _).trans (teq ((lw_eq _ _).mpr d21)).1) (by decide) (by decide) ?_
                  show Steps p.tables e below (T144.setTop (mkF m 176 #[.val (.long q0), .second, .val (.long q1), .second, .val (.long q2), .second, .val (.int p3), .val (.int m3), .val (.long k0), .second, .val (.long k1), .second, .val (.long k2), .second, .val (.ref b132), .val (.ref b144), .val (.int (1 : Int32))] [])) _
                  refine XS.aload X144.here hx rfl (hb hby at_176) rfl rfl ?_
                  show Steps p.tables e below (T144.setTop (mkF m 178 #[.val (.long q0), .second, .val (.long q1), .second, .val (.long q2), .second, .val (.int p3), .val (.int m3), .val (.long k0), .second, .val (.long k1), .second, .val (.long k2), .second, .val (.ref b132), .val (.ref b144), .val (.int (1 : Int32))] [(.ref b144)])) _
                  refine XS.ifnullNo X144.here hx rfl (hb hby at_178) rfl ?_
                  show Steps p.tables e below (T144.setTop (mkF m 181 #[.val (.long q0), .second, .val (.long q1), .second, .val (.long q2), .second, .val (.int p3), .val (.int m3), .val (.long k0), .second, .val (.long k1), .second, .val (.long k2), .second, .val (.ref b132), .val (.ref b144), .val (.int (1 : Int32))] [])) _
                  refine XS.aload X144.here hx rfl (hb hby at_181) rfl rfl ?_
                  show Steps p.tables e below (T144.setTop (mkF m 183 #[.val (.long q0), .second, .val (.long q1), .second, .val (.long q2), .second, .val (.int p3), .val (.int m3), .val (.long k0), .second, .val (.long k1), .second, .val (.long k2), .second, .val (.ref b132), .val (.ref b144), .val (.int (1 : Int32))] [(.ref b144)])) _
                  exact k_
                obtain ⟨cl156, Ar156, -, S156, M156, -, -⟩ := id u144
                refine own_go (B := T144.setTop (mkF m 184 #[.val (.long q0), .second, .val (.long q1), .second, .val (.long q2), .second, .val (.int p3), .val (.int m3), .val (.long k0), .second, .val (.long k1), .second, .val (.long k2), .second, .val (.ref b132), .val (.ref b144), .val (.int (1 : Int32))] [(.int (Int32.ofNat n142x))])) (fun t_ k_ => ?_) ?_
                · refine X144.arraylength hx Ar156.1 (State.isArrayOf_alike hZ.alike Ar156.2.1) (g := (mkF m 183 #[.val (.long q0), .second, .val (.long q1), .second, .val (.long q2), .second, .val (.int p3), .val (.int m3), .val (.long k0), .second, .val (.long k1), .second, .val (.long k2), .second, .val (.ref b132), .val (.ref b144), .val (.int (1 : Int32))] [(.ref b144)])) rfl rfl (hb hby at_183) _ ?_
                  rw [len_of S156 M156]
                  exact k_
                refine own_go (B := T144.setTop (mkF m 191 #[.val (.long q0), .second, .val (.long q1), .second, .val (.long q2), .second, .val (.int p3), .val (.int m3), .val (.long k0), .second, .val (.long k1), .second, .val (.long k2), .second, .val (.ref b132), .val (.ref b144), .val (.int (1 : Int32))] [])) (fun t_ k_ => ?_) ?_
                · show Steps p.tables e below (T144.setTop (mkF m 184 #[.val (.long q0), .second, .val (.long q1), .second, .val (.long q2), .second, .val (.int p3), .val (.int m3), .val (.long k0), .second, .val (.long k1), .second, .val (.long k2), .second, .val (.ref b132), .val (.ref b144), .val (.int (1 : Int32))] [(.int (Int32.ofNat n142x))])) _
                  refine XS.iload X144.here hx rfl (hb hby at_184) rfl ?_
                  show Steps p.tables e below (T144.setTop (mkF m 186 #[.val (.long q0), .second, .val (.long q1), .second, .val (.long q2), .second, .val (.int p3), .val (.int m3), .val (.long k0), .second, .val (.long k1), .second, .val (.long k2), .second, .val (.ref b132), .val (.ref b144), .val (.int (1 : Int32))] [(.int (1 : Int32)), (.int (Int32.ofNat n142x))])) _
                  refine XS.icmpYes X144.here hx rfl (pc0 := 186) (pc' := 191) rfl (hb hby at_186) rfl (teq (by have e2 : n140x = 1 := (by have := old140 (by rw [d10]; exact me0_1); omega); have e3 : n142x = n140x := old142 (by rw [d21]; exact me1_2); rw [e3, e2]; rfl)).1 (by decide) (by decide) ?_
                  show Steps p.tables e below (T144.setTop (mkF m 191 #[.val (.long q0), .second, .val (.long q1), .second, .val (.long q2), .second, .val (.int p3), .val (.int m3), .val (.long k0), .second, .val (.long k1), .second, .val (.long k2), .second, .val (.ref b132), .val (.ref b144), .val (.int (1 : Int32))] [])) _
                  exact k_
                have hlen : (own_kl f142x 1024).length = n142x := ok142.2
                have Vx : Arv Z T144.heap b144 kb144 .long (Int32.ofNat (own_kl f142x 1024).length) ((own_kl f142x 1024).map Value.long) (.long (0 : Int64)) := by rw [hlen]; exact u144
                have hin0 : k0 ∈ own_kl f142x 1024 := own_kl_mem.mpr ⟨hk0, me0_3⟩
                have hin1 : k1 ∈ own_kl f142x 1024 := own_kl_mem.mpr ⟨hk1, me1_3⟩
                have hin2 : k2 ∈ own_kl f142x 1024 := own_kl_mem.mpr ⟨hk2, me2_3⟩
                refine own_go (B := T144.setTop (mkF m 200 #[.val (.long q0), .second, .val (.long q1), .second, .val (.long q2), .second, .val (.int p3), .val (.int m3), .val (.long k0), .second, .val (.long k1), .second, .val (.long k2), .second, .val (.ref b132), .val (.ref b144), .val (.int (1 : Int32))] [(.long k0), (.ref b144)])) (fun t_ k_ => ?_) ?_
                · show Steps p.tables e below (T144.setTop (mkF m 191 #[.val (.long q0), .second, .val (.long q1), .second, .val (.long q2), .second, .val (.int p3), .val (.int m3), .val (.long k0), .second, .val (.long k1), .second, .val (.long k2), .second, .val (.ref b132), .val (.ref b144), .val (.int (1 : Int32))] [])) _
                  refine XS.iload X144.here hx rfl (hb hby at_191) rfl ?_
                  show Steps p.tables e below (T144.setTop (mkF m 193 #[.val (.long q0), .second, .val (.long q1), .second, .val (.long q2), .second, .val (.int p3), .val (.int m3), .val (.long k0), .second, .val (.long k1), .second, .val (.long k2), .second, .val (.ref b132), .val (.ref b144), .val (.int (1 : Int32))] [(.int m3)])) _
                  refine XS.ifNo X144.here hx rfl (hb hby at_193) rfl ((if0 _ _).trans (tlt b0).2.2.2) ?_
                  show Steps p.tables e below (T144.setTop (mkF m 196 #[.val (.long q0), .second, .val (.long q1), .second, .val (.long q2), .second, .val (.int p3), .val (.int m3), .val (.long k0), .second, .val (.long k1), .second, .val (.long k2), .second, .val (.ref b132), .val (.ref b144), .val (.int (1 : Int32))] [])) _
                  refine XS.aload X144.here hx rfl (hb hby at_196) rfl rfl ?_
                  show Steps p.tables e below (T144.setTop (mkF m 198 #[.val (.long q0), .second, .val (.long q1), .second, .val (.long q2), .second, .val (.int p3), .val (.int m3), .val (.long k0), .second, .val (.long k1), .second, .val (.long k2), .second, .val (.ref b132), .val (.ref b144), .val (.int (1 : Int32))] [(.ref b144)])) _
                  refine XS.lload X144.here hx rfl (hb hby at_198) rfl ?_
                  show Steps p.tables e below (T144.setTop (mkF m 200 #[.val (.long q0), .second, .val (.long q1), .second, .val (.long q2), .second, .val (.int p3), .val (.int m3), .val (.long k0), .second, .val (.long k1), .second, .val (.long k2), .second, .val (.ref b132), .val (.ref b144), .val (.int (1 : Int32))] [(.long k0), (.ref b144)])) _
                  exact k_
                obtain ⟨vv157, _, ⟨T157, L157, k157, n157⟩, -, X157, ⟨Lc157, hQ157, l157, y157, z157⟩, st157⟩ := Jvm.LawKit.callS X144 hx (y := (⟨"com/example/prudent_annotator/prudentannotator/profile/PairCountsKeysPinLaw", "has", "([JJ)Z"⟩ : MethodName)) hown (mvT hZ (hw _ (List.mem_of_getElem? (i := 52) rfl))) (mvT hZ (hw _ (List.mem_of_getElem? (i := 53) rfl))) (mvT hZ (hw _ (List.mem_of_getElem? (i := 2) rfl))) (mvT hZ (hw _ (List.mem_of_getElem? (i := 54) rfl))) (by decide) (backOf (W := 0) (rm10 l Z a0 hw [] b144 k0 kb144 (own_kl f142x 1024) T144.heap n0 Z144 Vx hin0 (by rw [hlen]; omega)) hZ (hw _ (List.mem_of_getElem? (i := 54) rfl)) (hw _ (List.mem_of_getElem? (i := 2) rfl)) (by decide) (by decide)) (g := (mkF m 200 #[.val (.long q0), .second, .val (.long q1), .second, .val (.long q2), .second, .val (.int p3), .val (.int m3), .val (.long k0), .second, .val (.long k1), .second, .val (.long k2), .second, .val (.ref b132), .val (.ref b144), .val (.int (1 : Int32))] [(.long k0), (.ref b144)])) rfl (by rw [hml]; rfl) (argsL := [(.ref b144), (.long k0)]) (rest := []) (lenOf pd__28__5b_JJ_29_Z rfl) rfl (by show 2 * 0 + _ ≤ _; exact Nat.le_of_eq rfl) (hb hby at_200) (fun _ _ => ⟨rfl, rfl, (by decide : 4 + 0 ≤ _), (by decide : 2054 + 0 ≤ _)⟩)
                dsimp only [Pt.U, Pt.locs, Pt.cells, Pt.slots] at X157 l157 y157 z157 st157 hQ157
                subst l157 y157 z157
                obtain ⟨rfl, N157q, e157q⟩ := hQ157
                have N157 := Fr.app N144 N157q
                refine own_go (B := T157.setTop (mkF m 203 #[.val (.long q0), .second, .val (.long q1), .second, .val (.long q2), .second, .val (.int p3), .val (.int m3), .val (.long k0), .second, .val (.long k1), .second, .val (.long k2), .second, .val (.ref b132), .val (.ref b144), .val (.int (1 : Int32))] [(.int (1 : Int32))])) (fun t_ k_ => st157 _ k_) ?_
                refine own_go (B := T157.setTop (mkF m 218 #[.val (.long q0), .second, .val (.long q1), .second, .val (.long q2), .second, .val (.int p3), .val (.int m3), .val (.long k0), .second, .val (.long k1), .second, .val (.long k2), .second, .val (.ref b132), .val (.ref b144), .val (.int (1 : Int32))] [(.long k1), (.ref b144)])) (fun t_ k_ => ?_) ?_
                · show Steps p.tables e below (T157.setTop (mkF m 203 #[.val (.long q0), .second, .val (.long q1), .second, .val (.long q2), .second, .val (.int p3), .val (.int m3), .val (.long k0), .second, .val (.long k1), .second, .val (.long k2), .second, .val (.ref b132), .val (.ref b144), .val (.int (1 : Int32))] [(.int (1 : Int32))])) _
                  refine XS.ifYes X157.here hx rfl (pc0 := 203) (pc' := 208) rfl (hb hby at_203) rfl ((if0 _ _).trans (feq (by decide : ¬ ((1 : Int32) = (0 : Int32)))).2) (by decide) (by decide) ?_
                  show Steps p.tables e below (T157.setTop (mkF m 208 #[.val (.long q0), .second, .val (.long q1), .second, .val (.long q2), .second, .val (.int p3), .val (.int m3), .val (.long k0), .second, .val (.long k1), .second, .val (.long k2), .second, .val (.ref b132), .val (.ref b144), .val (.int (1 : Int32))] [])) _
                  refine XS.iload X157.here hx rfl (hb hby at_208) rfl ?_
                  show Steps p.tables e below (T157.setTop (mkF m 210 #[.val (.long q0), .second, .val (.long q1), .second, .val (.long q2), .second, .val (.int p3), .val (.int m3), .val (.long k0), .second, .val (.long k1), .second, .val (.long k2), .second, .val (.ref b132), .val (.ref b144), .val (.int (1 : Int32))] [(.int m3)])) _
                  refine XS.iconst X157.here hx rfl (hb hby at_210) ?_
                  show Steps p.tables e below (T157.setTop (mkF m 211 #[.val (.long q0), .second, .val (.long q1), .second, .val (.long q2), .second, .val (.int p3), .val (.int m3), .val (.long k0), .second, .val (.long k1), .second, .val (.long k2), .second, .val (.ref b132), .val (.ref b144), .val (.int (1 : Int32))] [(.int (1 : Int32)), (.int m3)])) _
                  refine XS.icmpNo X157.here hx rfl (hb hby at_211) rfl (tlt b1).2.2.2 ?_
                  show Steps p.tables e below (T157.setTop (mkF m 214 #[.val (.long q0), .second, .val (.long q1), .second, .val (.long q2), .second, .val (.int p3), .val (.int m3), .val (.long k0), .second, .val (.long k1), .second, .val (.long k2), .second, .val (.ref b132), .val (.ref b144), .val (.int (1 : Int32))] [])) _
                  refine XS.aload X157.here hx rfl (hb hby at_214) rfl rfl ?_
                  show Steps p.tables e below (T157.setTop (mkF m 216 #[.val (.long q0), .second, .val (.long q1), .second, .val (.long q2), .second, .val (.int p3), .val (.int m3), .val (.long k0), .second, .val (.long k1), .second, .val (.long k2), .second, .val (.ref b132), .val (.ref b144), .val (.int (1 : Int32))] [(.ref b144)])) _
                  refine XS.lload X157.here hx rfl (hb hby at_216) rfl ?_
                  show Steps p.tables e below (T157.setTop (mkF m 218 #[.val (.long q0), .second, .val (.long q1), .second, .val (.long q2), .second, .val (.int p3), .val (.int m3), .val (.long k0), .second, .val (.long k1), .second, .val (.long k2), .second, .val (.ref b132), .val (.ref b144), .val (.int (1 : Int32))] [(.long k1), (.ref b144)])) _
                  exact k_
                obtain ⟨vv158, _, ⟨T158, L158, k158, n158⟩, -, X158, ⟨Lc158, hQ158, l158, y158, z158⟩, st158⟩ := Jvm.LawKit.callS X157 hx (y := (⟨"com/example/prudent_annotator/prudentannotator/profile/PairCountsKeysPinLaw", "has", "([JJ)Z"⟩ : MethodName)) hown (mvT hZ (hw _ (List.mem_of_getElem? (i := 52) rfl))) (mvT hZ (hw _ (List.mem_of_getElem? (i := 53) rfl))) (mvT hZ (hw _ (List.mem_of_getElem? (i := 2) rfl))) (mvT hZ (hw _ (List.mem_of_getElem? (i := 54) rfl))) (by decide) (backOf (W := 0) (rm10 l Z a0 hw [] b144 k1 kb144 (own_kl f142x 1024) T144.heap n0 Z144 Vx hin1 (by rw [hlen]; omega)) hZ (hw _ (List.mem_of_getElem? (i := 54) rfl)) (hw _ (List.mem_of_getElem? (i := 2) rfl)) (by decide) (by decide)) (g := (mkF m 218 #[.val (.long q0), .second, .val (.long q1), .second, .val (.long q2), .second, .val (.int p3), .val (.int m3), .val (.long k0), .second, .val (.long k1), .second, .val (.long k2), .second, .val (.ref b132), .val (.ref b144), .val (.int (1 : Int32))] [(.long k1), (.ref b144)])) rfl (by rw [hml]; rfl) (argsL := [(.ref b144), (.long k1)]) (rest := []) (lenOf pd__28__5b_JJ_29_Z rfl) rfl (by show 2 * 0 + _ ≤ _; exact Nat.le_of_eq rfl) (hb hby at_218) (fun _ _ => ⟨rfl, e157q, (by decide : 4 + 0 ≤ _), (by decide : 2054 + 0 ≤ _)⟩)
                dsimp only [Pt.U, Pt.locs, Pt.cells, Pt.slots] at X158 l158 y158 z158 st158 hQ158
                subst l158 y158 z158
                obtain ⟨rfl, N158q, e158q⟩ := hQ158
                have N158 := Fr.app N157 N158q
                refine own_go (B := T158.setTop (mkF m 221 #[.val (.long q0), .second, .val (.long q1), .second, .val (.long q2), .second, .val (.int p3), .val (.int m3), .val (.long k0), .second, .val (.long k1), .second, .val (.long k2), .second, .val (.ref b132), .val (.ref b144), .val (.int (1 : Int32))] [(.int (1 : Int32))])) (fun t_ k_ => st158 _ k_) ?_
                refine own_go (B := T158.setTop (mkF m 236 #[.val (.long q0), .second, .val (.long q1), .second, .val (.long q2), .second, .val (.int p3), .val (.int m3), .val (.long k0), .second, .val (.long k1), .second, .val (.long k2), .second, .val (.ref b132), .val (.ref b144), .val (.int (1 : Int32))] [(.long k2), (.ref b144)])) (fun t_ k_ => ?_) ?_
                · show Steps p.tables e below (T158.setTop (mkF m 221 #[.val (.long q0), .second, .val (.long q1), .second, .val (.long q2), .second, .val (.int p3), .val (.int m3), .val (.long k0), .second, .val (.long k1), .second, .val (.long k2), .second, .val (.ref b132), .val (.ref b144), .val (.int (1 : Int32))] [(.int (1 : Int32))])) _
                  refine XS.ifYes X158.here hx rfl (pc0 := 221) (pc' := 226) rfl (hb hby at_221) rfl ((if0 _ _).trans (feq (by decide : ¬ ((1 : Int32) = (0 : Int32)))).2) (by decide) (by decide) ?_
                  show Steps p.tables e below (T158.setTop (mkF m 226 #[.val (.long q0), .second, .val (.long q1), .second, .val (.long q2), .second, .val (.int p3), .val (.int m3), .val (.long k0), .second, .val (.long k1), .second, .val (.long k2), .second, .val (.ref b132), .val (.ref b144), .val (.int (1 : Int32))] [])) _
                  refine XS.iload X158.here hx rfl (hb hby at_226) rfl ?_
                  show Steps p.tables e below (T158.setTop (mkF m 228 #[.val (.long q0), .second, .val (.long q1), .second, .val (.long q2), .second, .val (.int p3), .val (.int m3), .val (.long k0), .second, .val (.long k1), .second, .val (.long k2), .second, .val (.ref b132), .val (.ref b144), .val (.int (1 : Int32))] [(.int m3)])) _
                  refine XS.iconst X158.here hx rfl (hb hby at_228) ?_
                  show Steps p.tables e below (T158.setTop (mkF m 229 #[.val (.long q0), .second, .val (.long q1), .second, .val (.long q2), .second, .val (.int p3), .val (.int m3), .val (.long k0), .second, .val (.long k1), .second, .val (.long k2), .second, .val (.ref b132), .val (.ref b144), .val (.int (1 : Int32))] [(.int (2 : Int32)), (.int m3)])) _
                  refine XS.icmpNo X158.here hx rfl (hb hby at_229) rfl (tlt b2).2.2.2 ?_
                  show Steps p.tables e below (T158.setTop (mkF m 232 #[.val (.long q0), .second, .val (.long q1), .second, .val (.long q2), .second, .val (.int p3), .val (.int m3), .val (.long k0), .second, .val (.long k1), .second, .val (.long k2), .second, .val (.ref b132), .val (.ref b144), .val (.int (1 : Int32))] [])) _
                  refine XS.aload X158.here hx rfl (hb hby at_232) rfl rfl ?_
                  show Steps p.tables e below (T158.setTop (mkF m 234 #[.val (.long q0), .second, .val (.long q1), .second, .val (.long q2), .second, .val (.int p3), .val (.int m3), .val (.long k0), .second, .val (.long k1), .second, .val (.long k2), .second, .val (.ref b132), .val (.ref b144), .val (.int (1 : Int32))] [(.ref b144)])) _
                  refine XS.lload X158.here hx rfl (hb hby at_234) rfl ?_
                  show Steps p.tables e below (T158.setTop (mkF m 236 #[.val (.long q0), .second, .val (.long q1), .second, .val (.long q2), .second, .val (.int p3), .val (.int m3), .val (.long k0), .second, .val (.long k1), .second, .val (.long k2), .second, .val (.ref b132), .val (.ref b144), .val (.int (1 : Int32))] [(.long k2), (.ref b144)])) _
                  exact k_
                obtain ⟨vv159, _, ⟨T159, L159, k159, n159⟩, -, X159, ⟨Lc159, hQ159, l159, y159, z159⟩, st159⟩ := Jvm.LawKit.callS X158 hx (y := (⟨"com/example/prudent_annotator/prudentannotator/profile/PairCountsKeysPinLaw", "has", "([JJ)Z"⟩ : MethodName)) hown (mvT hZ (hw _ (List.mem_of_getElem? (i := 52) rfl))) (mvT hZ (hw _ (List.mem_of_getElem? (i := 53) rfl))) (mvT hZ (hw _ (List.mem_of_getElem? (i := 2) rfl))) (mvT hZ (hw _ (List.mem_of_getElem? (i := 54) rfl))) (by decide) (backOf (W := 0) (rm10 l Z a0 hw [] b144 k2 kb144 (own_kl f142x 1024) T144.heap n0 Z144 Vx hin2 (by rw [hlen]; omega)) hZ (hw _ (List.mem_of_getElem? (i := 54) rfl)) (hw _ (List.mem_of_getElem? (i := 2) rfl)) (by decide) (by decide)) (g := (mkF m 236 #[.val (.long q0), .second, .val (.long q1), .second, .val (.long q2), .second, .val (.int p3), .val (.int m3), .val (.long k0), .second, .val (.long k1), .second, .val (.long k2), .second, .val (.ref b132), .val (.ref b144), .val (.int (1 : Int32))] [(.long k2), (.ref b144)])) rfl (by rw [hml]; rfl) (argsL := [(.ref b144), (.long k2)]) (rest := []) (lenOf pd__28__5b_JJ_29_Z rfl) rfl (by show 2 * 0 + _ ≤ _; exact Nat.le_of_eq rfl) (hb hby at_236) (fun _ _ => ⟨rfl, e158q, (by decide : 4 + 0 ≤ _), (by decide : 2054 + 0 ≤ _)⟩)
                dsimp only [Pt.U, Pt.locs, Pt.cells, Pt.slots] at X159 l159 y159 z159 st159 hQ159
                subst l159 y159 z159
                obtain ⟨rfl, N159q, e159q⟩ := hQ159
                have N159 := Fr.app N158 N159q
                refine own_go (B := T159.setTop (mkF m 239 #[.val (.long q0), .second, .val (.long q1), .second, .val (.long q2), .second, .val (.int p3), .val (.int m3), .val (.long k0), .second, .val (.long k1), .second, .val (.long k2), .second, .val (.ref b132), .val (.ref b144), .val (.int (1 : Int32))] [(.int (1 : Int32))])) (fun t_ k_ => st159 _ k_) ?_
                refine own_go (B := T159.setTop (mkF m 245 #[.val (.long q0), .second, .val (.long q1), .second, .val (.long q2), .second, .val (.int p3), .val (.int m3), .val (.long k0), .second, .val (.long k1), .second, .val (.long k2), .second, .val (.ref b132), .val (.ref b144), .val (.int (1 : Int32))] [(.int (1 : Int32))])) (fun t_ k_ => ?_) ?_
                · show Steps p.tables e below (T159.setTop (mkF m 239 #[.val (.long q0), .second, .val (.long q1), .second, .val (.long q2), .second, .val (.int p3), .val (.int m3), .val (.long k0), .second, .val (.long k1), .second, .val (.long k2), .second, .val (.ref b132), .val (.ref b144), .val (.int (1 : Int32))] [(.int (1 : Int32))])) _
                  refine XS.ifYes X159.here hx rfl (pc0 := 239) (pc' := 244) rfl (hb hby at_239) rfl ((if0 _ _).trans (feq (by decide : ¬ ((1 : Int32) = (0 : Int32)))).2) (by decide) (by decide) ?_
                  show Steps p.tables e below (T159.setTop (mkF m 244 #[.val (.long q0), .second, .val (.long q1), .second, .val (.long q2), .second, .val (.int p3), .val (.int m3), .val (.long k0), .second, .val (.long k1), .second, .val (.long k2), .second, .val (.ref b132), .val (.ref b144), .val (.int (1 : Int32))] [])) _
                  refine XS.iconst X159.here hx rfl (hb hby at_244) ?_
                  show Steps p.tables e below (T159.setTop (mkF m 245 #[.val (.long q0), .second, .val (.long q1), .second, .val (.long q2), .second, .val (.int p3), .val (.int m3), .val (.long k0), .second, .val (.long k1), .second, .val (.long k2), .second, .val (.ref b132), .val (.ref b144), .val (.int (1 : Int32))] [(.int (1 : Int32))])) _
                  exact k_
                obtain ⟨fs, hr, hrun, hended, hW, hsame⟩ := X159.leave (v := some (.int (1 : Int32))) (fun h => by rw [Bd.returns] at h; cases h)
                refine own_at ?_ (hG _ _ ⟨hrun, hended, _, _, rfl, ?_, ⟨_, rfl⟩, hW, hsame.mono (by decide) (by decide)⟩)
                · show Steps p.tables e below (T159.setTop (mkF m 245 #[.val (.long q0), .second, .val (.long q1), .second, .val (.long q2), .second, .val (.int p3), .val (.int m3), .val (.long k0), .second, .val (.long k1), .second, .val (.long k2), .second, .val (.ref b132), .val (.ref b144), .val (.int (1 : Int32))] [(.int (1 : Int32))])) _
                  exact retN X159 hx (t := .boolean) Bd.returns (by simp) (hb hby at_245) hr
                · show Q0 Z q0 q1 q2 p3 h0 n0 _ T159.heap _
                  rw [e159q]
                  exact ⟨rfl, N159⟩
              · refine own_go (B := T144.setTop (mkF m 183 #[.val (.long q0), .second, .val (.long q1), .second, .val (.long q2), .second, .val (.int p3), .val (.int m3), .val (.long k0), .second, .val (.long k1), .second, .val (.long k2), .second, .val (.ref b132), .val (.ref b144), .val (.int ((1 : Int32) + (1 : Int32)))] [(.ref b144)])) (fun t_ k_ => ?_) ?_
                · show Steps p.tables e below (T144.setTop (mkF m 167 #[.val (.long q0), .second, .val (.long q1), .second, .val (.long q2), .second, .val (.int p3), .val (.int m3), .val (.long k0), .second, .val (.long k1), .second, .val (.long k2), .second, .val (.ref b132), .val (.ref b144), .val (.int (1 : Int32))] [(.int (lcmpW k2 k1))])) _
                  refine XS.ifNo X144.here hx rfl (hb hby at_167) rfl ((if0 _ _).trans (feq (mt (lw_eq _ _).mp d21)).1) ?_
                  show Steps p.tables e below (T144.setTop (mkF m 170 #[.val (.long q0), .second, .val (.long q1), .second, .val (.long q2), .second, .val (.int p3), .val (.int m3), .val (.long k0), .second, .val (.long k1), .second, .val (.long k2), .second, .val (.ref b132), .val (.ref b144), .val (.int (1 : Int32))] [])) _
                  refine XS.iload X144.here hx rfl (hb hby at_170) rfl ?_
                  show Steps p.tables e below (T144.setTop (mkF m 172 #[.val (.long q0), .second, .val (.long q1), .second, .val (.long q2), .second, .val (.int p3), .val (.int m3), .val (.long k0), .second, .val (.long k1), .second, .val (.long k2), .second, .val (.ref b132), .val (.ref b144), .val (.int (1 : Int32))] [(.int (1 : Int32))])) _
                  refine XS.iconst X144.here hx rfl (hb hby at_172) ?_
                  show Steps p.tables e below (T144.setTop (mkF m 173 #[.val (.long q0), .second, .val (.long q1), .second, .val (.long q2), .second, .val (.int p3), .val (.int m3), .val (.long k0), .second, .val (.long k1), .second, .val (.long k2), .second, .val (.ref b132), .val (.ref b144), .val (.int (1 : Int32))] [(.int (1 : Int32)), (.int (1 : Int32))])) _
                  refine XS.iadd X144.here hx rfl (hb hby at_173) rfl ?_
                  show Steps p.tables e below (T144.setTop (mkF m 174 #[.val (.long q0), .second, .val (.long q1), .second, .val (.long q2), .second, .val (.int p3), .val (.int m3), .val (.long k0), .second, .val (.long k1), .second, .val (.long k2), .second, .val (.ref b132), .val (.ref b144), .val (.int (1 : Int32))] [(.int ((1 : Int32) + (1 : Int32)))])) _
                  refine XS.istore X144.here hx rfl (hb hby at_174) rfl (l' := #[.val (.long q0), .second, .val (.long q1), .second, .val (.long q2), .second, .val (.int p3), .val (.int m3), .val (.long k0), .second, .val (.long k1), .second, .val (.long k2), .second, .val (.ref b132), .val (.ref b144), .val (.int ((1 : Int32) + (1 : Int32)))]) rfl ?_
                  show Steps p.tables e below (T144.setTop (mkF m 176 #[.val (.long q0), .second, .val (.long q1), .second, .val (.long q2), .second, .val (.int p3), .val (.int m3), .val (.long k0), .second, .val (.long k1), .second, .val (.long k2), .second, .val (.ref b132), .val (.ref b144), .val (.int ((1 : Int32) + (1 : Int32)))] [])) _
                  refine XS.aload X144.here hx rfl (hb hby at_176) rfl rfl ?_
                  show Steps p.tables e below (T144.setTop (mkF m 178 #[.val (.long q0), .second, .val (.long q1), .second, .val (.long q2), .second, .val (.int p3), .val (.int m3), .val (.long k0), .second, .val (.long k1), .second, .val (.long k2), .second, .val (.ref b132), .val (.ref b144), .val (.int ((1 : Int32) + (1 : Int32)))] [(.ref b144)])) _
                  refine XS.ifnullNo X144.here hx rfl (hb hby at_178) rfl ?_
                  show Steps p.tables e below (T144.setTop (mkF m 181 #[.val (.long q0), .second, .val (.long q1), .second, .val (.long q2), .second, .val (.int p3), .val (.int m3), .val (.long k0), .second, .val (.long k1), .second, .val (.long k2), .second, .val (.ref b132), .val (.ref b144), .val (.int ((1 : Int32) + (1 : Int32)))] [])) _
                  refine XS.aload X144.here hx rfl (hb hby at_181) rfl rfl ?_
                  show Steps p.tables e below (T144.setTop (mkF m 183 #[.val (.long q0), .second, .val (.long q1), .second, .val (.long q2), .second, .val (.int p3), .val (.int m3), .val (.long k0), .second, .val (.long k1), .second, .val (.long k2), .second, .val (.ref b132), .val (.ref b144), .val (.int ((1 : Int32) + (1 : Int32)))] [(.ref b144)])) _
                  exact k_
                obtain ⟨cl161, Ar161, -, S161, M161, -, -⟩ := id u144
                refine own_go (B := T144.setTop (mkF m 184 #[.val (.long q0), .second, .val (.long q1), .second, .val (.long q2), .second, .val (.int p3), .val (.int m3), .val (.long k0), .second, .val (.long k1), .second, .val (.long k2), .second, .val (.ref b132), .val (.ref b144), .val (.int ((1 : Int32) + (1 : Int32)))] [(.int (Int32.ofNat n142x))])) (fun t_ k_ => ?_) ?_
                · refine X144.arraylength hx Ar161.1 (State.isArrayOf_alike hZ.alike Ar161.2.1) (g := (mkF m 183 #[.val (.long q0), .second, .val (.long q1), .second, .val (.long q2), .second, .val (.int p3), .val (.int m3), .val (.long k0), .second, .val (.long k1), .second, .val (.long k2), .second, .val (.ref b132), .val (.ref b144), .val (.int ((1 : Int32) + (1 : Int32)))] [(.ref b144)])) rfl rfl (hb hby at_183) _ ?_
                  rw [len_of S161 M161]
                  exact k_
                refine own_go (B := T144.setTop (mkF m 191 #[.val (.long q0), .second, .val (.long q1), .second, .val (.long q2), .second, .val (.int p3), .val (.int m3), .val (.long k0), .second, .val (.long k1), .second, .val (.long k2), .second, .val (.ref b132), .val (.ref b144), .val (.int ((1 : Int32) + (1 : Int32)))] [])) (fun t_ k_ => ?_) ?_
                · show Steps p.tables e below (T144.setTop (mkF m 184 #[.val (.long q0), .second, .val (.long q1), .second, .val (.long q2), .second, .val (.int p3), .val (.int m3), .val (.long k0), .second, .val (.long k1), .second, .val (.long k2), .second, .val (.ref b132), .val (.ref b144), .val (.int ((1 : Int32) + (1 : Int32)))] [(.int (Int32.ofNat n142x))])) _
                  refine XS.iload X144.here hx rfl (hb hby at_184) rfl ?_
                  show Steps p.tables e below (T144.setTop (mkF m 186 #[.val (.long q0), .second, .val (.long q1), .second, .val (.long q2), .second, .val (.int p3), .val (.int m3), .val (.long k0), .second, .val (.long k1), .second, .val (.long k2), .second, .val (.ref b132), .val (.ref b144), .val (.int ((1 : Int32) + (1 : Int32)))] [(.int ((1 : Int32) + (1 : Int32))), (.int (Int32.ofNat n142x))])) _
                  refine XS.icmpYes X144.here hx rfl (pc0 := 186) (pc' := 191) rfl (hb hby at_186) rfl (teq (by have e2 : n140x = 1 := (by have := old140 (by rw [d10]; exact me0_1); omega); have e3 : n142x = n140x + 1 := new142 (fun q => (on_2 k2 hk2 q).elim d20 d21); rw [e3, e2]; rfl)).1 (by decide) (by decide) ?_
                  show Steps p.tables e below (T144.setTop (mkF m 191 #[.val (.long q0), .second, .val (.long q1), .second, .val (.long q2), .second, .val (.int p3), .val (.int m3), .val (.long k0), .second, .val (.long k1), .second, .val (.long k2), .second, .val (.ref b132), .val (.ref b144), .val (.int ((1 : Int32) + (1 : Int32)))] [])) _
                  exact k_
                have hlen : (own_kl f142x 1024).length = n142x := ok142.2
                have Vx : Arv Z T144.heap b144 kb144 .long (Int32.ofNat (own_kl f142x 1024).length) ((own_kl f142x 1024).map Value.long) (.long (0 : Int64)) := by rw [hlen]; exact u144
                have hin0 : k0 ∈ own_kl f142x 1024 := own_kl_mem.mpr ⟨hk0, me0_3⟩
                have hin1 : k1 ∈ own_kl f142x 1024 := own_kl_mem.mpr ⟨hk1, me1_3⟩
                have hin2 : k2 ∈ own_kl f142x 1024 := own_kl_mem.mpr ⟨hk2, me2_3⟩
                refine own_go (B := T144.setTop (mkF m 200 #[.val (.long q0), .second, .val (.long q1), .second, .val (.long q2), .second, .val (.int p3), .val (.int m3), .val (.long k0), .second, .val (.long k1), .second, .val (.long k2), .second, .val (.ref b132), .val (.ref b144), .val (.int ((1 : Int32) + (1 : Int32)))] [(.long k0), (.ref b144)])) (fun t_ k_ => ?_) ?_
                · show Steps p.tables e below (T144.setTop (mkF m 191 #[.val (.long q0), .second, .val (.long q1), .second, .val (.long q2), .second, .val (.int p3), .val (.int m3), .val (.long k0), .second, .val (.long k1), .second, .val (.long k2), .second, .val (.ref b132), .val (.ref b144), .val (.int ((1 : Int32) + (1 : Int32)))] [])) _
                  refine XS.iload X144.here hx rfl (hb hby at_191) rfl ?_
                  show Steps p.tables e below (T144.setTop (mkF m 193 #[.val (.long q0), .second, .val (.long q1), .second, .val (.long q2), .second, .val (.int p3), .val (.int m3), .val (.long k0), .second, .val (.long k1), .second, .val (.long k2), .second, .val (.ref b132), .val (.ref b144), .val (.int ((1 : Int32) + (1 : Int32)))] [(.int m3)])) _
                  refine XS.ifNo X144.here hx rfl (hb hby at_193) rfl ((if0 _ _).trans (tlt b0).2.2.2) ?_
                  show Steps p.tables e below (T144.setTop (mkF m 196 #[.val (.long q0), .second, .val (.long q1), .second, .val (.long q2), .second, .val (.int p3), .val (.int m3), .val (.long k0), .second, .val (.long k1), .second, .val (.long k2), .second, .val (.ref b132), .val (.ref b144), .val (.int ((1 : Int32) + (1 : Int32)))] [])) _
                  refine XS.aload X144.here hx rfl (hb hby at_196) rfl rfl ?_
                  show Steps p.tables e below (T144.setTop (mkF m 198 #[.val (.long q0), .second, .val (.long q1), .second, .val (.long q2), .second, .val (.int p3), .val (.int m3), .val (.long k0), .second, .val (.long k1), .second, .val (.long k2), .second, .val (.ref b132), .val (.ref b144), .val (.int ((1 : Int32) + (1 : Int32)))] [(.ref b144)])) _
                  refine XS.lload X144.here hx rfl (hb hby at_198) rfl ?_
                  show Steps p.tables e below (T144.setTop (mkF m 200 #[.val (.long q0), .second, .val (.long q1), .second, .val (.long q2), .second, .val (.int p3), .val (.int m3), .val (.long k0), .second, .val (.long k1), .second, .val (.long k2), .second, .val (.ref b132), .val (.ref b144), .val (.int ((1 : Int32) + (1 : Int32)))] [(.long k0), (.ref b144)])) _
                  exact k_
                obtain ⟨vv162, _, ⟨T162, L162, k162, n162⟩, -, X162, ⟨Lc162, hQ162, l162, y162, z162⟩, st162⟩ := Jvm.LawKit.callS X144 hx (y := (⟨"com/example/prudent_annotator/prudentannotator/profile/PairCountsKeysPinLaw", "has", "([JJ)Z"⟩ : MethodName)) hown (mvT hZ (hw _ (List.mem_of_getElem? (i := 52) rfl))) (mvT hZ (hw _ (List.mem_of_getElem? (i := 53) rfl))) (mvT hZ (hw _ (List.mem_of_getElem? (i := 2) rfl))) (mvT hZ (hw _ (List.mem_of_getElem? (i := 54) rfl))) (by decide) (backOf (W := 0) (rm10 l Z a0 hw [] b144 k0 kb144 (own_kl f142x 1024) T144.heap n0 Z144 Vx hin0 (by rw [hlen]; omega)) hZ (hw _ (List.mem_of_getElem? (i := 54) rfl)) (hw _ (List.mem_of_getElem? (i := 2) rfl)) (by decide) (by decide)) (g := (mkF m 200 #[.val (.long q0), .second, .val (.long q1), .second, .val (.long q2), .second, .val (.int p3), .val (.int m3), .val (.long k0), .second, .val (.long k1), .second, .val (.long k2), .second, .val (.ref b132), .val (.ref b144), .val (.int ((1 : Int32) + (1 : Int32)))] [(.long k0), (.ref b144)])) rfl (by rw [hml]; rfl) (argsL := [(.ref b144), (.long k0)]) (rest := []) (lenOf pd__28__5b_JJ_29_Z rfl) rfl (by show 2 * 0 + _ ≤ _; exact Nat.le_of_eq rfl) (hb hby at_200) (fun _ _ => ⟨rfl, rfl, (by decide : 4 + 0 ≤ _), (by decide : 2054 + 0 ≤ _)⟩)
                dsimp only [Pt.U, Pt.locs, Pt.cells, Pt.slots] at X162 l162 y162 z162 st162 hQ162
                subst l162 y162 z162
                obtain ⟨rfl, N162q, e162q⟩ := hQ162
                have N162 := Fr.app N144 N162q
                refine own_go (B := T162.setTop (mkF m 203 #[.val (.long q0), .second, .val (.long q1), .second, .val (.long q2), .second, .val (.int p3), .val (.int m3), .val (.long k0), .second, .val (.long k1), .second, .val (.long k2), .second, .val (.ref b132), .val (.ref b144), .val (.int ((1 : Int32) + (1 : Int32)))] [(.int (1 : Int32))])) (fun t_ k_ => st162 _ k_) ?_
                refine own_go (B := T162.setTop (mkF m 218 #[.val (.long q0), .second, .val (.long q1), .second, .val (.long q2), .second, .val (.int p3), .val (.int m3), .val (.long k0), .second, .val (.long k1), .second, .val (.long k2), .second, .val (.ref b132), .val (.ref b144), .val (.int ((1 : Int32) + (1 : Int32)))] [(.long k1), (.ref b144)])) (fun t_ k_ => ?_) ?_
                · show Steps p.tables e below (T162.setTop (mkF m 203 #[.val (.long q0), .second, .val (.long q1), .second, .val (.long q2), .second, .val (.int p3), .val (.int m3), .val (.long k0), .second, .val (.long k1), .second, .val (.long k2), .second, .val (.ref b132), .val (.ref b144), .val (.int ((1 : Int32) + (1 : Int32)))] [(.int (1 : Int32))])) _
                  refine XS.ifYes X162.here hx rfl (pc0 := 203) (pc' := 208) rfl (hb hby at_203) rfl ((if0 _ _).trans (feq (by decide : ¬ ((1 : Int32) = (0 : Int32)))).2) (by decide) (by decide) ?_
                  show Steps p.tables e below (T162.setTop (mkF m 208 #[.val (.long q0), .second, .val (.long q1), .second, .val (.long q2), .second, .val (.int p3), .val (.int m3), .val (.long k0), .second, .val (.long k1), .second, .val (.long k2), .second, .val (.ref b132), .val (.ref b144), .val (.int ((1 : Int32) + (1 : Int32)))] [])) _
                  refine XS.iload X162.here hx rfl (hb hby at_208) rfl ?_
                  show Steps p.tables e below (T162.setTop (mkF m 210 #[.val (.long q0), .second, .val (.long q1), .second, .val (.long q2), .second, .val (.int p3), .val (.int m3), .val (.long k0), .second, .val (.long k1), .second, .val (.long k2), .second, .val (.ref b132), .val (.ref b144), .val (.int ((1 : Int32) + (1 : Int32)))] [(.int m3)])) _
                  refine XS.iconst X162.here hx rfl (hb hby at_210) ?_
                  show Steps p.tables e below (T162.setTop (mkF m 211 #[.val (.long q0), .second, .val (.long q1), .second, .val (.long q2), .second, .val (.int p3), .val (.int m3), .val (.long k0), .second, .val (.long k1), .second, .val (.long k2), .second, .val (.ref b132), .val (.ref b144), .val (.int ((1 : Int32) + (1 : Int32)))] [(.int (1 : Int32)), (.int m3)])) _
                  refine XS.icmpNo X162.here hx rfl (hb hby at_211) rfl (tlt b1).2.2.2 ?_
                  show Steps p.tables e below (T162.setTop (mkF m 214 #[.val (.long q0), .second, .val (.long q1), .second, .val (.long q2), .second, .val (.int p3), .val (.int m3), .val (.long k0), .second, .val (.long k1), .second, .val (.long k2), .second, .val (.ref b132), .val (.ref b144), .val (.int ((1 : Int32) + (1 : Int32)))] [])) _
                  refine XS.aload X162.here hx rfl (hb hby at_214) rfl rfl ?_
                  show Steps p.tables e below (T162.setTop (mkF m 216 #[.val (.long q0), .second, .val (.long q1), .second, .val (.long q2), .second, .val (.int p3), .val (.int m3), .val (.long k0), .second, .val (.long k1), .second, .val (.long k2), .second, .val (.ref b132), .val (.ref b144), .val (.int ((1 : Int32) + (1 : Int32)))] [(.ref b144)])) _
                  refine XS.lload X162.here hx rfl (hb hby at_216) rfl ?_
                  show Steps p.tables e below (T162.setTop (mkF m 218 #[.val (.long q0), .second, .val (.long q1), .second, .val (.long q2), .second, .val (.int p3), .val (.int m3), .val (.long k0), .second, .val (.long k1), .second, .val (.long k2), .second, .val (.ref b132), .val (.ref b144), .val (.int ((1 : Int32) + (1 : Int32)))] [(.long k1), (.ref b144)])) _
                  exact k_
                obtain ⟨vv163, _, ⟨T163, L163, k163, n163⟩, -, X163, ⟨Lc163, hQ163, l163, y163, z163⟩, st163⟩ := Jvm.LawKit.callS X162 hx (y := (⟨"com/example/prudent_annotator/prudentannotator/profile/PairCountsKeysPinLaw", "has", "([JJ)Z"⟩ : MethodName)) hown (mvT hZ (hw _ (List.mem_of_getElem? (i := 52) rfl))) (mvT hZ (hw _ (List.mem_of_getElem? (i := 53) rfl))) (mvT hZ (hw _ (List.mem_of_getElem? (i := 2) rfl))) (mvT hZ (hw _ (List.mem_of_getElem? (i := 54) rfl))) (by decide) (backOf (W := 0) (rm10 l Z a0 hw [] b144 k1 kb144 (own_kl f142x 1024) T144.heap n0 Z144 Vx hin1 (by rw [hlen]; omega)) hZ (hw _ (List.mem_of_getElem? (i := 54) rfl)) (hw _ (List.mem_of_getElem? (i := 2) rfl)) (by decide) (by decide)) (g := (mkF m 218 #[.val (.long q0), .second, .val (.long q1), .second, .val (.long q2), .second, .val (.int p3), .val (.int m3), .val (.long k0), .second, .val (.long k1), .second, .val (.long k2), .second, .val (.ref b132), .val (.ref b144), .val (.int ((1 : Int32) + (1 : Int32)))] [(.long k1), (.ref b144)])) rfl (by rw [hml]; rfl) (argsL := [(.ref b144), (.long k1)]) (rest := []) (lenOf pd__28__5b_JJ_29_Z rfl) rfl (by show 2 * 0 + _ ≤ _; exact Nat.le_of_eq rfl) (hb hby at_218) (fun _ _ => ⟨rfl, e162q, (by decide : 4 + 0 ≤ _), (by decide : 2054 + 0 ≤ _)⟩)
                dsimp only [Pt.U, Pt.locs, Pt.cells, Pt.slots] at X163 l163 y163 z163 st163 hQ163
                subst l163 y163 z163
                obtain ⟨rfl, N163q, e163q⟩ := hQ163
                have N163 := Fr.app N162 N163q
                refine own_go (B := T163.setTop (mkF m 221 #[.val (.long q0), .second, .val (.long q1), .second, .val (.long q2), .second, .val (.int p3), .val (.int m3), .val (.long k0), .second, .val (.long k1), .second, .val (.long k2), .second, .val (.ref b132), .val (.ref b144), .val (.int ((1 : Int32) + (1 : Int32)))] [(.int (1 : Int32))])) (fun t_ k_ => st163 _ k_) ?_
                refine own_go (B := T163.setTop (mkF m 236 #[.val (.long q0), .second, .val (.long q1), .second, .val (.long q2), .second, .val (.int p3), .val (.int m3), .val (.long k0), .second, .val (.long k1), .second, .val (.long k2), .second, .val (.ref b132), .val (.ref b144), .val (.int ((1 : Int32) + (1 : Int32)))] [(.long k2), (.ref b144)])) (fun t_ k_ => ?_) ?_
                · show Steps p.tables e below (T163.setTop (mkF m 221 #[.val (.long q0), .second, .val (.long q1), .second, .val (.long q2), .second, .val (.int p3), .val (.int m3), .val (.long k0), .second, .val (.long k1), .second, .val (.long k2), .second, .val (.ref b132), .val (.ref b144), .val (.int ((1 : Int32) + (1 : Int32)))] [(.int (1 : Int32))])) _
                  refine XS.ifYes X163.here hx rfl (pc0 := 221) (pc' := 226) rfl (hb hby at_221) rfl ((if0 _ _).trans (feq (by decide : ¬ ((1 : Int32) = (0 : Int32)))).2) (by decide) (by decide) ?_
                  show Steps p.tables e below (T163.setTop (mkF m 226 #[.val (.long q0), .second, .val (.long q1), .second, .val (.long q2), .second, .val (.int p3), .val (.int m3), .val (.long k0), .second, .val (.long k1), .second, .val (.long k2), .second, .val (.ref b132), .val (.ref b144), .val (.int ((1 : Int32) + (1 : Int32)))] [])) _
                  refine XS.iload X163.here hx rfl (hb hby at_226) rfl ?_
                  show Steps p.tables e below (T163.setTop (mkF m 228 #[.val (.long q0), .second, .val (.long q1), .second, .val (.long q2), .second, .val (.int p3), .val (.int m3), .val (.long k0), .second, .val (.long k1), .second, .val (.long k2), .second, .val (.ref b132), .val (.ref b144), .val (.int ((1 : Int32) + (1 : Int32)))] [(.int m3)])) _
                  refine XS.iconst X163.here hx rfl (hb hby at_228) ?_
                  show Steps p.tables e below (T163.setTop (mkF m 229 #[.val (.long q0), .second, .val (.long q1), .second, .val (.long q2), .second, .val (.int p3), .val (.int m3), .val (.long k0), .second, .val (.long k1), .second, .val (.long k2), .second, .val (.ref b132), .val (.ref b144), .val (.int ((1 : Int32) + (1 : Int32)))] [(.int (2 : Int32)), (.int m3)])) _
                  refine XS.icmpNo X163.here hx rfl (hb hby at_229) rfl (tlt b2).2.2.2 ?_
                  show Steps p.tables e below (T163.setTop (mkF m 232 #[.val (.long q0), .second, .val (.long q1), .second, .val (.long q2), .second, .val (.int p3), .val (.int m3), .val (.long k0), .second, .val (.long k1), .second, .val (.long k2), .second, .val (.ref b132), .val (.ref b144), .val (.int ((1 : Int32) + (1 : Int32)))] [])) _
                  refine XS.aload X163.here hx rfl (hb hby at_232) rfl rfl ?_
                  show Steps p.tables e below (T163.setTop (mkF m 234 #[.val (.long q0), .second, .val (.long q1), .second, .val (.long q2), .second, .val (.int p3), .val (.int m3), .val (.long k0), .second, .val (.long k1), .second, .val (.long k2), .second, .val (.ref b132), .val (.ref b144), .val (.int ((1 : Int32) + (1 : Int32)))] [(.ref b144)])) _
                  refine XS.lload X163.here hx rfl (hb hby at_234) rfl ?_
                  show Steps p.tables e below (T163.setTop (mkF m 236 #[.val (.long q0), .second, .val (.long q1), .second, .val (.long q2), .second, .val (.int p3), .val (.int m3), .val (.long k0), .second, .val (.long k1), .second, .val (.long k2), .second, .val (.ref b132), .val (.ref b144), .val (.int ((1 : Int32) + (1 : Int32)))] [(.long k2), (.ref b144)])) _
                  exact k_
                obtain ⟨vv164, _, ⟨T164, L164, k164, n164⟩, -, X164, ⟨Lc164, hQ164, l164, y164, z164⟩, st164⟩ := Jvm.LawKit.callS X163 hx (y := (⟨"com/example/prudent_annotator/prudentannotator/profile/PairCountsKeysPinLaw", "has", "([JJ)Z"⟩ : MethodName)) hown (mvT hZ (hw _ (List.mem_of_getElem? (i := 52) rfl))) (mvT hZ (hw _ (List.mem_of_getElem? (i := 53) rfl))) (mvT hZ (hw _ (List.mem_of_getElem? (i := 2) rfl))) (mvT hZ (hw _ (List.mem_of_getElem? (i := 54) rfl))) (by decide) (backOf (W := 0) (rm10 l Z a0 hw [] b144 k2 kb144 (own_kl f142x 1024) T144.heap n0 Z144 Vx hin2 (by rw [hlen]; omega)) hZ (hw _ (List.mem_of_getElem? (i := 54) rfl)) (hw _ (List.mem_of_getElem? (i := 2) rfl)) (by decide) (by decide)) (g := (mkF m 236 #[.val (.long q0), .second, .val (.long q1), .second, .val (.long q2), .second, .val (.int p3), .val (.int m3), .val (.long k0), .second, .val (.long k1), .second, .val (.long k2), .second, .val (.ref b132), .val (.ref b144), .val (.int ((1 : Int32) + (1 : Int32)))] [(.long k2), (.ref b144)])) rfl (by rw [hml]; rfl) (argsL := [(.ref b144), (.long k2)]) (rest := []) (lenOf pd__28__5b_JJ_29_Z rfl) rfl (by show 2 * 0 + _ ≤ _; exact Nat.le_of_eq rfl) (hb hby at_236) (fun _ _ => ⟨rfl, e163q, (by decide : 4 + 0 ≤ _), (by decide : 2054 + 0 ≤ _)⟩)
                dsimp only [Pt.U, Pt.locs, Pt.cells, Pt.slots] at X164 l164 y164 z164 st164 hQ164
                subst l164 y164 z164
                obtain ⟨rfl, N164q, e164q⟩ := hQ164
                have N164 := Fr.app N163 N164q
                refine own_go (B := T164.setTop (mkF m 239 #[.val (.long q0), .second, .val (.long q1), .second, .val (.long q2), .second, .val (.int p3), .val (.int m3), .val (.long k0), .second, .val (.long k1), .second, .val (.long k2), .second, .val (.ref b132), .val (.ref b144), .val (.int ((1 : Int32) + (1 : Int32)))] [(.int (1 : Int32))])) (fun t_ k_ => st164 _ k_) ?_
                refine own_go (B := T164.setTop (mkF m 245 #[.val (.long q0), .second, .val (.long q1), .second, .val (.long q2), .second, .val (.int p3), .val (.int m3), .val (.long k0), .second, .val (.long k1), .second, .val (.long k2), .second, .val (.ref b132), .val (.ref b144), .val (.int ((1 : Int32) + (1 : Int32)))] [(.int (1 : Int32))])) (fun t_ k_ => ?_) ?_
                · show Steps p.tables e below (T164.setTop (mkF m 239 #[.val (.long q0), .second, .val (.long q1), .second, .val (.long q2), .second, .val (.int p3), .val (.int m3), .val (.long k0), .second, .val (.long k1), .second, .val (.long k2), .second, .val (.ref b132), .val (.ref b144), .val (.int ((1 : Int32) + (1 : Int32)))] [(.int (1 : Int32))])) _
                  refine XS.ifYes X164.here hx rfl (pc0 := 239) (pc' := 244) rfl (hb hby at_239) rfl ((if0 _ _).trans (feq (by decide : ¬ ((1 : Int32) = (0 : Int32)))).2) (by decide) (by decide) ?_
                  show Steps p.tables e below (T164.setTop (mkF m 244 #[.val (.long q0), .second, .val (.long q1), .second, .val (.long q2), .second, .val (.int p3), .val (.int m3), .val (.long k0), .second, .val (.long k1), .second, .val (.long k2), .second, .val (.ref b132), .val (.ref b144), .val (.int ((1 : Int32) + (1 : Int32)))] [])) _
                  refine XS.iconst X164.here hx rfl (hb hby at_244) ?_
                  show Steps p.tables e below (T164.setTop (mkF m 245 #[.val (.long q0), .second, .val (.long q1), .second, .val (.long q2), .second, .val (.int p3), .val (.int m3), .val (.long k0), .second, .val (.long k1), .second, .val (.long k2), .second, .val (.ref b132), .val (.ref b144), .val (.int ((1 : Int32) + (1 : Int32)))] [(.int (1 : Int32))])) _
                  exact k_
                obtain ⟨fs, hr, hrun, hended, hW, hsame⟩ := X164.leave (v := some (.int (1 : Int32))) (fun h => by rw [Bd.returns] at h; cases h)
                refine own_at ?_ (hG _ _ ⟨hrun, hended, _, _, rfl, ?_, ⟨_, rfl⟩, hW, hsame.mono (by decide) (by decide)⟩)
                · show Steps p.tables e below (T164.setTop (mkF m 245 #[.val (.long q0), .second, .val (.long q1), .second, .val (.long q2), .second, .val (.int p3), .val (.int m3), .val (.long k0), .second, .val (.long k1), .second, .val (.long k2), .second, .val (.ref b132), .val (.ref b144), .val (.int ((1 : Int32) + (1 : Int32)))] [(.int (1 : Int32))])) _
                  exact retN X164 hx (t := .boolean) Bd.returns (by simp) (hb hby at_245) hr
                · show Q0 Z q0 q1 q2 p3 h0 n0 _ T164.heap _
                  rw [e164q]
                  exact ⟨rfl, N164⟩
          · refine own_go (B := T144.setTop (mkF m 159 #[.val (.long q0), .second, .val (.long q1), .second, .val (.long q2), .second, .val (.int p3), .val (.int m3), .val (.long k0), .second, .val (.long k1), .second, .val (.long k2), .second, .val (.ref b132), .val (.ref b144), .val (.int ((1 : Int32) + (1 : Int32)))] [(.int (lcmpW k2 k0))])) (fun t_ k_ => ?_) ?_
            · show Steps p.tables e below (T144.setTop (mkF m 139 #[.val (.long q0), .second, .val (.long q1), .second, .val (.long q2), .second, .val (.int p3), .val (.int m3), .val (.long k0), .second, .val (.long k1), .second, .val (.long k2), .second, .val (.ref b132), .val (.ref b144), .val (.int (1 : Int32))] [(.int (lcmpW k1 k0))])) _
              refine XS.ifNo X144.here hx rfl (hb hby at_139) rfl ((if0 _ _).trans (feq (mt (lw_eq _ _).mp d10)).1) ?_
              show Steps p.tables e below (T144.setTop (mkF m 142 #[.val (.long q0), .second, .val (.long q1), .second, .val (.long q2), .second, .val (.int p3), .val (.int m3), .val (.long k0), .second, .val (.long k1), .second, .val (.long k2), .second, .val (.ref b132), .val (.ref b144), .val (.int (1 : Int32))] [])) _
              refine XS.iload X144.here hx rfl (hb hby at_142) rfl ?_
              show Steps p.tables e below (T144.setTop (mkF m 144 #[.val (.long q0), .second, .val (.long q1), .second, .val (.long q2), .second, .val (.int p3), .val (.int m3), .val (.long k0), .second, .val (.long k1), .second, .val (.long k2), .second, .val (.ref b132), .val (.ref b144), .val (.int (1 : Int32))] [(.int (1 : Int32))])) _
              refine XS.iconst X144.here hx rfl (hb hby at_144) ?_
              show Steps p.tables e below (T144.setTop (mkF m 145 #[.val (.long q0), .second, .val (.long q1), .second, .val (.long q2), .second, .val (.int p3), .val (.int m3), .val (.long k0), .second, .val (.long k1), .second, .val (.long k2), .second, .val (.ref b132), .val (.ref b144), .val (.int (1 : Int32))] [(.int (1 : Int32)), (.int (1 : Int32))])) _
              refine XS.iadd X144.here hx rfl (hb hby at_145) rfl ?_
              show Steps p.tables e below (T144.setTop (mkF m 146 #[.val (.long q0), .second, .val (.long q1), .second, .val (.long q2), .second, .val (.int p3), .val (.int m3), .val (.long k0), .second, .val (.long k1), .second, .val (.long k2), .second, .val (.ref b132), .val (.ref b144), .val (.int (1 : Int32))] [(.int ((1 : Int32) + (1 : Int32)))])) _
              refine XS.istore X144.here hx rfl (hb hby at_146) rfl (l' := #[.val (.long q0), .second, .val (.long q1), .second, .val (.long q2), .second, .val (.int p3), .val (.int m3), .val (.long k0), .second, .val (.long k1), .second, .val (.long k2), .second, .val (.ref b132), .val (.ref b144), .val (.int ((1 : Int32) + (1 : Int32)))]) rfl ?_
              show Steps p.tables e below (T144.setTop (mkF m 148 #[.val (.long q0), .second, .val (.long q1), .second, .val (.long q2), .second, .val (.int p3), .val (.int m3), .val (.long k0), .second, .val (.long k1), .second, .val (.long k2), .second, .val (.ref b132), .val (.ref b144), .val (.int ((1 : Int32) + (1 : Int32)))] [])) _
              refine XS.iload X144.here hx rfl (hb hby at_148) rfl ?_
              show Steps p.tables e below (T144.setTop (mkF m 150 #[.val (.long q0), .second, .val (.long q1), .second, .val (.long q2), .second, .val (.int p3), .val (.int m3), .val (.long k0), .second, .val (.long k1), .second, .val (.long k2), .second, .val (.ref b132), .val (.ref b144), .val (.int ((1 : Int32) + (1 : Int32)))] [(.int m3)])) _
              refine XS.iconst X144.here hx rfl (hb hby at_150) ?_
              show Steps p.tables e below (T144.setTop (mkF m 151 #[.val (.long q0), .second, .val (.long q1), .second, .val (.long q2), .second, .val (.int p3), .val (.int m3), .val (.long k0), .second, .val (.long k1), .second, .val (.long k2), .second, .val (.ref b132), .val (.ref b144), .val (.int ((1 : Int32) + (1 : Int32)))] [(.int (2 : Int32)), (.int m3)])) _
              refine XS.icmpNo X144.here hx rfl (hb hby at_151) rfl (tlt b2).2.2.2 ?_
              show Steps p.tables e below (T144.setTop (mkF m 154 #[.val (.long q0), .second, .val (.long q1), .second, .val (.long q2), .second, .val (.int p3), .val (.int m3), .val (.long k0), .second, .val (.long k1), .second, .val (.long k2), .second, .val (.ref b132), .val (.ref b144), .val (.int ((1 : Int32) + (1 : Int32)))] [])) _
              refine XS.lload X144.here hx rfl (hb hby at_154) rfl ?_
              show Steps p.tables e below (T144.setTop (mkF m 156 #[.val (.long q0), .second, .val (.long q1), .second, .val (.long q2), .second, .val (.int p3), .val (.int m3), .val (.long k0), .second, .val (.long k1), .second, .val (.long k2), .second, .val (.ref b132), .val (.ref b144), .val (.int ((1 : Int32) + (1 : Int32)))] [(.long k2)])) _
              refine XS.lload X144.here hx rfl (hb hby at_156) rfl ?_
              show Steps p.tables e below (T144.setTop (mkF m 158 #[.val (.long q0), .second, .val (.long q1), .second, .val (.long q2), .second, .val (.int p3), .val (.int m3), .val (.long k0), .second, .val (.long k1), .second, .val (.long k2), .second, .val (.ref b132), .val (.ref b144), .val (.int ((1 : Int32) + (1 : Int32)))] [(.long k0), (.long k2)])) _
              refine XS.lcmp X144.here hx rfl (hb hby at_158) rfl ?_
              show Steps p.tables e below (T144.setTop (mkF m 159 #[.val (.long q0), .second, .val (.long q1), .second, .val (.long q2), .second, .val (.int p3), .val (.int m3), .val (.long k0), .second, .val (.long k1), .second, .val (.long k2), .second, .val (.ref b132), .val (.ref b144), .val (.int ((1 : Int32) + (1 : Int32)))] [(.int (lcmpW k2 k0))])) _
              exact k_
            by_cases d20 : k2 = k0
            · refine own_go (B := T144.setTop (mkF m 183 #[.val (.long q0), .second, .val (.long q1), .second, .val (.long q2), .second, .val (.int p3), .val (.int m3), .val (.long k0), .second, .val (.long k1), .second, .val (.long k2), .second, .val (.ref b132), .val (.ref b144), .val (.int ((1 : Int32) + (1 : Int32)))] [(.ref b144)])) (fun t_ k_ => ?_) ?_
              · show Steps p.tables e below (T144.setTop (mkF m 159 #[.val (.long q0), .second, .val (.long q1), .second, .val (.long q2), .second, .val (.int p3), .val (.int m3), .val (.long k0), .second, .val (.long k1), .second, .val (.long k2), .second, .val (.ref b132), .val (.ref b144), .val (.int ((1 : Int32) + (1 : Int32)))] [(.int (lcmpW k2 k0))])) _
                refine XS.ifYes X144.here hx rfl (pc0 := 159) (pc' := 176) rfl (hb hby at_159) rfl ((if0 _ _).trans (teq ((lw_eq _ _).mpr d20)).1) (by decide) (by decide) ?_
                show Steps p.tables e below (T144.setTop (mkF m 176 #[.val (.long q0), .second, .val (.long q1), .second, .val (.long q2), .second, .val (.int p3), .val (.int m3), .val (.long k0), .second, .val (.long k1), .second, .val (.long k2), .second, .val (.ref b132), .val (.ref b144), .val (.int ((1 : Int32) + (1 : Int32)))] [])) _
                refine XS.aload X144.here hx rfl (hb hby at_176) rfl rfl ?_
                show Steps p.tables e below (T144.setTop (mkF m 178 #[.val (.long q0), .second, .val (.long q1), .second, .val (.long q2), .second, .val (.int p3), .val (.int m3), .val (.long k0), .second, .val (.long k1), .second, .val (.long k2), .second, .val (.ref b132), .val (.ref b144), .val (.int ((1 : Int32) + (1 : Int32)))] [(.ref b144)])) _
                refine XS.ifnullNo X144.here hx rfl (hb hby at_178) rfl ?_
                show Steps p.tables e below (T144.setTop (mkF m 181 #[.val (.long q0), .second, .val (.long q1), .second, .val (.long q2), .second, .val (.int p3), .val (.int m3), .val (.long k0), .second, .val (.long k1), .second, .val (.long k2), .second, .val (.ref b132), .val (.ref b144), .val (.int ((1 : Int32) + (1 : Int32)))] [])) _
                refine XS.aload X144.here hx rfl (hb hby at_181) rfl rfl ?_
                show Steps p.tables e below (T144.setTop (mkF m 183 #[.val (.long q0), .second, .val (.long q1), .second, .val (.long q2), .second, .val (.int p3), .val (.int m3), .val (.long k0), .second, .val (.long k1), .second, .val (.long k2), .second, .val (.ref b132), .val (.ref b144), .val (.int ((1 : Int32) + (1 : Int32)))] [(.ref b144)])) _
                exact k_
              obtain ⟨cl166, Ar166, -, S166, M166, -, -⟩ := id u144
              refine own_go (B := T144.setTop (mkF m 184 #[.val (.long q0), .second, .val (.long q1), .second, .val (.long q2), .second, .val (.int p3), .val (.int m3), .val (.long k0), .second, .val (.long k1), .second, .val (.long k2), .second, .val (.ref b132), .val (.ref b144), .val (.int ((1 : Int32) + (1 : Int32)))] [(.int (Int32.ofNat n142x))])) (fun t_ k_ => ?_) ?_
              · refine X144.arraylength hx Ar166.1 (State.isArrayOf_alike hZ.alike Ar166.2.1) (g := (mkF m 183 #[.val (.long q0), .second, .val (.long q1), .second, .val (.long q2), .second, .val (.int p3), .val (.int m3), .val (.long k0), .second, .val (.long k1), .second, .val (.long k2), .second, .val (.ref b132), .val (.ref b144), .val (.int ((1 : Int32) + (1 : Int32)))] [(.ref b144)])) rfl rfl (hb hby at_183) _ ?_
                rw [len_of S166 M166]
                exact k_
              refine own_go (B := T144.setTop (mkF m 191 #[.val (.long q0), .second, .val (.long q1), .second, .val (.long q2), .second, .val (.int p3), .val (.int m3), .val (.long k0), .second, .val (.long k1), .second, .val (.long k2), .second, .val (.ref b132), .val (.ref b144), .val (.int ((1 : Int32) + (1 : Int32)))] [])) (fun t_ k_ => ?_) ?_
              · show Steps p.tables e below (T144.setTop (mkF m 184 #[.val (.long q0), .second, .val (.long q1), .second, .val (.long q2), .second, .val (.int p3), .val (.int m3), .val (.long k0), .second, .val (.long k1), .second, .val (.long k2), .second, .val (.ref b132), .val (.ref b144), .val (.int ((1 : Int32) + (1 : Int32)))] [(.int (Int32.ofNat n142x))])) _
                refine XS.iload X144.here hx rfl (hb hby at_184) rfl ?_
                show Steps p.tables e below (T144.setTop (mkF m 186 #[.val (.long q0), .second, .val (.long q1), .second, .val (.long q2), .second, .val (.int p3), .val (.int m3), .val (.long k0), .second, .val (.long k1), .second, .val (.long k2), .second, .val (.ref b132), .val (.ref b144), .val (.int ((1 : Int32) + (1 : Int32)))] [(.int ((1 : Int32) + (1 : Int32))), (.int (Int32.ofNat n142x))])) _
                refine XS.icmpYes X144.here hx rfl (pc0 := 186) (pc' := 191) rfl (hb hby at_186) rfl (teq (by have e2 : n140x = 2 := (by have := new140 (fun q => d10 (on_1 k1 hk1 q)); omega); have e3 : n142x = n140x := old142 (by rw [d20]; exact me0_2); rw [e3, e2]; rfl)).1 (by decide) (by decide) ?_
                show Steps p.tables e below (T144.setTop (mkF m 191 #[.val (.long q0), .second, .val (.long q1), .second, .val (.long q2), .second, .val (.int p3), .val (.int m3), .val (.long k0), .second, .val (.long k1), .second, .val (.long k2), .second, .val (.ref b132), .val (.ref b144), .val (.int ((1 : Int32) + (1 : Int32)))] [])) _
                exact k_
              have hlen : (own_kl f142x 1024).length = n142x := ok142.2
              have Vx : Arv Z T144.heap b144 kb144 .long (Int32.ofNat (own_kl f142x 1024).length) ((own_kl f142x 1024).map Value.long) (.long (0 : Int64)) := by rw [hlen]; exact u144
              have hin0 : k0 ∈ own_kl f142x 1024 := own_kl_mem.mpr ⟨hk0, me0_3⟩
              have hin1 : k1 ∈ own_kl f142x 1024 := own_kl_mem.mpr ⟨hk1, me1_3⟩
              have hin2 : k2 ∈ own_kl f142x 1024 := own_kl_mem.mpr ⟨hk2, me2_3⟩
              refine own_go (B := T144.setTop (mkF m 200 #[.val (.long q0), .second, .val (.long q1), .second, .val (.long q2), .second, .val (.int p3), .val (.int m3), .val (.long k0), .second, .val (.long k1), .second, .val (.long k2), .second, .val (.ref b132), .val (.ref b144), .val (.int ((1 : Int32) + (1 : Int32)))] [(.long k0), (.ref b144)])) (fun t_ k_ => ?_) ?_
              · show Steps p.tables e below (T144.setTop (mkF m 191 #[.val (.long q0), .second, .val (.long q1), .second, .val (.long q2), .second, .val (.int p3), .val (.int m3), .val (.long k0), .second, .val (.long k1), .second, .val (.long k2), .second, .val (.ref b132), .val (.ref b144), .val (.int ((1 : Int32) + (1 : Int32)))] [])) _
                refine XS.iload X144.here hx rfl (hb hby at_191) rfl ?_
                show Steps p.tables e below (T144.setTop (mkF m 193 #[.val (.long q0), .second, .val (.long q1), .second, .val (.long q2), .second, .val (.int p3), .val (.int m3), .val (.long k0), .second, .val (.long k1), .second, .val (.long k2), .second, .val (.ref b132), .val (.ref b144), .val (.int ((1 : Int32) + (1 : Int32)))] [(.int m3)])) _
                refine XS.ifNo X144.here hx rfl (hb hby at_193) rfl ((if0 _ _).trans (tlt b0).2.2.2) ?_
                show Steps p.tables e below (T144.setTop (mkF m 196 #[.val (.long q0), .second, .val (.long q1), .second, .val (.long q2), .second, .val (.int p3), .val (.int m3), .val (.long k0), .second, .val (.long k1), .second, .val (.long k2), .second, .val (.ref b132), .val (.ref b144), .val (.int ((1 : Int32) + (1 : Int32)))] [])) _
                refine XS.aload X144.here hx rfl (hb hby at_196) rfl rfl ?_
                show Steps p.tables e below (T144.setTop (mkF m 198 #[.val (.long q0), .second, .val (.long q1), .second, .val (.long q2), .second, .val (.int p3), .val (.int m3), .val (.long k0), .second, .val (.long k1), .second, .val (.long k2), .second, .val (.ref b132), .val (.ref b144), .val (.int ((1 : Int32) + (1 : Int32)))] [(.ref b144)])) _
                refine XS.lload X144.here hx rfl (hb hby at_198) rfl ?_
                show Steps p.tables e below (T144.setTop (mkF m 200 #[.val (.long q0), .second, .val (.long q1), .second, .val (.long q2), .second, .val (.int p3), .val (.int m3), .val (.long k0), .second, .val (.long k1), .second, .val (.long k2), .second, .val (.ref b132), .val (.ref b144), .val (.int ((1 : Int32) + (1 : Int32)))] [(.long k0), (.ref b144)])) _
                exact k_
              obtain ⟨vv167, _, ⟨T167, L167, k167, n167⟩, -, X167, ⟨Lc167, hQ167, l167, y167, z167⟩, st167⟩ := Jvm.LawKit.callS X144 hx (y := (⟨"com/example/prudent_annotator/prudentannotator/profile/PairCountsKeysPinLaw", "has", "([JJ)Z"⟩ : MethodName)) hown (mvT hZ (hw _ (List.mem_of_getElem? (i := 52) rfl))) (mvT hZ (hw _ (List.mem_of_getElem? (i := 53) rfl))) (mvT hZ (hw _ (List.mem_of_getElem? (i := 2) rfl))) (mvT hZ (hw _ (List.mem_of_getElem? (i := 54) rfl))) (by decide) (backOf (W := 0) (rm10 l Z a0 hw [] b144 k0 kb144 (own_kl f142x 1024) T144.heap n0 Z144 Vx hin0 (by rw [hlen]; omega)) hZ (hw _ (List.mem_of_getElem? (i := 54) rfl)) (hw _ (List.mem_of_getElem? (i := 2) rfl)) (by decide) (by decide)) (g := (mkF m 200 #[.val (.long q0), .second, .val (.long q1), .second, .val (.long q2), .second, .val (.int p3), .val (.int m3), .val (.long k0), .second, .val (.long k1), .second, .val (.long k2), .second, .val (.ref b132), .val (.ref b144), .val (.int ((1 : Int32) + (1 : Int32)))] [(.long k0), (.ref b144)])) rfl (by rw [hml]; rfl) (argsL := [(.ref b144), (.long k0)]) (rest := []) (lenOf pd__28__5b_JJ_29_Z rfl) rfl (by show 2 * 0 + _ ≤ _; exact Nat.le_of_eq rfl) (hb hby at_200) (fun _ _ => ⟨rfl, rfl, (by decide : 4 + 0 ≤ _), (by decide : 2054 + 0 ≤ _)⟩)
              dsimp only [Pt.U, Pt.locs, Pt.cells, Pt.slots] at X167 l167 y167 z167 st167 hQ167
              subst l167 y167 z167
              obtain ⟨rfl, N167q, e167q⟩ := hQ167
              have N167 := Fr.app N144 N167q
              refine own_go (B := T167.setTop (mkF m 203 #[.val (.long q0), .second, .val (.long q1), .second, .val (.long q2), .second, .val (.int p3), .val (.int m3), .val (.long k0), .second, .val (.long k1), .second, .val (.long k2), .second, .val (.ref b132), .val (.ref b144), .val (.int ((1 : Int32) + (1 : Int32)))] [(.int (1 : Int32))])) (fun t_ k_ => st167 _ k_) ?_
              refine own_go (B := T167.setTop (mkF m 218 #[.val (.long q0), .second, .val (.long q1), .second, .val (.long q2), .second, .val (.int p3), .val (.int m3), .val (.long k0), .second, .val (.long k1), .second, .val (.long k2), .second, .val (.ref b132), .val (.ref b144), .val (.int ((1 : Int32) + (1 : Int32)))] [(.long k1), (.ref b144)])) (fun t_ k_ => ?_) ?_
              · show Steps p.tables e below (T167.setTop (mkF m 203 #[.val (.long q0), .second, .val (.long q1), .second, .val (.long q2), .second, .val (.int p3), .val (.int m3), .val (.long k0), .second, .val (.long k1), .second, .val (.long k2), .second, .val (.ref b132), .val (.ref b144), .val (.int ((1 : Int32) + (1 : Int32)))] [(.int (1 : Int32))])) _
                refine XS.ifYes X167.here hx rfl (pc0 := 203) (pc' := 208) rfl (hb hby at_203) rfl ((if0 _ _).trans (feq (by decide : ¬ ((1 : Int32) = (0 : Int32)))).2) (by decide) (by decide) ?_
                show Steps p.tables e below (T167.setTop (mkF m 208 #[.val (.long q0), .second, .val (.long q1), .second, .val (.long q2), .second, .val (.int p3), .val (.int m3), .val (.long k0), .second, .val (.long k1), .second, .val (.long k2), .second, .val (.ref b132), .val (.ref b144), .val (.int ((1 : Int32) + (1 : Int32)))] [])) _
                refine XS.iload X167.here hx rfl (hb hby at_208) rfl ?_
                show Steps p.tables e below (T167.setTop (mkF m 210 #[.val (.long q0), .second, .val (.long q1), .second, .val (.long q2), .second, .val (.int p3), .val (.int m3), .val (.long k0), .second, .val (.long k1), .second, .val (.long k2), .second, .val (.ref b132), .val (.ref b144), .val (.int ((1 : Int32) + (1 : Int32)))] [(.int m3)])) _
                refine XS.iconst X167.here hx rfl (hb hby at_210) ?_
                show Steps p.tables e below (T167.setTop (mkF m 211 #[.val (.long q0), .second, .val (.long q1), .second, .val (.long q2), .second, .val (.int p3), .val (.int m3), .val (.long k0), .second, .val (.long k1), .second, .val (.long k2), .second, .val (.ref b132), .val (.ref b144), .val (.int ((1 : Int32) + (1 : Int32)))] [(.int (1 : Int32)), (.int m3)])) _
                refine XS.icmpNo X167.here hx rfl (hb hby at_211) rfl (tlt b1).2.2.2 ?_
                show Steps p.tables e below (T167.setTop (mkF m 214 #[.val (.long q0), .second, .val (.long q1), .second, .val (.long q2), .second, .val (.int p3), .val (.int m3), .val (.long k0), .second, .val (.long k1), .second, .val (.long k2), .second, .val (.ref b132), .val (.ref b144), .val (.int ((1 : Int32) + (1 : Int32)))] [])) _
                refine XS.aload X167.here hx rfl (hb hby at_214) rfl rfl ?_
                show Steps p.tables e below (T167.setTop (mkF m 216 #[.val (.long q0), .second, .val (.long q1), .second, .val (.long q2), .second, .val (.int p3), .val (.int m3), .val (.long k0), .second, .val (.long k1), .second, .val (.long k2), .second, .val (.ref b132), .val (.ref b144), .val (.int ((1 : Int32) + (1 : Int32)))] [(.ref b144)])) _
                refine XS.lload X167.here hx rfl (hb hby at_216) rfl ?_
                show Steps p.tables e below (T167.setTop (mkF m 218 #[.val (.long q0), .second, .val (.long q1), .second, .val (.long q2), .second, .val (.int p3), .val (.int m3), .val (.long k0), .second, .val (.long k1), .second, .val (.long k2), .second, .val (.ref b132), .val (.ref b144), .val (.int ((1 : Int32) + (1 : Int32)))] [(.long k1), (.ref b144)])) _
                exact k_
              obtain ⟨vv168, _, ⟨T168, L168, k168, n168⟩, -, X168, ⟨Lc168, hQ168, l168, y168, z168⟩, st168⟩ := Jvm.LawKit.callS X167 hx (y := (⟨"com/example/prudent_annotator/prudentannotator/profile/PairCountsKeysPinLaw", "has", "([JJ)Z"⟩ : MethodName)) hown (mvT hZ (hw _ (List.mem_of_getElem? (i := 52) rfl))) (mvT hZ (hw _ (List.mem_of_getElem? (i := 53) rfl))) (mvT hZ (hw _ (List.mem_of_getElem? (i := 2) rfl))) (mvT hZ (hw _ (List.mem_of_getElem? (i := 54) rfl))) (by decide) (backOf (W := 0) (rm10 l Z a0 hw [] b144 k1 kb144 (own_kl f142x 1024) T144.heap n0 Z144 Vx hin1 (by rw [hlen]; omega)) hZ (hw _ (List.mem_of_getElem? (i := 54) rfl)) (hw _ (List.mem_of_getElem? (i := 2) rfl)) (by decide) (by decide)) (g := (mkF m 218 #[.val (.long q0), .second, .val (.long q1), .second, .val (.long q2), .second, .val (.int p3), .val (.int m3), .val (.long k0), .second, .val (.long k1), .second, .val (.long k2), .second, .val (.ref b132), .val (.ref b144), .val (.int ((1 : Int32) + (1 : Int32)))] [(.long k1), (.ref b144)])) rfl (by rw [hml]; rfl) (argsL := [(.ref b144), (.long k1)]) (rest := []) (lenOf pd__28__5b_JJ_29_Z rfl) rfl (by show 2 * 0 + _ ≤ _; exact Nat.le_of_eq rfl) (hb hby at_218) (fun _ _ => ⟨rfl, e167q, (by decide : 4 + 0 ≤ _), (by decide : 2054 + 0 ≤ _)⟩)
              dsimp only [Pt.U, Pt.locs, Pt.cells, Pt.slots] at X168 l168 y168 z168 st168 hQ168
              subst l168 y168 z168
              obtain ⟨rfl, N168q, e168q⟩ := hQ168
              have N168 := Fr.app N167 N168q
              refine own_go (B := T168.setTop (mkF m 221 #[.val (.long q0), .second, .val (.long q1), .second, .val (.long q2), .second, .val (.int p3), .val (.int m3), .val (.long k0), .second, .val (.long k1), .second, .val (.long k2), .second, .val (.ref b132), .val (.ref b144), .val (.int ((1 : Int32) + (1 : Int32)))] [(.int (1 : Int32))])) (fun t_ k_ => st168 _ k_) ?_
              refine own_go (B := T168.setTop (mkF m 236 #[.val (.long q0), .second, .val (.long q1), .second, .val (.long q2), .second, .val (.int p3), .val (.int m3), .val (.long k0), .second, .val (.long k1), .second, .val (.long k2), .second, .val (.ref b132), .val (.ref b144), .val (.int ((1 : Int32) + (1 : Int32)))] [(.long k2), (.ref b144)])) (fun t_ k_ => ?_) ?_
              · show Steps p.tables e below (T168.setTop (mkF m 221 #[.val (.long q0), .second, .val (.long q1), .second, .val (.long q2), .second, .val (.int p3), .val (.int m3), .val (.long k0), .second, .val (.long k1), .second, .val (.long k2), .second, .val (.ref b132), .val (.ref b144), .val (.int ((1 : Int32) + (1 : Int32)))] [(.int (1 : Int32))])) _
                refine XS.ifYes X168.here hx rfl (pc0 := 221) (pc' := 226) rfl (hb hby at_221) rfl ((if0 _ _).trans (feq (by decide : ¬ ((1 : Int32) = (0 : Int32)))).2) (by decide) (by decide) ?_
                show Steps p.tables e below (T168.setTop (mkF m 226 #[.val (.long q0), .second, .val (.long q1), .second, .val (.long q2), .second, .val (.int p3), .val (.int m3), .val (.long k0), .second, .val (.long k1), .second, .val (.long k2), .second, .val (.ref b132), .val (.ref b144), .val (.int ((1 : Int32) + (1 : Int32)))] [])) _
                refine XS.iload X168.here hx rfl (hb hby at_226) rfl ?_
                show Steps p.tables e below (T168.setTop (mkF m 228 #[.val (.long q0), .second, .val (.long q1), .second, .val (.long q2), .second, .val (.int p3), .val (.int m3), .val (.long k0), .second, .val (.long k1), .second, .val (.long k2), .second, .val (.ref b132), .val (.ref b144), .val (.int ((1 : Int32) + (1 : Int32)))] [(.int m3)])) _
                refine XS.iconst X168.here hx rfl (hb hby at_228) ?_
                show Steps p.tables e below (T168.setTop (mkF m 229 #[.val (.long q0), .second, .val (.long q1), .second, .val (.long q2), .second, .val (.int p3), .val (.int m3), .val (.long k0), .second, .val (.long k1), .second, .val (.long k2), .second, .val (.ref b132), .val (.ref b144), .val (.int ((1 : Int32) + (1 : Int32)))] [(.int (2 : Int32)), (.int m3)])) _
                refine XS.icmpNo X168.here hx rfl (hb hby at_229) rfl (tlt b2).2.2.2 ?_
                show Steps p.tables e below (T168.setTop (mkF m 232 #[.val (.long q0), .second, .val (.long q1), .second, .val (.long q2), .second, .val (.int p3), .val (.int m3), .val (.long k0), .second, .val (.long k1), .second, .val (.long k2), .second, .val (.ref b132), .val (.ref b144), .val (.int ((1 : Int32) + (1 : Int32)))] [])) _
                refine XS.aload X168.here hx rfl (hb hby at_232) rfl rfl ?_
                show Steps p.tables e below (T168.setTop (mkF m 234 #[.val (.long q0), .second, .val (.long q1), .second, .val (.long q2), .second, .val (.int p3), .val (.int m3), .val (.long k0), .second, .val (.long k1), .second, .val (.long k2), .second, .val (.ref b132), .val (.ref b144), .val (.int ((1 : Int32) + (1 : Int32)))] [(.ref b144)])) _
                refine XS.lload X168.here hx rfl (hb hby at_234) rfl ?_
                show Steps p.tables e below (T168.setTop (mkF m 236 #[.val (.long q0), .second, .val (.long q1), .second, .val (.long q2), .second, .val (.int p3), .val (.int m3), .val (.long k0), .second, .val (.long k1), .second, .val (.long k2), .second, .val (.ref b132), .val (.ref b144), .val (.int ((1 : Int32) + (1 : Int32)))] [(.long k2), (.ref b144)])) _
                exact k_
              obtain ⟨vv169, _, ⟨T169, L169, k169, n169⟩, -, X169, ⟨Lc169, hQ169, l169, y169, z169⟩, st169⟩ := Jvm.LawKit.callS X168 hx (y := (⟨"com/example/prudent_annotator/prudentannotator/profile/PairCountsKeysPinLaw", "has", "([JJ)Z"⟩ : MethodName)) hown (mvT hZ (hw _ (List.mem_of_getElem? (i := 52) rfl))) (mvT hZ (hw _ (List.mem_of_getElem? (i := 53) rfl))) (mvT hZ (hw _ (List.mem_of_getElem? (i := 2) rfl))) (mvT hZ (hw _ (List.mem_of_getElem? (i := 54) rfl))) (by decide) (backOf (W := 0) (rm10 l Z a0 hw [] b144 k2 kb144 (own_kl f142x 1024) T144.heap n0 Z144 Vx hin2 (by rw [hlen]; omega)) hZ (hw _ (List.mem_of_getElem? (i := 54) rfl)) (hw _ (List.mem_of_getElem? (i := 2) rfl)) (by decide) (by decide)) (g := (mkF m 236 #[.val (.long q0), .second, .val (.long q1), .second, .val (.long q2), .second, .val (.int p3), .val (.int m3), .val (.long k0), .second, .val (.long k1), .second, .val (.long k2), .second, .val (.ref b132), .val (.ref b144), .val (.int ((1 : Int32) + (1 : Int32)))] [(.long k2), (.ref b144)])) rfl (by rw [hml]; rfl) (argsL := [(.ref b144), (.long k2)]) (rest := []) (lenOf pd__28__5b_JJ_29_Z rfl) rfl (by show 2 * 0 + _ ≤ _; exact Nat.le_of_eq rfl) (hb hby at_236) (fun _ _ => ⟨rfl, e168q, (by decide : 4 + 0 ≤ _), (by decide : 2054 + 0 ≤ _)⟩)
              dsimp only [Pt.U, Pt.locs, Pt.cells, Pt.slots] at X169 l169 y169 z169 st169 hQ169
              subst l169 y169 z169
              obtain ⟨rfl, N169q, e169q⟩ := hQ169
              have N169 := Fr.app N168 N169q
              refine own_go (B := T169.setTop (mkF m 239 #[.val (.long q0), .second, .val (.long q1), .second, .val (.long q2), .second, .val (.int p3), .val (.int m3), .val (.long k0), .second, .val (.long k1), .second, .val (.long k2), .second, .val (.ref b132), .val (.ref b144), .val (.int ((1 : Int32) + (1 : Int32)))] [(.int (1 : Int32))])) (fun t_ k_ => st169 _ k_) ?_
              refine own_go (B := T169.setTop (mkF m 245 #[.val (.long q0), .second, .val (.long q1), .second, .val (.long q2), .second, .val (.int p3), .val (.int m3), .val (.long k0), .second, .val (.long k1), .second, .val (.long k2), .second, .val (.ref b132), .val (.ref b144), .val (.int ((1 : Int32) + (1 : Int32)))] [(.int (1 : Int32))])) (fun t_ k_ => ?_) ?_
              · show Steps p.tables e below (T169.setTop (mkF m 239 #[.val (.long q0), .second, .val (.long q1), .second, .val (.long q2), .second, .val (.int p3), .val (.int m3), .val (.long k0), .second, .val (.long k1), .second, .val (.long k2), .second, .val (.ref b132), .val (.ref b144), .val (.int ((1 : Int32) + (1 : Int32)))] [(.int (1 : Int32))])) _
                refine XS.ifYes X169.here hx rfl (pc0 := 239) (pc' := 244) rfl (hb hby at_239) rfl ((if0 _ _).trans (feq (by decide : ¬ ((1 : Int32) = (0 : Int32)))).2) (by decide) (by decide) ?_
                show Steps p.tables e below (T169.setTop (mkF m 244 #[.val (.long q0), .second, .val (.long q1), .second, .val (.long q2), .second, .val (.int p3), .val (.int m3), .val (.long k0), .second, .val (.long k1), .second, .val (.long k2), .second, .val (.ref b132), .val (.ref b144), .val (.int ((1 : Int32) + (1 : Int32)))] [])) _
                refine XS.iconst X169.here hx rfl (hb hby at_244) ?_
                show Steps p.tables e below (T169.setTop (mkF m 245 #[.val (.long q0), .second, .val (.long q1), .second, .val (.long q2), .second, .val (.int p3), .val (.int m3), .val (.long k0), .second, .val (.long k1), .second, .val (.long k2), .second, .val (.ref b132), .val (.ref b144), .val (.int ((1 : Int32) + (1 : Int32)))] [(.int (1 : Int32))])) _
                exact k_
              obtain ⟨fs, hr, hrun, hended, hW, hsame⟩ := X169.leave (v := some (.int (1 : Int32))) (fun h => by rw [Bd.returns] at h; cases h)
              refine own_at ?_ (hG _ _ ⟨hrun, hended, _, _, rfl, ?_, ⟨_, rfl⟩, hW, hsame.mono (by decide) (by decide)⟩)
              · show Steps p.tables e below (T169.setTop (mkF m 245 #[.val (.long q0), .second, .val (.long q1), .second, .val (.long q2), .second, .val (.int p3), .val (.int m3), .val (.long k0), .second, .val (.long k1), .second, .val (.long k2), .second, .val (.ref b132), .val (.ref b144), .val (.int ((1 : Int32) + (1 : Int32)))] [(.int (1 : Int32))])) _
                exact retN X169 hx (t := .boolean) Bd.returns (by simp) (hb hby at_245) hr
              · show Q0 Z q0 q1 q2 p3 h0 n0 _ T169.heap _
                rw [e169q]
                exact ⟨rfl, N169⟩
            · refine own_go (B := T144.setTop (mkF m 167 #[.val (.long q0), .second, .val (.long q1), .second, .val (.long q2), .second, .val (.int p3), .val (.int m3), .val (.long k0), .second, .val (.long k1), .second, .val (.long k2), .second, .val (.ref b132), .val (.ref b144), .val (.int ((1 : Int32) + (1 : Int32)))] [(.int (lcmpW k2 k1))])) (fun t_ k_ => ?_) ?_
              · show Steps p.tables e below (T144.setTop (mkF m 159 #[.val (.long q0), .second, .val (.long q1), .second, .val (.long q2), .second, .val (.int p3), .val (.int m3), .val (.long k0), .second, .val (.long k1), .second, .val (.long k2), .second, .val (.ref b132), .val (.ref b144), .val (.int ((1 : Int32) + (1 : Int32)))] [(.int (lcmpW k2 k0))])) _
                refine XS.ifNo X144.here hx rfl (hb hby at_159) rfl ((if0 _ _).trans (feq (mt (lw_eq _ _).mp d20)).1) ?_
                show Steps p.tables e below (T144.setTop (mkF m 162 #[.val (.long q0), .second, .val (.long q1), .second, .val (.long q2), .second, .val (.int p3), .val (.int m3), .val (.long k0), .second, .val (.long k1), .second, .val (.long k2), .second, .val (.ref b132), .val (.ref b144), .val (.int ((1 : Int32) + (1 : Int32)))] [])) _
                refine XS.lload X144.here hx rfl (hb hby at_162) rfl ?_
                show Steps p.tables e below (T144.setTop (mkF m 164 #[.val (.long q0), .second, .val (.long q1), .second, .val (.long q2), .second, .val (.int p3), .val (.int m3), .val (.long k0), .second, .val (.long k1), .second, .val (.long k2), .second, .val (.ref b132), .val (.ref b144), .val (.int ((1 : Int32) + (1 : Int32)))] [(.long k2)])) _
                refine XS.lload X144.here hx rfl (hb hby at_164) rfl ?_
                show Steps p.tables e below (T144.setTop (mkF m 166 #[.val (.long q0), .second, .val (.long q1), .second, .val (.long q2), .second, .val (.int p3), .val (.int m3), .val (.long k0), .second, .val (.long k1), .second, .val (.long k2), .second, .val (.ref b132), .val (.ref b144), .val (.int ((1 : Int32) + (1 : Int32)))] [(.long k1), (.long k2)])) _
                refine XS.lcmp X144.here hx rfl (hb hby at_166) rfl ?_
                show Steps p.tables e below (T144.setTop (mkF m 167 #[.val (.long q0), .second, .val (.long q1), .second, .val (.long q2), .second, .val (.int p3), .val (.int m3), .val (.long k0), .second, .val (.long k1), .second, .val (.long k2), .second, .val (.ref b132), .val (.ref b144), .val (.int ((1 : Int32) + (1 : Int32)))] [(.int (lcmpW k2 k1))])) _
                exact k_
              by_cases d21 : k2 = k1
              · refine own_go (B := T144.setTop (mkF m 183 #[.val (.long q0), .second, .val (.long q1), .second, .val (.long q2), .second, .val (.int p3), .val (.int m3), .val (.long k0), .second, .val (.long k1), .second, .val (.long k2), .second, .val (.ref b132), .val (.ref b144), .val (.int ((1 : Int32) + (1 : Int32)))] [(.ref b144)])) (fun t_ k_ => ?_) ?_
                · show Steps p.tables e below (T144.setTop (mkF m 167 #[.val (.long q0), .second, .val (.long q1), .second, .val (.long q2), .second, .val (.int p3), .val (.int m3), .val (.long k0), .second, .val (.long k1), .second, .val (.long k2), .second, .val (.ref b132), .val (.ref b144), .val (.int ((1 : Int32) + (1 : Int32)))] [(.int (lcmpW k2 k1))])) _
                  refine XS.ifYes X144.here hx rfl (pc0 := 167) (pc' := 176) rfl (hb hby at_167) rfl ((if0 _ _).trans (teq ((lw_eq _ _).mpr d21)).1) (by decide) (by decide) ?_
                  show Steps p.tables e below (T144.setTop (mkF m 176 #[.val (.long q0), .second, .val (.long q1), .second, .val (.long q2), .second, .val (.int p3), .val (.int m3), .val (.long k0), .second, .val (.long k1), .second, .val (.long k2), .second, .val (.ref b132), .val (.ref b144), .val (.int ((1 : Int32) + (1 : Int32)))] [])) _
                  refine XS.aload X144.here hx rfl (hb hby at_176) rfl rfl ?_
                  show Steps p.tables e below (T144.setTop (mkF m 178 #[.val (.long q0), .second, .val (.long q1), .second, .val (.long q2), .second, .val (.int p3), .val (.int m3), .val (.long k0), .second, .val (.long k1), .second, .val (.long k2), .second, .val (.ref b132), .val (.ref b144), .val (.int ((1 : Int32) + (1 : Int32)))] [(.ref b144)])) _
                  refine XS.ifnullNo X144.here hx rfl (hb hby at_178) rfl ?_
                  show Steps p.tables e below (T144.setTop (mkF m 181 #[.val (.long q0), .second, .val (.long q1), .second, .val (.long q2), .second, .val (.int p3), .val (.int m3), .val (.long k0), .second, .val (.long k1), .second, .val (.long k2), .second, .val (.ref b132), .val (.ref b144), .val (.int ((1 : Int32) + (1 : Int32)))] [])) _
                  refine XS.aload X144.here hx rfl (hb hby at_181) rfl rfl ?_
                  show Steps p.tables e below (T144.setTop (mkF m 183 #[.val (.long q0), .second, .val (.long q1), .second, .val (.long q2), .second, .val (.int p3), .val (.int m3), .val (.long k0), .second, .val (.long k1), .second, .val (.long k2), .second, .val (.ref b132), .val (.ref b144), .val (.int ((1 : Int32) + (1 : Int32)))] [(.ref b144)])) _
                  exact k_
                obtain ⟨cl171, Ar171, -, S171, M171, -, -⟩ := id u144
                refine own_go (B := T144.setTop (mkF m 184 #[.val (.long q0), .second, .val (.long q1), .second, .val (.long q2), .second, .val (.int p3), .val (.int m3), .val (.long k0), .second, .val (.long k1), .second, .val (.long k2), .second, .val (.ref b132), .val (.ref b144), .val (.int ((1 : Int32) + (1 : Int32)))] [(.int (Int32.ofNat n142x))])) (fun t_ k_ => ?_) ?_
                · refine X144.arraylength hx Ar171.1 (State.isArrayOf_alike hZ.alike Ar171.2.1) (g := (mkF m 183 #[.val (.long q0), .second, .val (.long q1), .second, .val (.long q2), .second, .val (.int p3), .val (.int m3), .val (.long k0), .second, .val (.long k1), .second, .val (.long k2), .second, .val (.ref b132), .val (.ref b144), .val (.int ((1 : Int32) + (1 : Int32)))] [(.ref b144)])) rfl rfl (hb hby at_183) _ ?_
                  rw [len_of S171 M171]
                  exact k_
                refine own_go (B := T144.setTop (mkF m 191 #[.val (.long q0), .second, .val (.long q1), .second, .val (.long q2), .second, .val (.int p3), .val (.int m3), .val (.long k0), .second, .val (.long k1), .second, .val (.long k2), .second, .val (.ref b132), .val (.ref b144), .val (.int ((1 : Int32) + (1 : Int32)))] [])) (fun t_ k_ => ?_) ?_
                · show Steps p.tables e below (T144.setTop (mkF m 184 #[.val (.long q0), .second, .val (.long q1), .second, .val (.long q2), .second, .val (.int p3), .val (.int m3), .val (.long k0), .second, .val (.long k1), .second, .val (.long k2), .second, .val (.ref b132), .val (.ref b144), .val (.int ((1 : Int32) + (1 : Int32)))] [(.int (Int32.ofNat n142x))])) _
                  refine XS.iload X144.here hx rfl (hb hby at_184) rfl ?_
                  show Steps p.tables e below (T144.setTop (mkF m 186 #[.val (.long q0), .second, .val (.long q1), .second, .val (.long q2), .second, .val (.int p3), .val (.int m3), .val (.long k0), .second, .val (.long k1), .second, .val (.long k2), .second, .val (.ref b132), .val (.ref b144), .val (.int ((1 : Int32) + (1 : Int32)))] [(.int ((1 : Int32) + (1 : Int32))), (.int (Int32.ofNat n142x))])) _
                  refine XS.icmpYes X144.here hx rfl (pc0 := 186) (pc' := 191) rfl (hb hby at_186) rfl (teq (by have e2 : n140x = 2 := (by have := new140 (fun q => d10 (on_1 k1 hk1 q)); omega); have e3 : n142x = n140x := old142 (by rw [d21]; exact me1_2); rw [e3, e2]; rfl)).1 (by decide) (by decide) ?_
                  show Steps p.tables e below (T144.setTop (mkF m 191 #[.val (.long q0), .second, .val (.long q1), .second, .val (.long q2), .second, .val (.int p3), .val (.int m3), .val (.long k0), .second, .val (.long k1), .second, .val (.long k2), .second, .val (.ref b132), .val (.ref b144), .val (.int ((1 : Int32) + (1 : Int32)))] [])) _
                  exact k_
                have hlen : (own_kl f142x 1024).length = n142x := ok142.2
                have Vx : Arv Z T144.heap b144 kb144 .long (Int32.ofNat (own_kl f142x 1024).length) ((own_kl f142x 1024).map Value.long) (.long (0 : Int64)) := by rw [hlen]; exact u144
                have hin0 : k0 ∈ own_kl f142x 1024 := own_kl_mem.mpr ⟨hk0, me0_3⟩
                have hin1 : k1 ∈ own_kl f142x 1024 := own_kl_mem.mpr ⟨hk1, me1_3⟩
                have hin2 : k2 ∈ own_kl f142x 1024 := own_kl_mem.mpr ⟨hk2, me2_3⟩
                refine own_go (B := T144.setTop (mkF m 200 #[.val (.long q0), .second, .val (.long q1), .second, .val (.long q2), .second, .val (.int p3), .val (.int m3), .val (.long k0), .second, .val (.long k1), .second, .val (.long k2), .second, .val (.ref b132), .val (.ref b144), .val (.int ((1 : Int32) + (1 : Int32)))] [(.long k0), (.ref b144)])) (fun t_ k_ => ?_) ?_
                · show Steps p.tables e below (T144.setTop (mkF m 191 #[.val (.long q0), .second, .val (.long q1), .second, .val (.long q2), .second, .val (.int p3), .val (.int m3), .val (.long k0), .second, .val (.long k1), .second, .val (.long k2), .second, .val (.ref b132), .val (.ref b144), .val (.int ((1 : Int32) + (1 : Int32)))] [])) _
                  refine XS.iload X144.here hx rfl (hb hby at_191) rfl ?_
                  show Steps p.tables e below (T144.setTop (mkF m 193 #[.val (.long q0), .second, .val (.long q1), .second, .val (.long q2), .second, .val (.int p3), .val (.int m3), .val (.long k0), .second, .val (.long k1), .second, .val (.long k2), .second, .val (.ref b132), .val (.ref b144), .val (.int ((1 : Int32) + (1 : Int32)))] [(.int m3)])) _
                  refine XS.ifNo X144.here hx rfl (hb hby at_193) rfl ((if0 _ _).trans (tlt b0).2.2.2) ?_
                  show Steps p.tables e below (T144.setTop (mkF m 196 #[.val (.long q0), .second, .val (.long q1), .second, .val (.long q2), .second, .val (.int p3), .val (.int m3), .val (.long k0), .second, .val (.long k1), .second, .val (.long k2), .second, .val (.ref b132), .val (.ref b144), .val (.int ((1 : Int32) + (1 : Int32)))] [])) _
                  refine XS.aload X144.here hx rfl (hb hby at_196) rfl rfl ?_
                  show Steps p.tables e below (T144.setTop (mkF m 198 #[.val (.long q0), .second, .val (.long q1), .second, .val (.long q2), .second, .val (.int p3), .val (.int m3), .val (.long k0), .second, .val (.long k1), .second, .val (.long k2), .second, .val (.ref b132), .val (.ref b144), .val (.int ((1 : Int32) + (1 : Int32)))] [(.ref b144)])) _
                  refine XS.lload X144.here hx rfl (hb hby at_198) rfl ?_
                  show Steps p.tables e below (T144.setTop (mkF m 200 #[.val (.long q0), .second, .val (.long q1), .second, .val (.long q2), .second, .val (.int p3), .val (.int m3), .val (.long k0), .second, .val (.long k1), .second, .val (.long k2), .second, .val (.ref b132), .val (.ref b144), .val (.int ((1 : Int32) + (1 : Int32)))] [(.long k0), (.ref b144)])) _
                  exact k_
                obtain ⟨vv172, _, ⟨T172, L172, k172, n172⟩, -, X172, ⟨Lc172, hQ172, l172, y172, z172⟩, st172⟩ := Jvm.LawKit.callS X144 hx (y := (⟨"com/example/prudent_annotator/prudentannotator/profile/PairCountsKeysPinLaw", "has", "([JJ)Z"⟩ : MethodName)) hown (mvT hZ (hw _ (List.mem_of_getElem? (i := 52) rfl))) (mvT hZ (hw _ (List.mem_of_getElem? (i := 53) rfl))) (mvT hZ (hw _ (List.mem_of_getElem? (i := 2) rfl))) (mvT hZ (hw _ (List.mem_of_getElem? (i := 54) rfl))) (by decide) (backOf (W := 0) (rm10 l Z a0 hw [] b144 k0 kb144 (own_kl f142x 1024) T144.heap n0 Z144 Vx hin0 (by rw [hlen]; omega)) hZ (hw _ (List.mem_of_getElem? (i := 54) rfl)) (hw _ (List.mem_of_getElem? (i := 2) rfl)) (by decide) (by decide)) (g := (mkF m 200 #[.val (.long q0), .second, .val (.long q1), .second, .val (.long q2), .second, .val (.int p3), .val (.int m3), .val (.long k0), .second, .val (.long k1), .second, .val (.long k2), .second, .val (.ref b132), .val (.ref b144), .val (.int ((1 : Int32) + (1 : Int32)))] [(.long k0), (.ref b144)])) rfl (by rw [hml]; rfl) (argsL := [(.ref b144), (.long k0)]) (rest := []) (lenOf pd__28__5b_JJ_29_Z rfl) rfl (by show 2 * 0 + _ ≤ _; exact Nat.le_of_eq rfl) (hb hby at_200) (fun _ _ => ⟨rfl, rfl, (by decide : 4 + 0 ≤ _), (by decide : 2054 + 0 ≤ _)⟩)
                dsimp only [Pt.U, Pt.locs, Pt.cells, Pt.slots] at X172 l172 y172 z172 st172 hQ172
                subst l172 y172 z172
                obtain ⟨rfl, N172q, e172q⟩ := hQ172
                have N172 := Fr.app N144 N172q
                refine own_go (B := T172.setTop (mkF m 203 #[.val (.long q0), .second, .val (.long q1), .second, .val (.long q2), .second, .val (.int p3), .val (.int m3), .val (.long k0), .second, .val (.long k1), .second, .val (.long k2), .second, .val (.ref b132), .val (.ref b144), .val (.int ((1 : Int32) + (1 : Int32)))] [(.int (1 : Int32))])) (fun t_ k_ => st172 _ k_) ?_
                refine own_go (B := T172.setTop (mkF m 218 #[.val (.long q0), .second, .val (.long q1), .second, .val (.long q2), .second, .val (.int p3), .val (.int m3), .val (.long k0), .second, .val (.long k1), .second, .val (.long k2), .second, .val (.ref b132), .val (.ref b144), .val (.int ((1 : Int32) + (1 : Int32)))] [(.long k1), (.ref b144)])) (fun t_ k_ => ?_) ?_
                · show Steps p.tables e below (T172.setTop (mkF m 203 #[.val (.long q0), .second, .val (.long q1), .second, .val (.long q2), .second, .val (.int p3), .val (.int m3), .val (.long k0), .second, .val (.long k1), .second, .val (.long k2), .second, .val (.ref b132), .val (.ref b144), .val (.int ((1 : Int32) + (1 : Int32)))] [(.int (1 : Int32))])) _
                  refine XS.ifYes X172.here hx rfl (pc0 := 203) (pc' := 208) rfl (hb hby at_203) rfl ((if0 _ _).trans (feq (by decide : ¬ ((1 : Int32) = (0 : Int32)))).2) (by decide) (by decide) ?_
                  show Steps p.tables e below (T172.setTop (mkF m 208 #[.val (.long q0), .second, .val (.long q1), .second, .val (.long q2), .second, .val (.int p3), .val (.int m3), .val (.long k0), .second, .val (.long k1), .second, .val (.long k2), .second, .val (.ref b132), .val (.ref b144), .val (.int ((1 : Int32) + (1 : Int32)))] [])) _
                  refine XS.iload X172.here hx rfl (hb hby at_208) rfl ?_
                  show Steps p.tables e below (T172.setTop (mkF m 210 #[.val (.long q0), .second, .val (.long q1), .second, .val (.long q2), .second, .val (.int p3), .val (.int m3), .val (.long k0), .second, .val (.long k1), .second, .val (.long k2), .second, .val (.ref b132), .val (.ref b144), .val (.int ((1 : Int32) + (1 : Int32)))] [(.int m3)])) _
                  refine XS.iconst X172.here hx rfl (hb hby at_210) ?_
                  show Steps p.tables e below (T172.setTop (mkF m 211 #[.val (.long q0), .second, .val (.long q1), .second, .val (.long q2), .second, .val (.int p3), .val (.int m3), .val (.long k0), .second, .val (.long k1), .second, .val (.long k2), .second, .val (.ref b132), .val (.ref b144), .val (.int ((1 : Int32) + (1 : Int32)))] [(.int (1 : Int32)), (.int m3)])) _
                  refine XS.icmpNo X172.here hx rfl (hb hby at_211) rfl (tlt b1).2.2.2 ?_
                  show Steps p.tables e below (T172.setTop (mkF m 214 #[.val (.long q0), .second, .val (.long q1), .second, .val (.long q2), .second, .val (.int p3), .val (.int m3), .val (.long k0), .second, .val (.long k1), .second, .val (.long k2), .second, .val (.ref b132), .val (.ref b144), .val (.int ((1 : Int32) + (1 : Int32)))] [])) _
                  refine XS.aload X172.here hx rfl (hb hby at_214) rfl rfl ?_
                  show Steps p.tables e below (T172.setTop (mkF m 216 #[.val (.long q0), .second, .val (.long q1), .second, .val (.long q2), .second, .val (.int p3), .val (.int m3), .val (.long k0), .second, .val (.long k1), .second, .val (.long k2), .second, .val (.ref b132), .val (.ref b144), .val (.int ((1 : Int32) + (1 : Int32)))] [(.ref b144)])) _
                  refine XS.lload X172.here hx rfl (hb hby at_216) rfl ?_
                  show Steps p.tables e below (T172.setTop (mkF m 218 #[.val (.long q0), .second, .val (.long q1), .second, .val (.long q2), .second, .val (.int p3), .val (.int m3), .val (.long k0), .second, .val (.long k1), .second, .val (.long k2), .second, .val (.ref b132), .val (.ref b144), .val (.int ((1 : Int32) + (1 : Int32)))] [(.long k1), (.ref b144)])) _
                  exact k_
                obtain ⟨vv173, _, ⟨T173, L173, k173, n173⟩, -, X173, ⟨Lc173, hQ173, l173, y173, z173⟩, st173⟩ := Jvm.LawKit.callS X172 hx (y := (⟨"com/example/prudent_annotator/prudentannotator/profile/PairCountsKeysPinLaw", "has", "([JJ)Z"⟩ : MethodName)) hown (mvT hZ (hw _ (List.mem_of_getElem? (i := 52) rfl))) (mvT hZ (hw _ (List.mem_of_getElem? (i := 53) rfl))) (mvT hZ (hw _ (List.mem_of_getElem? (i := 2) rfl))) (mvT hZ (hw _ (List.mem_of_getElem? (i := 54) rfl))) (by decide) (backOf (W := 0) (rm10 l Z a0 hw [] b144 k1 kb144 (own_kl f142x 1024) T144.heap n0 Z144 Vx hin1 (by rw [hlen]; omega)) hZ (hw _ (List.mem_of_getElem? (i := 54) rfl)) (hw _ (List.mem_of_getElem? (i := 2) rfl)) (by decide) (by decide)) (g := (mkF m 218 #[.val (.long q0), .second, .val (.long q1), .second, .val (.long q2), .second, .val (.int p3), .val (.int m3), .val (.long k0), .second, .val (.long k1), .second, .val (.long k2), .second, .val (.ref b132), .val (.ref b144), .val (.int ((1 : Int32) + (1 : Int32)))] [(.long k1), (.ref b144)])) rfl (by rw [hml]; rfl) (argsL := [(.ref b144), (.long k1)]) (rest := []) (lenOf pd__28__5b_JJ_29_Z rfl) rfl (by show 2 * 0 + _ ≤ _; exact Nat.le_of_eq rfl) (hb hby at_218) (fun _ _ => ⟨rfl, e172q, (by decide : 4 + 0 ≤ _), (by decide : 2054 + 0 ≤ _)⟩)
                dsimp only [Pt.U, Pt.locs, Pt.cells, Pt.slots] at X173 l173 y173 z173 st173 hQ173
                subst l173 y173 z173
                obtain ⟨rfl, N173q, e173q⟩ := hQ173
                have N173 := Fr.app N172 N173q
                refine own_go (B := T173.setTop (mkF m 221 #[.val (.long q0), .second, .val (.long q1), .second, .val (.long q2), .second, .val (.int p3), .val (.int m3), .val (.long k0), .second, .val (.long k1), .second, .val (.long k2), .second, .val (.ref b132), .val (.ref b144), .val (.int ((1 : Int32) + (1 : Int32)))] [(.int (1 : Int32))])) (fun t_ k_ => st173 _ k_) ?_
                refine own_go (B := T173.setTop (mkF m 236 #[.val (.long q0), .second, .val (.long q1), .second, .val (.long q2), .second, .val (.int p3), .val (.int m3), .val (.long k0), .second, .val (.long k1), .second, .val (.long k2), .second, .val (.ref b132), .val (.ref b144), .val (.int ((1 : Int32) + (1 : Int32)))] [(.long k2), (.ref b144)])) (fun t_ k_ => ?_) ?_
                · show Steps p.tables e below (T173.setTop (mkF m 221 #[.val (.long q0), .second, .val (.long q1), .second, .val (.long q2), .second, .val (.int p3), .val (.int m3), .val (.long k0), .second, .val (.long k1), .second, .val (.long k2), .second, .val (.ref b132), .val (.ref b144), .val (.int ((1 : Int32) + (1 : Int32)))] [(.int (1 : Int32))])) _
                  refine XS.ifYes X173.here hx rfl (pc0 := 221) (pc' := 226) rfl (hb hby at_221) rfl ((if0 _ _).trans (feq (by decide : ¬ ((1 : Int32) = (0 : Int32)))).2) (by decide) (by decide) ?_
                  show Steps p.tables e below (T173.setTop (mkF m 226 #[.val (.long q0), .second, .val (.long q1), .second, .val (.long q2), .second, .val (.int p3), .val (.int m3), .val (.long k0), .second, .val (.long k1), .second, .val (.long k2), .second, .val (.ref b132), .val (.ref b144), .val (.int ((1 : Int32) + (1 : Int32)))] [])) _
                  refine XS.iload X173.here hx rfl (hb hby at_226) rfl ?_
                  show Steps p.tables e below (T173.setTop (mkF m 228 #[.val (.long q0), .second, .val (.long q1), .second, .val (.long q2), .second, .val (.int p3), .val (.int m3), .val (.long k0), .second, .val (.long k1), .second, .val (.long k2), .second, .val (.ref b132), .val (.ref b144), .val (.int ((1 : Int32) + (1 : Int32)))] [(.int m3)])) _
                  refine XS.iconst X173.here hx rfl (hb hby at_228) ?_
                  show Steps p.tables e below (T173.setTop (mkF m 229 #[.val (.long q0), .second, .val (.long q1), .second, .val (.long q2), .second, .val (.int p3), .val (.int m3), .val (.long k0), .second, .val (.long k1), .second, .val (.long k2), .second, .val (.ref b132), .val (.ref b144), .val (.int ((1 : Int32) + (1 : Int32)))] [(.int (2 : Int32)), (.int m3)])) _
                  refine XS.icmpNo X173.here hx rfl (hb hby at_229) rfl (tlt b2).2.2.2 ?_
                  show Steps p.tables e below (T173.setTop (mkF m 232 #[.val (.long q0), .second, .val (.long q1), .second, .val (.long q2), .second, .val (.int p3), .val (.int m3), .val (.long k0), .second, .val (.long k1), .second, .val (.long k2), .second, .val (.ref b132), .val (.ref b144), .val (.int ((1 : Int32) + (1 : Int32)))] [])) _
                  refine XS.aload X173.here hx rfl (hb hby at_232) rfl rfl ?_
                  show Steps p.tables e below (T173.setTop (mkF m 234 #[.val (.long q0), .second, .val (.long q1), .second, .val (.long q2), .second, .val (.int p3), .val (.int m3), .val (.long k0), .second, .val (.long k1), .second, .val (.long k2), .second, .val (.ref b132), .val (.ref b144), .val (.int ((1 : Int32) + (1 : Int32)))] [(.ref b144)])) _
                  refine XS.lload X173.here hx rfl (hb hby at_234) rfl ?_
                  show Steps p.tables e below (T173.setTop (mkF m 236 #[.val (.long q0), .second, .val (.long q1), .second, .val (.long q2), .second, .val (.int p3), .val (.int m3), .val (.long k0), .second, .val (.long k1), .second, .val (.long k2), .second, .val (.ref b132), .val (.ref b144), .val (.int ((1 : Int32) + (1 : Int32)))] [(.long k2), (.ref b144)])) _
                  exact k_
                obtain ⟨vv174, _, ⟨T174, L174, k174, n174⟩, -, X174, ⟨Lc174, hQ174, l174, y174, z174⟩, st174⟩ := Jvm.LawKit.callS X173 hx (y := (⟨"com/example/prudent_annotator/prudentannotator/profile/PairCountsKeysPinLaw", "has", "([JJ)Z"⟩ : MethodName)) hown (mvT hZ (hw _ (List.mem_of_getElem? (i := 52) rfl))) (mvT hZ (hw _ (List.mem_of_getElem? (i := 53) rfl))) (mvT hZ (hw _ (List.mem_of_getElem? (i := 2) rfl))) (mvT hZ (hw _ (List.mem_of_getElem? (i := 54) rfl))) (by decide) (backOf (W := 0) (rm10 l Z a0 hw [] b144 k2 kb144 (own_kl f142x 1024) T144.heap n0 Z144 Vx hin2 (by rw [hlen]; omega)) hZ (hw _ (List.mem_of_getElem? (i := 54) rfl)) (hw _ (List.mem_of_getElem? (i := 2) rfl)) (by decide) (by decide)) (g := (mkF m 236 #[.val (.long q0), .second, .val (.long q1), .second, .val (.long q2), .second, .val (.int p3), .val (.int m3), .val (.long k0), .second, .val (.long k1), .second, .val (.long k2), .second, .val (.ref b132), .val (.ref b144), .val (.int ((1 : Int32) + (1 : Int32)))] [(.long k2), (.ref b144)])) rfl (by rw [hml]; rfl) (argsL := [(.ref b144), (.long k2)]) (rest := []) (lenOf pd__28__5b_JJ_29_Z rfl) rfl (by show 2 * 0 + _ ≤ _; exact Nat.le_of_eq rfl) (hb hby at_236) (fun _ _ => ⟨rfl, e173q, (by decide : 4 + 0 ≤ _), (by decide : 2054 + 0 ≤ _)⟩)
                dsimp only [Pt.U, Pt.locs, Pt.cells, Pt.slots] at X174 l174 y174 z174 st174 hQ174
                subst l174 y174 z174
                obtain ⟨rfl, N174q, e174q⟩ := hQ174
                have N174 := Fr.app N173 N174q
                refine own_go (B := T174.setTop (mkF m 239 #[.val (.long q0), .second, .val (.long q1), .second, .val (.long q2), .second, .val (.int p3), .val (.int m3), .val (.long k0), .second, .val (.long k1), .second, .val (.long k2), .second, .val (.ref b132), .val (.ref b144), .val (.int ((1 : Int32) + (1 : Int32)))] [(.int (1 : Int32))])) (fun t_ k_ => st174 _ k_) ?_
                refine own_go (B := T174.setTop (mkF m 245 #[.val (.long q0), .second, .val (.long q1), .second, .val (.long q2), .second, .val (.int p3), .val (.int m3), .val (.long k0), .second, .val (.long k1), .second, .val (.long k2), .second, .val (.ref b132), .val (.ref b144), .val (.int ((1 : Int32) + (1 : Int32)))] [(.int (1 : Int32))])) (fun t_ k_ => ?_) ?_
                · show Steps p.tables e below (T174.setTop (mkF m 239 #[.val (.long q0), .second, .val (.long q1), .second, .val (.long q2), .second, .val (.int p3), .val (.int m3), .val (.long k0), .second, .val (.long k1), .second, .val (.long k2), .second, .val (.ref b132), .val (.ref b144), .val (.int ((1 : Int32) + (1 : Int32)))] [(.int (1 : Int32))])) _
                  refine XS.ifYes X174.here hx rfl (pc0 := 239) (pc' := 244) rfl (hb hby at_239) rfl ((if0 _ _).trans (feq (by decide : ¬ ((1 : Int32) = (0 : Int32)))).2) (by decide) (by decide) ?_
                  show Steps p.tables e below (T174.setTop (mkF m 244 #[.val (.long q0), .second, .val (.long q1), .second, .val (.long q2), .second, .val (.int p3), .val (.int m3), .val (.long k0), .second, .val (.long k1), .second, .val (.long k2), .second, .val (.ref b132), .val (.ref b144), .val (.int ((1 : Int32) + (1 : Int32)))] [])) _
                  refine XS.iconst X174.here hx rfl (hb hby at_244) ?_
                  show Steps p.tables e below (T174.setTop (mkF m 245 #[.val (.long q0), .second, .val (.long q1), .second, .val (.long q2), .second, .val (.int p3), .val (.int m3), .val (.long k0), .second, .val (.long k1), .second, .val (.long k2), .second, .val (.ref b132), .val (.ref b144), .val (.int ((1 : Int32) + (1 : Int32)))] [(.int (1 : Int32))])) _
                  exact k_
                obtain ⟨fs, hr, hrun, hended, hW, hsame⟩ := X174.leave (v := some (.int (1 : Int32))) (fun h => by rw [Bd.returns] at h; cases h)
                refine own_at ?_ (hG _ _ ⟨hrun, hended, _, _, rfl, ?_, ⟨_, rfl⟩, hW, hsame.mono (by decide) (by decide)⟩)
                · show Steps p.tables e below (T174.setTop (mkF m 245 #[.val (.long q0), .second, .val (.long q1), .second, .val (.long q2), .second, .val (.int p3), .val (.int m3), .val (.long k0), .second, .val (.long k1), .second, .val (.long k2), .second, .val (.ref b132), .val (.ref b144), .val (.int ((1 : Int32) + (1 : Int32)))] [(.int (1 : Int32))])) _
                  exact retN X174 hx (t := .boolean) Bd.returns (by simp) (hb hby at_245) hr
                · show Q0 Z q0 q1 q2 p3 h0 n0 _ T174.heap _
                  rw [e174q]
                  exact ⟨rfl, N174⟩
              · refine own_go (B := T144.setTop (mkF m 183 #[.val (.long q0), .second, .val (.long q1), .second, .val (.long q2), .second, .val (.int p3), .val (.int m3), .val (.long k0), .second, .val (.long k1), .second, .val (.long k2), .second, .val (.ref b132), .val (.ref b144), .val (.int (((1 : Int32) + (1 : Int32)) + (1 : Int32)))] [(.ref b144)])) (fun t_ k_ => ?_) ?_
                · show Steps p.tables e below (T144.setTop (mkF m 167 #[.val (.long q0), .second, .val (.long q1), .second, .val (.long q2), .second, .val (.int p3), .val (.int m3), .val (.long k0), .second, .val (.long k1), .second, .val (.long k2), .second, .val (.ref b132), .val (.ref b144), .val (.int ((1 : Int32) + (1 : Int32)))] [(.int (lcmpW k2 k1))])) _
                  refine XS.ifNo X144.here hx rfl (hb hby at_167) rfl ((if0 _ _).trans (feq (mt (lw_eq _ _).mp d21)).1) ?_
                  show Steps p.tables e below (T144.setTop (mkF m 170 #[.val (.long q0), .second, .val (.long q1), .second, .val (.long q2), .second, .val (.int p3), .val (.int m3), .val (.long k0), .second, .val (.long k1), .second, .val (.long k2), .second, .val (.ref b132), .val (.ref b144), .val (.int ((1 : Int32) + (1 : Int32)))] [])) _
                  refine XS.iload X144.here hx rfl (hb hby at_170) rfl ?_
                  show Steps p.tables e below (T144.setTop (mkF m 172 #[.val (.long q0), .second, .val (.long q1), .second, .val (.long q2), .second, .val (.int p3), .val (.int m3), .val (.long k0), .second, .val (.long k1), .second, .val (.long k2), .second, .val (.ref b132), .val (.ref b144), .val (.int ((1 : Int32) + (1 : Int32)))] [(.int ((1 : Int32) + (1 : Int32)))])) _
                  refine XS.iconst X144.here hx rfl (hb hby at_172) ?_
                  show Steps p.tables e below (T144.setTop (mkF m 173 #[.val (.long q0), .second, .val (.long q1), .second, .val (.long q2), .second, .val (.int p3), .val (.int m3), .val (.long k0), .second, .val (.long k1), .second, .val (.long k2), .second, .val (.ref b132), .val (.ref b144), .val (.int ((1 : Int32) + (1 : Int32)))] [(.int (1 : Int32)), (.int ((1 : Int32) + (1 : Int32)))])) _
                  refine XS.iadd X144.here hx rfl (hb hby at_173) rfl ?_
                  show Steps p.tables e below (T144.setTop (mkF m 174 #[.val (.long q0), .second, .val (.long q1), .second, .val (.long q2), .second, .val (.int p3), .val (.int m3), .val (.long k0), .second, .val (.long k1), .second, .val (.long k2), .second, .val (.ref b132), .val (.ref b144), .val (.int ((1 : Int32) + (1 : Int32)))] [(.int (((1 : Int32) + (1 : Int32)) + (1 : Int32)))])) _
                  refine XS.istore X144.here hx rfl (hb hby at_174) rfl (l' := #[.val (.long q0), .second, .val (.long q1), .second, .val (.long q2), .second, .val (.int p3), .val (.int m3), .val (.long k0), .second, .val (.long k1), .second, .val (.long k2), .second, .val (.ref b132), .val (.ref b144), .val (.int (((1 : Int32) + (1 : Int32)) + (1 : Int32)))]) rfl ?_
                  show Steps p.tables e below (T144.setTop (mkF m 176 #[.val (.long q0), .second, .val (.long q1), .second, .val (.long q2), .second, .val (.int p3), .val (.int m3), .val (.long k0), .second, .val (.long k1), .second, .val (.long k2), .second, .val (.ref b132), .val (.ref b144), .val (.int (((1 : Int32) + (1 : Int32)) + (1 : Int32)))] [])) _
                  refine XS.aload X144.here hx rfl (hb hby at_176) rfl rfl ?_
                  show Steps p.tables e below (T144.setTop (mkF m 178 #[.val (.long q0), .second, .val (.long q1), .second, .val (.long q2), .second, .val (.int p3), .val (.int m3), .val (.long k0), .second, .val (.long k1), .second, .val (.long k2), .second, .val (.ref b132), .val (.ref b144), .val (.int (((1 : Int32) + (1 : Int32)) + (1 : Int32)))] [(.ref b144)])) _
                  refine XS.ifnullNo X144.here hx rfl (hb hby at_178) rfl ?_
                  show Steps p.tables e below (T144.setTop (mkF m 181 #[.val (.long q0), .second, .val (.long q1), .second, .val (.long q2), .second, .val (.int p3), .val (.int m3), .val (.long k0), .second, .val (.long k1), .second, .val (.long k2), .second, .val (.ref b132), .val (.ref b144), .val (.int (((1 : Int32) + (1 : Int32)) + (1 : Int32)))] [])) _
                  refine XS.aload X144.here hx rfl (hb hby at_181) rfl rfl ?_
                  show Steps p.tables e below (T144.setTop (mkF m 183 #[.val (.long q0), .second, .val (.long q1), .second, .val (.long q2), .second, .val (.int p3), .val (.int m3), .val (.long k0), .second, .val (.long k1), .second, .val (.long k2), .second, .val (.ref b132), .val (.ref b144), .val (.int (((1 : Int32) + (1 : Int32)) + (1 : Int32)))] [(.ref b144)])) _
                  exact k_
                obtain ⟨cl176, Ar176, -, S176, M176, -, -⟩ := id u144
                refine own_go (B := T144.setTop (mkF m 184 #[.val (.long q0), .second, .val (.long q1), .second, .val (.long q2), .second, .val (.int p3), .val (.int m3), .val (.long k0), .second, .val (.long k1), .second, .val (.long k2), .second, .val (.ref b132), .val (.ref b144), .val (.int (((1 : Int32) + (1 : Int32)) + (1 : Int32)))] [(.int (Int32.ofNat n142x))])) (fun t_ k_ => ?_) ?_
                · refine X144.arraylength hx Ar176.1 (State.isArrayOf_alike hZ.alike Ar176.2.1) (g := (mkF m 183 #[.val (.long q0), .second, .val (.long q1), .second, .val (.long q2), .second, .val (.int p3), .val (.int m3), .val (.long k0), .second, .val (.long k1), .second, .val (.long k2), .second, .val (.ref b132), .val (.ref b144), .val (.int (((1 : Int32) + (1 : Int32)) + (1 : Int32)))] [(.ref b144)])) rfl rfl (hb hby at_183) _ ?_
                  rw [len_of S176 M176]
                  exact k_
                refine own_go (B := T144.setTop (mkF m 191 #[.val (.long q0), .second, .val (.long q1), .second, .val (.long q2), .second, .val (.int p3), .val (.int m3), .val (.long k0), .second, .val (.long k1), .second, .val (.long k2), .second, .val (.ref b132), .val (.ref b144), .val (.int (((1 : Int32) + (1 : Int32)) + (1 : Int32)))] [])) (fun t_ k_ => ?_) ?_
                · show Steps p.tables e below (T144.setTop (mkF m 184 #[.val (.long q0), .second, .val (.long q1), .second, .val (.long q2), .second, .val (.int p3), .val (.int m3), .val (.long k0), .second, .val (.long k1), .second, .val (.long k2), .second, .val (.ref b132), .val (.ref b144), .val (.int (((1 : Int32) + (1 : Int32)) + (1 : Int32)))] [(.int (Int32.ofNat n142x))])) _
                  refine XS.iload X144.here hx rfl (hb hby at_184) rfl ?_
                  show Steps p.tables e below (T144.setTop (mkF m 186 #[.val (.long q0), .second, .val (.long q1), .second, .val (.long q2), .second, .val (.int p3), .val (.int m3), .val (.long k0), .second, .val (.long k1), .second, .val (.long k2), .second, .val (.ref b132), .val (.ref b144), .val (.int (((1 : Int32) + (1 : Int32)) + (1 : Int32)))] [(.int (((1 : Int32) + (1 : Int32)) + (1 : Int32))), (.int (Int32.ofNat n142x))])) _
                  refine XS.icmpYes X144.here hx rfl (pc0 := 186) (pc' := 191) rfl (hb hby at_186) rfl (teq (by have e2 : n140x = 2 := (by have := new140 (fun q => d10 (on_1 k1 hk1 q)); omega); have e3 : n142x = n140x + 1 := new142 (fun q => (on_2 k2 hk2 q).elim d20 d21); rw [e3, e2]; rfl)).1 (by decide) (by decide) ?_
                  show Steps p.tables e below (T144.setTop (mkF m 191 #[.val (.long q0), .second, .val (.long q1), .second, .val (.long q2), .second, .val (.int p3), .val (.int m3), .val (.long k0), .second, .val (.long k1), .second, .val (.long k2), .second, .val (.ref b132), .val (.ref b144), .val (.int (((1 : Int32) + (1 : Int32)) + (1 : Int32)))] [])) _
                  exact k_
                have hlen : (own_kl f142x 1024).length = n142x := ok142.2
                have Vx : Arv Z T144.heap b144 kb144 .long (Int32.ofNat (own_kl f142x 1024).length) ((own_kl f142x 1024).map Value.long) (.long (0 : Int64)) := by rw [hlen]; exact u144
                have hin0 : k0 ∈ own_kl f142x 1024 := own_kl_mem.mpr ⟨hk0, me0_3⟩
                have hin1 : k1 ∈ own_kl f142x 1024 := own_kl_mem.mpr ⟨hk1, me1_3⟩
                have hin2 : k2 ∈ own_kl f142x 1024 := own_kl_mem.mpr ⟨hk2, me2_3⟩
                refine own_go (B := T144.setTop (mkF m 200 #[.val (.long q0), .second, .val (.long q1), .second, .val (.long q2), .second, .val (.int p3), .val (.int m3), .val (.long k0), .second, .val (.long k1), .second, .val (.long k2), .second, .val (.ref b132), .val (.ref b144), .val (.int (((1 : Int32) + (1 : Int32)) + (1 : Int32)))] [(.long k0), (.ref b144)])) (fun t_ k_ => ?_) ?_
                · show Steps p.tables e below (T144.setTop (mkF m 191 #[.val (.long q0), .second, .val (.long q1), .second, .val (.long q2), .second, .val (.int p3), .val (.int m3), .val (.long k0), .second, .val (.long k1), .second, .val (.long k2), .second, .val (.ref b132), .val (.ref b144), .val (.int (((1 : Int32) + (1 : Int32)) + (1 : Int32)))] [])) _
                  refine XS.iload X144.here hx rfl (hb hby at_191) rfl ?_
                  show Steps p.tables e below (T144.setTop (mkF m 193 #[.val (.long q0), .second, .val (.long q1), .second, .val (.long q2), .second, .val (.int p3), .val (.int m3), .val (.long k0), .second, .val (.long k1), .second, .val (.long k2), .second, .val (.ref b132), .val (.ref b144), .val (.int (((1 : Int32) + (1 : Int32)) + (1 : Int32)))] [(.int m3)])) _
                  refine XS.ifNo X144.here hx rfl (hb hby at_193) rfl ((if0 _ _).trans (tlt b0).2.2.2) ?_
                  show Steps p.tables e below (T144.setTop (mkF m 196 #[.val (.long q0), .second, .val (.long q1), .second, .val (.long q2), .second, .val (.int p3), .val (.int m3), .val (.long k0), .second, .val (.long k1), .second, .val (.long k2), .second, .val (.ref b132), .val (.ref b144), .val (.int (((1 : Int32) + (1 : Int32)) + (1 : Int32)))] [])) _
                  refine XS.aload X144.here hx rfl (hb hby at_196) rfl rfl ?_
                  show Steps p.tables e below (T144.setTop (mkF m 198 #[.val (.long q0), .second, .val (.long q1), .second, .val (.long q2), .second, .val (.int p3), .val (.int m3), .val (.long k0), .second, .val (.long k1), .second, .val (.long k2), .second, .val (.ref b132), .val (.ref b144), .val (.int (((1 : Int32) + (1 : Int32)) + (1 : Int32)))] [(.ref b144)])) _
                  refine XS.lload X144.here hx rfl (hb hby at_198) rfl ?_
                  show Steps p.tables e below (T144.setTop (mkF m 200 #[.val (.long q0), .second, .val (.long q1), .second, .val (.long q2), .second, .val (.int p3), .val (.int m3), .val (.long k0), .second, .val (.long k1), .second, .val (.long k2), .second, .val (.ref b132), .val (.ref b144), .val (.int (((1 : Int32) + (1 : Int32)) + (1 : Int32)))] [(.long k0), (.ref b144)])) _
                  exact k_
                obtain ⟨vv177, _, ⟨T177, L177, k177, n177⟩, -, X177, ⟨Lc177, hQ177, l177, y177, z177⟩, st177⟩ := Jvm.LawKit.callS X144 hx (y := (⟨"com/example/prudent_annotator/prudentannotator/profile/PairCountsKeysPinLaw", "has", "([JJ)Z"⟩ : MethodName)) hown (mvT hZ (hw _ (List.mem_of_getElem? (i := 52) rfl))) (mvT hZ (hw _ (List.mem_of_getElem? (i := 53) rfl))) (mvT hZ (hw _ (List.mem_of_getElem? (i := 2) rfl))) (mvT hZ (hw _ (List.mem_of_getElem? (i := 54) rfl))) (by decide) (backOf (W := 0) (rm10 l Z a0 hw [] b144 k0 kb144 (own_kl f142x 1024) T144.heap n0 Z144 Vx hin0 (by rw [hlen]; omega)) hZ (hw _ (List.mem_of_getElem? (i := 54) rfl)) (hw _ (List.mem_of_getElem? (i := 2) rfl)) (by decide) (by decide)) (g := (mkF m 200 #[.val (.long q0), .second, .val (.long q1), .second, .val (.long q2), .second, .val (.int p3), .val (.int m3), .val (.long k0), .second, .val (.long k1), .second, .val (.long k2), .second, .val (.ref b132), .val (.ref b144), .val (.int (((1 : Int32) + (1 : Int32)) + (1 : Int32)))] [(.long k0), (.ref b144)])) rfl (by rw [hml]; rfl) (argsL := [(.ref b144), (.long k0)]) (rest := []) (lenOf pd__28__5b_JJ_29_Z rfl) rfl (by show 2 * 0 + _ ≤ _; exact Nat.le_of_eq rfl) (hb hby at_200) (fun _ _ => ⟨rfl, rfl, (by decide : 4 + 0 ≤ _), (by decide : 2054 + 0 ≤ _)⟩)
                dsimp only [Pt.U, Pt.locs, Pt.cells, Pt.slots] at X177 l177 y177 z177 st177 hQ177
                subst l177 y177 z177
                obtain ⟨rfl, N177q, e177q⟩ := hQ177
                have N177 := Fr.app N144 N177q
                refine own_go (B := T177.setTop (mkF m 203 #[.val (.long q0), .second, .val (.long q1), .second, .val (.long q2), .second, .val (.int p3), .val (.int m3), .val (.long k0), .second, .val (.long k1), .second, .val (.long k2), .second, .val (.ref b132), .val (.ref b144), .val (.int (((1 : Int32) + (1 : Int32)) + (1 : Int32)))] [(.int (1 : Int32))])) (fun t_ k_ => st177 _ k_) ?_
                refine own_go (B := T177.setTop (mkF m 218 #[.val (.long q0), .second, .val (.long q1), .second, .val (.long q2), .second, .val (.int p3), .val (.int m3), .val (.long k0), .second, .val (.long k1), .second, .val (.long k2), .second, .val (.ref b132), .val (.ref b144), .val (.int (((1 : Int32) + (1 : Int32)) + (1 : Int32)))] [(.long k1), (.ref b144)])) (fun t_ k_ => ?_) ?_
                · show Steps p.tables e below (T177.setTop (mkF m 203 #[.val (.long q0), .second, .val (.long q1), .second, .val (.long q2), .second, .val (.int p3), .val (.int m3), .val (.long k0), .second, .val (.long k1), .second, .val (.long k2), .second, .val (.ref b132), .val (.ref b144), .val (.int (((1 : Int32) + (1 : Int32)) + (1 : Int32)))] [(.int (1 : Int32))])) _
                  refine XS.ifYes X177.here hx rfl (pc0 := 203) (pc' := 208) rfl (hb hby at_203) rfl ((if0 _ _).trans (feq (by decide : ¬ ((1 : Int32) = (0 : Int32)))).2) (by decide) (by decide) ?_
                  show Steps p.tables e below (T177.setTop (mkF m 208 #[.val (.long q0), .second, .val (.long q1), .second, .val (.long q2), .second, .val (.int p3), .val (.int m3), .val (.long k0), .second, .val (.long k1), .second, .val (.long k2), .second, .val (.ref b132), .val (.ref b144), .val (.int (((1 : Int32) + (1 : Int32)) + (1 : Int32)))] [])) _
                  refine XS.iload X177.here hx rfl (hb hby at_208) rfl ?_
                  show Steps p.tables e below (T177.setTop (mkF m 210 #[.val (.long q0), .second, .val (.long q1), .second, .val (.long q2), .second, .val (.int p3), .val (.int m3), .val (.long k0), .second, .val (.long k1), .second, .val (.long k2), .second, .val (.ref b132), .val (.ref b144), .val (.int (((1 : Int32) + (1 : Int32)) + (1 : Int32)))] [(.int m3)])) _
                  refine XS.iconst X177.here hx rfl (hb hby at_210) ?_
                  show Steps p.tables e below (T177.setTop (mkF m 211 #[.val (.long q0), .second, .val (.long q1), .second, .val (.long q2), .second, .val (.int p3), .val (.int m3), .val (.long k0), .second, .val (.long k1), .second, .val (.long k2), .second, .val (.ref b132), .val (.ref b144), .val (.int (((1 : Int32) + (1 : Int32)) + (1 : Int32)))] [(.int (1 : Int32)), (.int m3)])) _
                  refine XS.icmpNo X177.here hx rfl (hb hby at_211) rfl (tlt b1).2.2.2 ?_
                  show Steps p.tables e below (T177.setTop (mkF m 214 #[.val (.long q0), .second, .val (.long q1), .second, .val (.long q2), .second, .val (.int p3), .val (.int m3), .val (.long k0), .second, .val (.long k1), .second, .val (.long k2), .second, .val (.ref b132), .val (.ref b144), .val (.int (((1 : Int32) + (1 : Int32)) + (1 : Int32)))] [])) _
                  refine XS.aload X177.here hx rfl (hb hby at_214) rfl rfl ?_
                  show Steps p.tables e below (T177.setTop (mkF m 216 #[.val (.long q0), .second, .val (.long q1), .second, .val (.long q2), .second, .val (.int p3), .val (.int m3), .val (.long k0), .second, .val (.long k1), .second, .val (.long k2), .second, .val (.ref b132), .val (.ref b144), .val (.int (((1 : Int32) + (1 : Int32)) + (1 : Int32)))] [(.ref b144)])) _
                  refine XS.lload X177.here hx rfl (hb hby at_216) rfl ?_
                  show Steps p.tables e below (T177.setTop (mkF m 218 #[.val (.long q0), .second, .val (.long q1), .second, .val (.long q2), .second, .val (.int p3), .val (.int m3), .val (.long k0), .second, .val (.long k1), .second, .val (.long k2), .second, .val (.ref b132), .val (.ref b144), .val (.int (((1 : Int32) + (1 : Int32)) + (1 : Int32)))] [(.long k1), (.ref b144)])) _
                  exact k_
                obtain ⟨vv178, _, ⟨T178, L178, k178, n178⟩, -, X178, ⟨Lc178, hQ178, l178, y178, z178⟩, st178⟩ := Jvm.LawKit.callS X177 hx (y := (⟨"com/example/prudent_annotator/prudentannotator/profile/PairCountsKeysPinLaw", "has", "([JJ)Z"⟩ : MethodName)) hown (mvT hZ (hw _ (List.mem_of_getElem? (i := 52) rfl))) (mvT hZ (hw _ (List.mem_of_getElem? (i := 53) rfl))) (mvT hZ (hw _ (List.mem_of_getElem? (i := 2) rfl))) (mvT hZ (hw _ (List.mem_of_getElem? (i := 54) rfl))) (by decide) (backOf (W := 0) (rm10 l Z a0 hw [] b144 k1 kb144 (own_kl f142x 1024) T144.heap n0 Z144 Vx hin1 (by rw [hlen]; omega)) hZ (hw _ (List.mem_of_getElem? (i := 54) rfl)) (hw _ (List.mem_of_getElem? (i := 2) rfl)) (by decide) (by decide)) (g := (mkF m 218 #[.val (.long q0), .second, .val (.long q1), .second, .val (.long q2), .second, .val (.int p3), .val (.int m3), .val (.long k0), .second, .val (.long k1), .second, .val (.long k2), .second, .val (.ref b132), .val (.ref b144), .val (.int (((1 : Int32) + (1 : Int32)) + (1 : Int32)))] [(.long k1), (.ref b144)])) rfl (by rw [hml]; rfl) (argsL := [(.ref b144), (.long k1)]) (rest := []) (lenOf pd__28__5b_JJ_29_Z rfl) rfl (by show 2 * 0 + _ ≤ _; exact Nat.le_of_eq rfl) (hb hby at_218) (fun _ _ => ⟨rfl, e177q, (by decide : 4 + 0 ≤ _), (by decide : 2054 + 0 ≤ _)⟩)
                dsimp only [Pt.U, Pt.locs, Pt.cells, Pt.slots] at X178 l178 y178 z178 st178 hQ178
                subst l178 y178 z178
                obtain ⟨rfl, N178q, e178q⟩ := hQ178
                have N178 := Fr.app N177 N178q
                refine own_go (B := T178.setTop (mkF m 221 #[.val (.long q0), .second, .val (.long q1), .second, .val (.long q2), .second, .val (.int p3), .val (.int m3), .val (.long k0), .second, .val (.long k1), .second, .val (.long k2), .second, .val (.ref b132), .val (.ref b144), .val (.int (((1 : Int32) + (1 : Int32)) + (1 : Int32)))] [(.int (1 : Int32))])) (fun t_ k_ => st178 _ k_) ?_
                refine own_go (B := T178.setTop (mkF m 236 #[.val (.long q0), .second, .val (.long q1), .second, .val (.long q2), .second, .val (.int p3), .val (.int m3), .val (.long k0), .second, .val (.long k1), .second, .val (.long k2), .second, .val (.ref b132), .val (.ref b144), .val (.int (((1 : Int32) + (1 : Int32)) + (1 : Int32)))] [(.long k2), (.ref b144)])) (fun t_ k_ => ?_) ?_
                · show Steps p.tables e below (T178.setTop (mkF m 221 #[.val (.long q0), .second, .val (.long q1), .second, .val (.long q2), .second, .val (.int p3), .val (.int m3), .val (.long k0), .second, .val (.long k1), .second, .val (.long k2), .second, .val (.ref b132), .val (.ref b144), .val (.int (((1 : Int32) + (1 : Int32)) + (1 : Int32)))] [(.int (1 : Int32))])) _
                  refine XS.ifYes X178.here hx rfl (pc0 := 221) (pc' := 226) rfl (hb hby at_221) rfl ((if0 _ _).trans (feq (by decide : ¬ ((1 : Int32) = (0 : Int32)))).2) (by decide) (by decide) ?_
                  show Steps p.tables e below (T178.setTop (mkF m 226 #[.val (.long q0), .second, .val (.long q1), .second, .val (.long q2), .second, .val (.int p3), .val (.int m3), .val (.long k0), .second, .val (.long k1), .second, .val (.long k2), .second, .val (.ref b132), .val (.ref b144), .val (.int (((1 : Int32) + (1 : Int32)) + (1 : Int32)))] [])) _
                  refine XS.iload X178.here hx rfl (hb hby at_226) rfl ?_
                  show Steps p.tables e below (T178.setTop (mkF m 228 #[.val (.long q0), .second, .val (.long q1), .second, .val (.long q2), .second, .val (.int p3), .val (.int m3), .val (.long k0), .second, .val (.long k1), .second, .val (.long k2), .second, .val (.ref b132), .val (.ref b144), .val (.int (((1 : Int32) + (1 : Int32)) + (1 : Int32)))] [(.int m3)])) _
                  refine XS.iconst X178.here hx rfl (hb hby at_228) ?_
                  show Steps p.tables e below (T178.setTop (mkF m 229 #[.val (.long q0), .second, .val (.long q1), .second, .val (.long q2), .second, .val (.int p3), .val (.int m3), .val (.long k0), .second, .val (.long k1), .second, .val (.long k2), .second, .val (.ref b132), .val (.ref b144), .val (.int (((1 : Int32) + (1 : Int32)) + (1 : Int32)))] [(.int (2 : Int32)), (.int m3)])) _
                  refine XS.icmpNo X178.here hx rfl (hb hby at_229) rfl (tlt b2).2.2.2 ?_
                  show Steps p.tables e below (T178.setTop (mkF m 232 #[.val (.long q0), .second, .val (.long q1), .second, .val (.long q2), .second, .val (.int p3), .val (.int m3), .val (.long k0), .second, .val (.long k1), .second, .val (.long k2), .second, .val (.ref b132), .val (.ref b144), .val (.int (((1 : Int32) + (1 : Int32)) + (1 : Int32)))] [])) _
                  refine XS.aload X178.here hx rfl (hb hby at_232) rfl rfl ?_
                  show Steps p.tables e below (T178.setTop (mkF m 234 #[.val (.long q0), .second, .val (.long q1), .second, .val (.long q2), .second, .val (.int p3), .val (.int m3), .val (.long k0), .second, .val (.long k1), .second, .val (.long k2), .second, .val (.ref b132), .val (.ref b144), .val (.int (((1 : Int32) + (1 : Int32)) + (1 : Int32)))] [(.ref b144)])) _
                  refine XS.lload X178.here hx rfl (hb hby at_234) rfl ?_
                  show Steps p.tables e below (T178.setTop (mkF m 236 #[.val (.long q0), .second, .val (.long q1), .second, .val (.long q2), .second, .val (.int p3), .val (.int m3), .val (.long k0), .second, .val (.long k1), .second, .val (.long k2), .second, .val (.ref b132), .val (.ref b144), .val (.int (((1 : Int32) + (1 : Int32)) + (1 : Int32)))] [(.long k2), (.ref b144)])) _
                  exact k_
                obtain ⟨vv179, _, ⟨T179, L179, k179, n179⟩, -, X179, ⟨Lc179, hQ179, l179, y179, z179⟩, st179⟩ := Jvm.LawKit.callS X178 hx (y := (⟨"com/example/prudent_annotator/prudentannotator/profile/PairCountsKeysPinLaw", "has", "([JJ)Z"⟩ : MethodName)) hown (mvT hZ (hw _ (List.mem_of_getElem? (i := 52) rfl))) (mvT hZ (hw _ (List.mem_of_getElem? (i := 53) rfl))) (mvT hZ (hw _ (List.mem_of_getElem? (i := 2) rfl))) (mvT hZ (hw _ (List.mem_of_getElem? (i := 54) rfl))) (by decide) (backOf (W := 0) (rm10 l Z a0 hw [] b144 k2 kb144 (own_kl f142x 1024) T144.heap n0 Z144 Vx hin2 (by rw [hlen]; omega)) hZ (hw _ (List.mem_of_getElem? (i := 54) rfl)) (hw _ (List.mem_of_getElem? (i := 2) rfl)) (by decide) (by decide)) (g := (mkF m 236 #[.val (.long q0), .second, .val (.long q1), .second, .val (.long q2), .second, .val (.int p3), .val (.int m3), .val (.long k0), .second, .val (.long k1), .second, .val (.long k2), .second, .val (.ref b132), .val (.ref b144), .val (.int (((1 : Int32) + (1 : Int32)) + (1 : Int32)))] [(.long k2), (.ref b144)])) rfl (by rw [hml]; rfl) (argsL := [(.ref b144), (.long k2)]) (rest := []) (lenOf pd__28__5b_JJ_29_Z rfl) rfl (by show 2 * 0 + _ ≤ _; exact Nat.le_of_eq rfl) (hb hby at_236) (fun _ _ => ⟨rfl, e178q, (by decide : 4 + 0 ≤ _), (by decide : 2054 + 0 ≤ _)⟩)
                dsimp only [Pt.U, Pt.locs, Pt.cells, Pt.slots] at X179 l179 y179 z179 st179 hQ179
                subst l179 y179 z179
                obtain ⟨rfl, N179q, e179q⟩ := hQ179
                have N179 := Fr.app N178 N179q
                refine own_go (B := T179.setTop (mkF m 239 #[.val (.long q0), .second, .val (.long q1), .second, .val (.long q2), .second, .val (.int p3), .val (.int m3), .val (.long k0), .second, .val (.long k1), .second, .val (.long k2), .second, .val (.ref b132), .val (.ref b144), .val (.int (((1 : Int32) + (1 : Int32)) + (1 : Int32)))] [(.int (1 : Int32))])) (fun t_ k_ => st179 _ k_) ?_
                refine own_go (B := T179.setTop (mkF m 245 #[.val (.long q0), .second, .val (.long q1), .second, .val (.long q2), .second, .val (.int p3), .val (.int m3), .val (.long k0), .second, .val (.long k1), .second, .val (.long k2), .second, .val (.ref b132), .val (.ref b144), .val (.int (((1 : Int32) + (1 : Int32)) + (1 : Int32)))] [(.int (1 : Int32))])) (fun t_ k_ => ?_) ?_
                · show Steps p.tables e below (T179.setTop (mkF m 239 #[.val (.long q0), .second, .val (.long q1), .second, .val (.long q2), .second, .val (.int p3), .val (.int m3), .val (.long k0), .second, .val (.long k1), .second, .val (.long k2), .second, .val (.ref b132), .val (.ref b144), .val (.int (((1 : Int32) + (1 : Int32)) + (1 : Int32)))] [(.int (1 : Int32))])) _
                  refine XS.ifYes X179.here hx rfl (pc0 := 239) (pc' := 244) rfl (hb hby at_239) rfl ((if0 _ _).trans (feq (by decide : ¬ ((1 : Int32) = (0 : Int32)))).2) (by decide) (by decide) ?_
                  show Steps p.tables e below (T179.setTop (mkF m 244 #[.val (.long q0), .second, .val (.long q1), .second, .val (.long q2), .second, .val (.int p3), .val (.int m3), .val (.long k0), .second, .val (.long k1), .second, .val (.long k2), .second, .val (.ref b132), .val (.ref b144), .val (.int (((1 : Int32) + (1 : Int32)) + (1 : Int32)))] [])) _
                  refine XS.iconst X179.here hx rfl (hb hby at_244) ?_
                  show Steps p.tables e below (T179.setTop (mkF m 245 #[.val (.long q0), .second, .val (.long q1), .second, .val (.long q2), .second, .val (.int p3), .val (.int m3), .val (.long k0), .second, .val (.long k1), .second, .val (.long k2), .second, .val (.ref b132), .val (.ref b144), .val (.int (((1 : Int32) + (1 : Int32)) + (1 : Int32)))] [(.int (1 : Int32))])) _
                  exact k_
                obtain ⟨fs, hr, hrun, hended, hW, hsame⟩ := X179.leave (v := some (.int (1 : Int32))) (fun h => by rw [Bd.returns] at h; cases h)
                refine own_at ?_ (hG _ _ ⟨hrun, hended, _, _, rfl, ?_, ⟨_, rfl⟩, hW, hsame.mono (by decide) (by decide)⟩)
                · show Steps p.tables e below (T179.setTop (mkF m 245 #[.val (.long q0), .second, .val (.long q1), .second, .val (.long q2), .second, .val (.int p3), .val (.int m3), .val (.long k0), .second, .val (.long k1), .second, .val (.long k2), .second, .val (.ref b132), .val (.ref b144), .val (.int (((1 : Int32) + (1 : Int32)) + (1 : Int32)))] [(.int (1 : Int32))])) _
                  exact retN X179 hx (t := .boolean) Bd.returns (by simp) (hb hby at_245) hr
                · show Q0 Z q0 q1 q2 p3 h0 n0 _ T179.heap _
                  rw [e179q]
                  exact ⟨rfl, N179⟩
        · refine own_go (B := T140.setTop (mkF m 112 #[.val (.long q0), .second, .val (.long q1), .second, .val (.long q2), .second, .val (.int p3), .val (.int m3), .val (.long k0), .second, .val (.long k1), .second, .val (.long k2), .second, .val (.ref b132), .unset, .unset] [(.ref b132)])) (fun t_ k_ => ?_) ?_
          · show Steps p.tables e below (T140.setTop (mkF m 100 #[.val (.long q0), .second, .val (.long q1), .second, .val (.long q2), .second, .val (.int p3), .val (.int m3), .val (.long k0), .second, .val (.long k1), .second, .val (.long k2), .second, .val (.ref b132), .unset, .unset] [(.int (2 : Int32)), (.int m3)])) _
            refine XS.icmpYes X140.here hx rfl (pc0 := 100) (pc' := 110) rfl (hb hby at_100) rfl (flt b2).2.2.2 (by decide) (by decide) ?_
            show Steps p.tables e below (T140.setTop (mkF m 110 #[.val (.long q0), .second, .val (.long q1), .second, .val (.long q2), .second, .val (.int p3), .val (.int m3), .val (.long k0), .second, .val (.long k1), .second, .val (.long k2), .second, .val (.ref b132), .unset, .unset] [])) _
            refine XS.aload X140.here hx rfl (hb hby at_110) rfl rfl ?_
            show Steps p.tables e below (T140.setTop (mkF m 112 #[.val (.long q0), .second, .val (.long q1), .second, .val (.long q2), .second, .val (.int p3), .val (.int m3), .val (.long k0), .second, .val (.long k1), .second, .val (.long k2), .second, .val (.ref b132), .unset, .unset] [(.ref b132)])) _
            exact k_
          obtain ⟨cq181, kq181, q181a, q181b, q181c⟩ := isOf hZ rfl f141
          obtain ⟨vv181, _, ⟨T181, L181, k181, n181⟩, -, X181, ⟨Lc181, hQ181, l181, y181, z181⟩, st181⟩ := X140.virtualBack hx (y := (⟨"com/example/prudent_annotator/prudentannotator/profile/PairCounts", "keys", "()[J"⟩ : MethodName)) (z := (⟨"com/example/prudent_annotator/prudentannotator/profile/PairCounts", "keys", "()[J"⟩ : MethodName)) hown (mvT hZ (hw _ (List.mem_of_getElem? (i := 47) rfl))) (mvT hZ (hw _ (List.mem_of_getElem? (i := 48) rfl))) (notFace_of_selects (args := #[]) (mvT hZ (hw _ (List.mem_of_getElem? (i := 50) rfl)))) (mvT hZ (hw _ (List.mem_of_getElem? (i := 50) rfl))) (mvT hZ (hw _ (List.mem_of_getElem? (i := 49) rfl))) (by decide) (backOf (W := 0) (rm9 l Z a0 hw [] b132 bk136 f140x n140x T140.heap n0 Z140 u1140 u3140 u4140 ok140 (by omega)) hZ (hw _ (List.mem_of_getElem? (i := 51) rfl)) (hw _ (List.mem_of_getElem? (i := 7) rfl)) (by decide) (by decide)) q181a q181c (g := (mkF m 112 #[.val (.long q0), .second, .val (.long q1), .second, .val (.long q2), .second, .val (.int p3), .val (.int m3), .val (.long k0), .second, .val (.long k1), .second, .val (.long k2), .second, .val (.ref b132), .unset, .unset] [(.ref b132)])) rfl (by rw [hml]; rfl) (Steps.refl _) (argsL := []) (rest := []) (lenOf pd__28__29__5b_J rfl) rfl (by show 2 * 0 + _ ≤ _; exact Nat.le_of_eq rfl) (hb hby at_112) (fun _ _ => ⟨rfl, rfl, (by decide : 3 + 1 ≤ _), (by decide : 2051 + 3 ≤ _)⟩)
          dsimp only [Pt.U, Pt.locs, Pt.cells, Pt.slots] at X181 l181 y181 z181 st181 hQ181
          subst l181 y181 z181
          obtain ⟨b181, kb181, rfl, N181q, K181, u181⟩ := hQ181
          have N181 := Fr.app N140 N181q
          have f182 : Exa Z T181.heap b132 "com/example/prudent_annotator/prudentannotator/profile/PairCounts" := f141.keep K181
          have f183 : Fld Z T181.heap b132 "com/example/prudent_annotator/prudentannotator/profile/PairCounts" "keys" "[J" (.ref bk136) := u1140.keep K181 nin0
          have f184 : Fld Z T181.heap b132 "com/example/prudent_annotator/prudentannotator/profile/PairCounts" "counts" "[I" (.ref bc136) := u2140.keep K181 nin0
          have f185 : Fld Z T181.heap b132 "com/example/prudent_annotator/prudentannotator/profile/PairCounts" "size" "I" (.int (Int32.ofNat n140x)) := u3140.keep K181 nin0
          have f186 : own_LA Z T181.heap bk136 f140x := u4140.keep K181 nin0
          have f187 : own_IA Z T181.heap bc136 g140x := u5140.keep K181 nin0
          have Z181 : n0 ≤ T181.heap.size := Nat.le_trans Z140 K181.1
          refine own_go (B := T181.setTop (mkF m 115 #[.val (.long q0), .second, .val (.long q1), .second, .val (.long q2), .second, .val (.int p3), .val (.int m3), .val (.long k0), .second, .val (.long k1), .second, .val (.long k2), .second, .val (.ref b132), .unset, .unset] [(.ref b181)])) (fun t_ k_ => st181.trans k_) ?_
          refine own_go (B := T181.setTop (mkF m 139 #[.val (.long q0), .second, .val (.long q1), .second, .val (.long q2), .second, .val (.int p3), .val (.int m3), .val (.long k0), .second, .val (.long k1), .second, .val (.long k2), .second, .val (.ref b132), .val (.ref b181), .val (.int (1 : Int32))] [(.int (lcmpW k1 k0))])) (fun t_ k_ => ?_) ?_
          · show Steps p.tables e below (T181.setTop (mkF m 115 #[.val (.long q0), .second, .val (.long q1), .second, .val (.long q2), .second, .val (.int p3), .val (.int m3), .val (.long k0), .second, .val (.long k1), .second, .val (.long k2), .second, .val (.ref b132), .unset, .unset] [(.ref b181)])) _
            refine XS.astore X181.here hx rfl (hb hby at_115) rfl rfl (l' := #[.val (.long q0), .second, .val (.long q1), .second, .val (.long q2), .second, .val (.int p3), .val (.int m3), .val (.long k0), .second, .val (.long k1), .second, .val (.long k2), .second, .val (.ref b132), .val (.ref b181), .unset]) rfl ?_
            show Steps p.tables e below (T181.setTop (mkF m 117 #[.val (.long q0), .second, .val (.long q1), .second, .val (.long q2), .second, .val (.int p3), .val (.int m3), .val (.long k0), .second, .val (.long k1), .second, .val (.long k2), .second, .val (.ref b132), .val (.ref b181), .unset] [])) _
            refine XS.iconst X181.here hx rfl (hb hby at_117) ?_
            show Steps p.tables e below (T181.setTop (mkF m 118 #[.val (.long q0), .second, .val (.long q1), .second, .val (.long q2), .second, .val (.int p3), .val (.int m3), .val (.long k0), .second, .val (.long k1), .second, .val (.long k2), .second, .val (.ref b132), .val (.ref b181), .unset] [(.int (0 : Int32))])) _
            refine XS.istore X181.here hx rfl (hb hby at_118) rfl (l' := #[.val (.long q0), .second, .val (.long q1), .second, .val (.long q2), .second, .val (.int p3), .val (.int m3), .val (.long k0), .second, .val (.long k1), .second, .val (.long k2), .second, .val (.ref b132), .val (.ref b181), .val (.int (0 : Int32))]) rfl ?_
            show Steps p.tables e below (T181.setTop (mkF m 120 #[.val (.long q0), .second, .val (.long q1), .second, .val (.long q2), .second, .val (.int p3), .val (.int m3), .val (.long k0), .second, .val (.long k1), .second, .val (.long k2), .second, .val (.ref b132), .val (.ref b181), .val (.int (0 : Int32))] [])) _
            refine XS.iload X181.here hx rfl (hb hby at_120) rfl ?_
            show Steps p.tables e below (T181.setTop (mkF m 122 #[.val (.long q0), .second, .val (.long q1), .second, .val (.long q2), .second, .val (.int p3), .val (.int m3), .val (.long k0), .second, .val (.long k1), .second, .val (.long k2), .second, .val (.ref b132), .val (.ref b181), .val (.int (0 : Int32))] [(.int m3)])) _
            refine XS.ifNo X181.here hx rfl (hb hby at_122) rfl ((if0 _ _).trans (tlt b0).2.2.2) ?_
            show Steps p.tables e below (T181.setTop (mkF m 125 #[.val (.long q0), .second, .val (.long q1), .second, .val (.long q2), .second, .val (.int p3), .val (.int m3), .val (.long k0), .second, .val (.long k1), .second, .val (.long k2), .second, .val (.ref b132), .val (.ref b181), .val (.int (0 : Int32))] [])) _
            refine XS.iconst X181.here hx rfl (hb hby at_125) ?_
            show Steps p.tables e below (T181.setTop (mkF m 126 #[.val (.long q0), .second, .val (.long q1), .second, .val (.long q2), .second, .val (.int p3), .val (.int m3), .val (.long k0), .second, .val (.long k1), .second, .val (.long k2), .second, .val (.ref b132), .val (.ref b181), .val (.int (0 : Int32))] [(.int (1 : Int32))])) _
            refine XS.istore X181.here hx rfl (hb hby at_126) rfl (l' := #[.val (.long q0), .second, .val (.long q1), .second, .val (.long q2), .second, .val (.int p3), .val (.int m3), .val (.long k0), .second, .val (.long k1), .second, .val (.long k2), .second, .val (.ref b132), .val (.ref b181), .val (.int (1 : Int32))]) rfl ?_
            show Steps p.tables e below (T181.setTop (mkF m 128 #[.val (.long q0), .second, .val (.long q1), .second, .val (.long q2), .second, .val (.int p3), .val (.int m3), .val (.long k0), .second, .val (.long k1), .second, .val (.long k2), .second, .val (.ref b132), .val (.ref b181), .val (.int (1 : Int32))] [])) _
            refine XS.iload X181.here hx rfl (hb hby at_128) rfl ?_
            show Steps p.tables e below (T181.setTop (mkF m 130 #[.val (.long q0), .second, .val (.long q1), .second, .val (.long q2), .second, .val (.int p3), .val (.int m3), .val (.long k0), .second, .val (.long k1), .second, .val (.long k2), .second, .val (.ref b132), .val (.ref b181), .val (.int (1 : Int32))] [(.int m3)])) _
            refine XS.iconst X181.here hx rfl (hb hby at_130) ?_
            show Steps p.tables e below (T181.setTop (mkF m 131 #[.val (.long q0), .second, .val (.long q1), .second, .val (.long q2), .second, .val (.int p3), .val (.int m3), .val (.long k0), .second, .val (.long k1), .second, .val (.long k2), .second, .val (.ref b132), .val (.ref b181), .val (.int (1 : Int32))] [(.int (1 : Int32)), (.int m3)])) _
            refine XS.icmpNo X181.here hx rfl (hb hby at_131) rfl (tlt b1).2.2.2 ?_
            show Steps p.tables e below (T181.setTop (mkF m 134 #[.val (.long q0), .second, .val (.long q1), .second, .val (.long q2), .second, .val (.int p3), .val (.int m3), .val (.long k0), .second, .val (.long k1), .second, .val (.long k2), .second, .val (.ref b132), .val (.ref b181), .val (.int (1 : Int32))] [])) _
            refine XS.lload X181.here hx rfl (hb hby at_134) rfl ?_
            show Steps p.tables e below (T181.setTop (mkF m 136 #[.val (.long q0), .second, .val (.long q1), .second, .val (.long q2), .second, .val (.int p3), .val (.int m3), .val (.long k0), .second, .val (.long k1), .second, .val (.long k2), .second, .val (.ref b132), .val (.ref b181), .val (.int (1 : Int32))] [(.long k1)])) _
            refine XS.lload X181.here hx rfl (hb hby at_136) rfl ?_
            show Steps p.tables e below (T181.setTop (mkF m 138 #[.val (.long q0), .second, .val (.long q1), .second, .val (.long q2), .second, .val (.int p3), .val (.int m3), .val (.long k0), .second, .val (.long k1), .second, .val (.long k2), .second, .val (.ref b132), .val (.ref b181), .val (.int (1 : Int32))] [(.long k0), (.long k1)])) _
            refine XS.lcmp X181.here hx rfl (hb hby at_138) rfl ?_
            show Steps p.tables e below (T181.setTop (mkF m 139 #[.val (.long q0), .second, .val (.long q1), .second, .val (.long q2), .second, .val (.int p3), .val (.int m3), .val (.long k0), .second, .val (.long k1), .second, .val (.long k2), .second, .val (.ref b132), .val (.ref b181), .val (.int (1 : Int32))] [(.int (lcmpW k1 k0))])) _
            exact k_
          by_cases d10 : k1 = k0
          · refine own_go (B := T181.setTop (mkF m 183 #[.val (.long q0), .second, .val (.long q1), .second, .val (.long q2), .second, .val (.int p3), .val (.int m3), .val (.long k0), .second, .val (.long k1), .second, .val (.long k2), .second, .val (.ref b132), .val (.ref b181), .val (.int (1 : Int32))] [(.ref b181)])) (fun t_ k_ => ?_) ?_
            · show Steps p.tables e below (T181.setTop (mkF m 139 #[.val (.long q0), .second, .val (.long q1), .second, .val (.long q2), .second, .val (.int p3), .val (.int m3), .val (.long k0), .second, .val (.long k1), .second, .val (.long k2), .second, .val (.ref b132), .val (.ref b181), .val (.int (1 : Int32))] [(.int (lcmpW k1 k0))])) _
              refine XS.ifYes X181.here hx rfl (pc0 := 139) (pc' := 148) rfl (hb hby at_139) rfl ((if0 _ _).trans (teq ((lw_eq _ _).mpr d10)).1) (by decide) (by decide) ?_
              show Steps p.tables e below (T181.setTop (mkF m 148 #[.val (.long q0), .second, .val (.long q1), .second, .val (.long q2), .second, .val (.int p3), .val (.int m3), .val (.long k0), .second, .val (.long k1), .second, .val (.long k2), .second, .val (.ref b132), .val (.ref b181), .val (.int (1 : Int32))] [])) _
              refine XS.iload X181.here hx rfl (hb hby at_148) rfl ?_
              show Steps p.tables e below (T181.setTop (mkF m 150 #[.val (.long q0), .second, .val (.long q1), .second, .val (.long q2), .second, .val (.int p3), .val (.int m3), .val (.long k0), .second, .val (.long k1), .second, .val (.long k2), .second, .val (.ref b132), .val (.ref b181), .val (.int (1 : Int32))] [(.int m3)])) _
              refine XS.iconst X181.here hx rfl (hb hby at_150) ?_
              show Steps p.tables e below (T181.setTop (mkF m 151 #[.val (.long q0), .second, .val (.long q1), .second, .val (.long q2), .second, .val (.int p3), .val (.int m3), .val (.long k0), .second, .val (.long k1), .second, .val (.long k2), .second, .val (.ref b132), .val (.ref b181), .val (.int (1 : Int32))] [(.int (2 : Int32)), (.int m3)])) _
              refine XS.icmpYes X181.here hx rfl (pc0 := 151) (pc' := 176) rfl (hb hby at_151) rfl (flt b2).2.2.2 (by decide) (by decide) ?_
              show Steps p.tables e below (T181.setTop (mkF m 176 #[.val (.long q0), .second, .val (.long q1), .second, .val (.long q2), .second, .val (.int p3), .val (.int m3), .val (.long k0), .second, .val (.long k1), .second, .val (.long k2), .second, .val (.ref b132), .val (.ref b181), .val (.int (1 : Int32))] [])) _
              refine XS.aload X181.here hx rfl (hb hby at_176) rfl rfl ?_
              show Steps p.tables e below (T181.setTop (mkF m 178 #[.val (.long q0), .second, .val (.long q1), .second, .val (.long q2), .second, .val (.int p3), .val (.int m3), .val (.long k0), .second, .val (.long k1), .second, .val (.long k2), .second, .val (.ref b132), .val (.ref b181), .val (.int (1 : Int32))] [(.ref b181)])) _
              refine XS.ifnullNo X181.here hx rfl (hb hby at_178) rfl ?_
              show Steps p.tables e below (T181.setTop (mkF m 181 #[.val (.long q0), .second, .val (.long q1), .second, .val (.long q2), .second, .val (.int p3), .val (.int m3), .val (.long k0), .second, .val (.long k1), .second, .val (.long k2), .second, .val (.ref b132), .val (.ref b181), .val (.int (1 : Int32))] [])) _
              refine XS.aload X181.here hx rfl (hb hby at_181) rfl rfl ?_
              show Steps p.tables e below (T181.setTop (mkF m 183 #[.val (.long q0), .second, .val (.long q1), .second, .val (.long q2), .second, .val (.int p3), .val (.int m3), .val (.long k0), .second, .val (.long k1), .second, .val (.long k2), .second, .val (.ref b132), .val (.ref b181), .val (.int (1 : Int32))] [(.ref b181)])) _
              exact k_
            obtain ⟨cl188, Ar188, -, S188, M188, -, -⟩ := id u181
            refine own_go (B := T181.setTop (mkF m 184 #[.val (.long q0), .second, .val (.long q1), .second, .val (.long q2), .second, .val (.int p3), .val (.int m3), .val (.long k0), .second, .val (.long k1), .second, .val (.long k2), .second, .val (.ref b132), .val (.ref b181), .val (.int (1 : Int32))] [(.int (Int32.ofNat n140x))])) (fun t_ k_ => ?_) ?_
            · refine X181.arraylength hx Ar188.1 (State.isArrayOf_alike hZ.alike Ar188.2.1) (g := (mkF m 183 #[.val (.long q0), .second, .val (.long q1), .second, .val (.long q2), .second, .val (.int p3), .val (.int m3), .val (.long k0), .second, .val (.long k1), .second, .val (.long k2), .second, .val (.ref b132), .val (.ref b181), .val (.int (1 : Int32))] [(.ref b181)])) rfl rfl (hb hby at_183) _ ?_
              rw [len_of S188 M188]
              exact k_
            refine own_go (B := T181.setTop (mkF m 191 #[.val (.long q0), .second, .val (.long q1), .second, .val (.long q2), .second, .val (.int p3), .val (.int m3), .val (.long k0), .second, .val (.long k1), .second, .val (.long k2), .second, .val (.ref b132), .val (.ref b181), .val (.int (1 : Int32))] [])) (fun t_ k_ => ?_) ?_
            · show Steps p.tables e below (T181.setTop (mkF m 184 #[.val (.long q0), .second, .val (.long q1), .second, .val (.long q2), .second, .val (.int p3), .val (.int m3), .val (.long k0), .second, .val (.long k1), .second, .val (.long k2), .second, .val (.ref b132), .val (.ref b181), .val (.int (1 : Int32))] [(.int (Int32.ofNat n140x))])) _
              refine XS.iload X181.here hx rfl (hb hby at_184) rfl ?_
              show Steps p.tables e below (T181.setTop (mkF m 186 #[.val (.long q0), .second, .val (.long q1), .second, .val (.long q2), .second, .val (.int p3), .val (.int m3), .val (.long k0), .second, .val (.long k1), .second, .val (.long k2), .second, .val (.ref b132), .val (.ref b181), .val (.int (1 : Int32))] [(.int (1 : Int32)), (.int (Int32.ofNat n140x))])) _
              refine XS.icmpYes X181.here hx rfl (pc0 := 186) (pc' := 191) rfl (hb hby at_186) rfl (teq (by have e2 : n140x = 1 := (by have := old140 (by rw [d10]; exact me0_1); omega); rw [e2]; rfl)).1 (by decide) (by decide) ?_
              show Steps p.tables e below (T181.setTop (mkF m 191 #[.val (.long q0), .second, .val (.long q1), .second, .val (.long q2), .second, .val (.int p3), .val (.int m3), .val (.long k0), .second, .val (.long k1), .second, .val (.long k2), .second, .val (.ref b132), .val (.ref b181), .val (.int (1 : Int32))] [])) _
              exact k_
            have hlen : (own_kl f140x 1024).length = n140x := ok140.2
            have Vx : Arv Z T181.heap b181 kb181 .long (Int32.ofNat (own_kl f140x 1024).length) ((own_kl f140x 1024).map Value.long) (.long (0 : Int64)) := by rw [hlen]; exact u181
            have hin0 : k0 ∈ own_kl f140x 1024 := own_kl_mem.mpr ⟨hk0, me0_2⟩
            have hin1 : k1 ∈ own_kl f140x 1024 := own_kl_mem.mpr ⟨hk1, me1_2⟩
            refine own_go (B := T181.setTop (mkF m 200 #[.val (.long q0), .second, .val (.long q1), .second, .val (.long q2), .second, .val (.int p3), .val (.int m3), .val (.long k0), .second, .val (.long k1), .second, .val (.long k2), .second, .val (.ref b132), .val (.ref b181), .val (.int (1 : Int32))] [(.long k0), (.ref b181)])) (fun t_ k_ => ?_) ?_
            · show Steps p.tables e below (T181.setTop (mkF m 191 #[.val (.long q0), .second, .val (.long q1), .second, .val (.long q2), .second, .val (.int p3), .val (.int m3), .val (.long k0), .second, .val (.long k1), .second, .val (.long k2), .second, .val (.ref b132), .val (.ref b181), .val (.int (1 : Int32))] [])) _
              refine XS.iload X181.here hx rfl (hb hby at_191) rfl ?_
              show Steps p.tables e below (T181.setTop (mkF m 193 #[.val (.long q0), .second, .val (.long q1), .second, .val (.long q2), .second, .val (.int p3), .val (.int m3), .val (.long k0), .second, .val (.long k1), .second, .val (.long k2), .second, .val (.ref b132), .val (.ref b181), .val (.int (1 : Int32))] [(.int m3)])) _
              refine XS.ifNo X181.here hx rfl (hb hby at_193) rfl ((if0 _ _).trans (tlt b0).2.2.2) ?_
              show Steps p.tables e below (T181.setTop (mkF m 196 #[.val (.long q0), .second, .val (.long q1), .second, .val (.long q2), .second, .val (.int p3), .val (.int m3), .val (.long k0), .second, .val (.long k1), .second, .val (.long k2), .second, .val (.ref b132), .val (.ref b181), .val (.int (1 : Int32))] [])) _
              refine XS.aload X181.here hx rfl (hb hby at_196) rfl rfl ?_
              show Steps p.tables e below (T181.setTop (mkF m 198 #[.val (.long q0), .second, .val (.long q1), .second, .val (.long q2), .second, .val (.int p3), .val (.int m3), .val (.long k0), .second, .val (.long k1), .second, .val (.long k2), .second, .val (.ref b132), .val (.ref b181), .val (.int (1 : Int32))] [(.ref b181)])) _
              refine XS.lload X181.here hx rfl (hb hby at_198) rfl ?_
              show Steps p.tables e below (T181.setTop (mkF m 200 #[.val (.long q0), .second, .val (.long q1), .second, .val (.long q2), .second, .val (.int p3), .val (.int m3), .val (.long k0), .second, .val (.long k1), .second, .val (.long k2), .second, .val (.ref b132), .val (.ref b181), .val (.int (1 : Int32))] [(.long k0), (.ref b181)])) _
              exact k_
            obtain ⟨vv189, _, ⟨T189, L189, k189, n189⟩, -, X189, ⟨Lc189, hQ189, l189, y189, z189⟩, st189⟩ := Jvm.LawKit.callS X181 hx (y := (⟨"com/example/prudent_annotator/prudentannotator/profile/PairCountsKeysPinLaw", "has", "([JJ)Z"⟩ : MethodName)) hown (mvT hZ (hw _ (List.mem_of_getElem? (i := 52) rfl))) (mvT hZ (hw _ (List.mem_of_getElem? (i := 53) rfl))) (mvT hZ (hw _ (List.mem_of_getElem? (i := 2) rfl))) (mvT hZ (hw _ (List.mem_of_getElem? (i := 54) rfl))) (by decide) (backOf (W := 0) (rm10 l Z a0 hw [] b181 k0 kb181 (own_kl f140x 1024) T181.heap n0 Z181 Vx hin0 (by rw [hlen]; omega)) hZ (hw _ (List.mem_of_getElem? (i := 54) rfl)) (hw _ (List.mem_of_getElem? (i := 2) rfl)) (by decide) (by decide)) (g := (mkF m 200 #[.val (.long q0), .second, .val (.long q1), .second, .val (.long q2), .second, .val (.int p3), .val (.int m3), .val (.long k0), .second, .val (.long k1), .second, .val (.long k2), .second, .val (.ref b132), .val (.ref b181), .val (.int (1 : Int32))] [(.long k0), (.ref b181)])) rfl (by rw [hml]; rfl) (argsL := [(.ref b181), (.long k0)]) (rest := []) (lenOf pd__28__5b_JJ_29_Z rfl) rfl (by show 2 * 0 + _ ≤ _; exact Nat.le_of_eq rfl) (hb hby at_200) (fun _ _ => ⟨rfl, rfl, (by decide : 4 + 0 ≤ _), (by decide : 2054 + 0 ≤ _)⟩)
            dsimp only [Pt.U, Pt.locs, Pt.cells, Pt.slots] at X189 l189 y189 z189 st189 hQ189
            subst l189 y189 z189
            obtain ⟨rfl, N189q, e189q⟩ := hQ189
            have N189 := Fr.app N181 N189q
            refine own_go (B := T189.setTop (mkF m 203 #[.val (.long q0), .second, .val (.long q1), .second, .val (.long q2), .second, .val (.int p3), .val (.int m3), .val (.long k0), .second, .val (.long k1), .second, .val (.long k2), .second, .val (.ref b132), .val (.ref b181), .val (.int (1 : Int32))] [(.int (1 : Int32))])) (fun t_ k_ => st189 _ k_) ?_
            refine own_go (B := T189.setTop (mkF m 218 #[.val (.long q0), .second, .val (.long q1), .second, .val (.long q2), .second, .val (.int p3), .val (.int m3), .val (.long k0), .second, .val (.long k1), .second, .val (.long k2), .second, .val (.ref b132), .val (.ref b181), .val (.int (1 : Int32))] [(.long k1), (.ref b181)])) (fun t_ k_ => ?_) ?_
            · show Steps p.tables e below (T189.setTop (mkF m 203 #[.val (.long q0), .second, .val (.long q1), .second, .val (.long q2), .second, .val (.int p3), .val (.int m3), .val (.long k0), .second, .val (.long k1), .second, .val (.long k2), .second, .val (.ref b132), .val (.ref b181), .val (.int (1 : Int32))] [(.int (1 : Int32))])) _
              refine XS.ifYes X189.here hx rfl (pc0 := 203) (pc' := 208) rfl (hb hby at_203) rfl ((if0 _ _).trans (feq (by decide : ¬ ((1 : Int32) = (0 : Int32)))).2) (by decide) (by decide) ?_
              show Steps p.tables e below (T189.setTop (mkF m 208 #[.val (.long q0), .second, .val (.long q1), .second, .val (.long q2), .second, .val (.int p3), .val (.int m3), .val (.long k0), .second, .val (.long k1), .second, .val (.long k2), .second, .val (.ref b132), .val (.ref b181), .val (.int (1 : Int32))] [])) _
              refine XS.iload X189.here hx rfl (hb hby at_208) rfl ?_
              show Steps p.tables e below (T189.setTop (mkF m 210 #[.val (.long q0), .second, .val (.long q1), .second, .val (.long q2), .second, .val (.int p3), .val (.int m3), .val (.long k0), .second, .val (.long k1), .second, .val (.long k2), .second, .val (.ref b132), .val (.ref b181), .val (.int (1 : Int32))] [(.int m3)])) _
              refine XS.iconst X189.here hx rfl (hb hby at_210) ?_
              show Steps p.tables e below (T189.setTop (mkF m 211 #[.val (.long q0), .second, .val (.long q1), .second, .val (.long q2), .second, .val (.int p3), .val (.int m3), .val (.long k0), .second, .val (.long k1), .second, .val (.long k2), .second, .val (.ref b132), .val (.ref b181), .val (.int (1 : Int32))] [(.int (1 : Int32)), (.int m3)])) _
              refine XS.icmpNo X189.here hx rfl (hb hby at_211) rfl (tlt b1).2.2.2 ?_
              show Steps p.tables e below (T189.setTop (mkF m 214 #[.val (.long q0), .second, .val (.long q1), .second, .val (.long q2), .second, .val (.int p3), .val (.int m3), .val (.long k0), .second, .val (.long k1), .second, .val (.long k2), .second, .val (.ref b132), .val (.ref b181), .val (.int (1 : Int32))] [])) _
              refine XS.aload X189.here hx rfl (hb hby at_214) rfl rfl ?_
              show Steps p.tables e below (T189.setTop (mkF m 216 #[.val (.long q0), .second, .val (.long q1), .second, .val (.long q2), .second, .val (.int p3), .val (.int m3), .val (.long k0), .second, .val (.long k1), .second, .val (.long k2), .second, .val (.ref b132), .val (.ref b181), .val (.int (1 : Int32))] [(.ref b181)])) _
              refine XS.lload X189.here hx rfl (hb hby at_216) rfl ?_
              show Steps p.tables e below (T189.setTop (mkF m 218 #[.val (.long q0), .second, .val (.long q1), .second, .val (.long q2), .second, .val (.int p3), .val (.int m3), .val (.long k0), .second, .val (.long k1), .second, .val (.long k2), .second, .val (.ref b132), .val (.ref b181), .val (.int (1 : Int32))] [(.long k1), (.ref b181)])) _
              exact k_
            obtain ⟨vv190, _, ⟨T190, L190, k190, n190⟩, -, X190, ⟨Lc190, hQ190, l190, y190, z190⟩, st190⟩ := Jvm.LawKit.callS X189 hx (y := (⟨"com/example/prudent_annotator/prudentannotator/profile/PairCountsKeysPinLaw", "has", "([JJ)Z"⟩ : MethodName)) hown (mvT hZ (hw _ (List.mem_of_getElem? (i := 52) rfl))) (mvT hZ (hw _ (List.mem_of_getElem? (i := 53) rfl))) (mvT hZ (hw _ (List.mem_of_getElem? (i := 2) rfl))) (mvT hZ (hw _ (List.mem_of_getElem? (i := 54) rfl))) (by decide) (backOf (W := 0) (rm10 l Z a0 hw [] b181 k1 kb181 (own_kl f140x 1024) T181.heap n0 Z181 Vx hin1 (by rw [hlen]; omega)) hZ (hw _ (List.mem_of_getElem? (i := 54) rfl)) (hw _ (List.mem_of_getElem? (i := 2) rfl)) (by decide) (by decide)) (g := (mkF m 218 #[.val (.long q0), .second, .val (.long q1), .second, .val (.long q2), .second, .val (.int p3), .val (.int m3), .val (.long k0), .second, .val (.long k1), .second, .val (.long k2), .second, .val (.ref b132), .val (.ref b181), .val (.int (1 : Int32))] [(.long k1), (.ref b181)])) rfl (by rw [hml]; rfl) (argsL := [(.ref b181), (.long k1)]) (rest := []) (lenOf pd__28__5b_JJ_29_Z rfl) rfl (by show 2 * 0 + _ ≤ _; exact Nat.le_of_eq rfl) (hb hby at_218) (fun _ _ => ⟨rfl, e189q, (by decide : 4 + 0 ≤ _), (by decide : 2054 + 0 ≤ _)⟩)
            dsimp only [Pt.U, Pt.locs, Pt.cells, Pt.slots] at X190 l190 y190 z190 st190 hQ190
            subst l190 y190 z190
            obtain ⟨rfl, N190q, e190q⟩ := hQ190
            have N190 := Fr.app N189 N190q
            refine own_go (B := T190.setTop (mkF m 221 #[.val (.long q0), .second, .val (.long q1), .second, .val (.long q2), .second, .val (.int p3), .val (.int m3), .val (.long k0), .second, .val (.long k1), .second, .val (.long k2), .second, .val (.ref b132), .val (.ref b181), .val (.int (1 : Int32))] [(.int (1 : Int32))])) (fun t_ k_ => st190 _ k_) ?_
            refine own_go (B := T190.setTop (mkF m 245 #[.val (.long q0), .second, .val (.long q1), .second, .val (.long q2), .second, .val (.int p3), .val (.int m3), .val (.long k0), .second, .val (.long k1), .second, .val (.long k2), .second, .val (.ref b132), .val (.ref b181), .val (.int (1 : Int32))] [(.int (1 : Int32))])) (fun t_ k_ => ?_) ?_
            · show Steps p.tables e below (T190.setTop (mkF m 221 #[.val (.long q0), .second, .val (.long q1), .second, .val (.long q2), .second, .val (.int p3), .val (.int m3), .val (.long k0), .second, .val (.long k1), .second, .val (.long k2), .second, .val (.ref b132), .val (.ref b181), .val (.int (1 : Int32))] [(.int (1 : Int32))])) _
              refine XS.ifYes X190.here hx rfl (pc0 := 221) (pc' := 226) rfl (hb hby at_221) rfl ((if0 _ _).trans (feq (by decide : ¬ ((1 : Int32) = (0 : Int32)))).2) (by decide) (by decide) ?_
              show Steps p.tables e below (T190.setTop (mkF m 226 #[.val (.long q0), .second, .val (.long q1), .second, .val (.long q2), .second, .val (.int p3), .val (.int m3), .val (.long k0), .second, .val (.long k1), .second, .val (.long k2), .second, .val (.ref b132), .val (.ref b181), .val (.int (1 : Int32))] [])) _
              refine XS.iload X190.here hx rfl (hb hby at_226) rfl ?_
              show Steps p.tables e below (T190.setTop (mkF m 228 #[.val (.long q0), .second, .val (.long q1), .second, .val (.long q2), .second, .val (.int p3), .val (.int m3), .val (.long k0), .second, .val (.long k1), .second, .val (.long k2), .second, .val (.ref b132), .val (.ref b181), .val (.int (1 : Int32))] [(.int m3)])) _
              refine XS.iconst X190.here hx rfl (hb hby at_228) ?_
              show Steps p.tables e below (T190.setTop (mkF m 229 #[.val (.long q0), .second, .val (.long q1), .second, .val (.long q2), .second, .val (.int p3), .val (.int m3), .val (.long k0), .second, .val (.long k1), .second, .val (.long k2), .second, .val (.ref b132), .val (.ref b181), .val (.int (1 : Int32))] [(.int (2 : Int32)), (.int m3)])) _
              refine XS.icmpYes X190.here hx rfl (pc0 := 229) (pc' := 244) rfl (hb hby at_229) rfl (flt b2).2.2.2 (by decide) (by decide) ?_
              show Steps p.tables e below (T190.setTop (mkF m 244 #[.val (.long q0), .second, .val (.long q1), .second, .val (.long q2), .second, .val (.int p3), .val (.int m3), .val (.long k0), .second, .val (.long k1), .second, .val (.long k2), .second, .val (.ref b132), .val (.ref b181), .val (.int (1 : Int32))] [])) _
              refine XS.iconst X190.here hx rfl (hb hby at_244) ?_
              show Steps p.tables e below (T190.setTop (mkF m 245 #[.val (.long q0), .second, .val (.long q1), .second, .val (.long q2), .second, .val (.int p3), .val (.int m3), .val (.long k0), .second, .val (.long k1), .second, .val (.long k2), .second, .val (.ref b132), .val (.ref b181), .val (.int (1 : Int32))] [(.int (1 : Int32))])) _
              exact k_
            obtain ⟨fs, hr, hrun, hended, hW, hsame⟩ := X190.leave (v := some (.int (1 : Int32))) (fun h => by rw [Bd.returns] at h; cases h)
            refine own_at ?_ (hG _ _ ⟨hrun, hended, _, _, rfl, ?_, ⟨_, rfl⟩, hW, hsame.mono (by decide) (by decide)⟩)
            · show Steps p.tables e below (T190.setTop (mkF m 245 #[.val (.long q0), .second, .val (.long q1), .second, .val (.long q2), .second, .val (.int p3), .val (.int m3), .val (.long k0), .second, .val (.long k1), .second, .val (.long k2), .second, .val (.ref b132), .val (.ref b181), .val (.int (1 : Int32))] [(.int (1 : Int32))])) _
              exact retN X190 hx (t := .boolean) Bd.returns (by simp) (hb hby at_245) hr
            · show Q0 Z q0 q1 q2 p3 h0 n0 _ T190.heap _
              rw [e190q]
              exact ⟨rfl, N190⟩
          · refine own_go (B := T181.setTop (mkF m 183 #[.val (.long q0), .second, .val (.long q1), .second, .val (.long q2), .second, .val (.int p3), .val (.int m3), .val (.long k0), .second, .val (.long k1), .second, .val (.long k2), .second, .val (.ref b132), .val (.ref b181), .val (.int ((1 : Int32) + (1 : Int32)))] [(.ref b181)])) (fun t_ k_ => ?_) ?_
            · show Steps p.tables e below (T181.setTop (mkF m 139 #[.val (.long q0), .second, .val (.long q1), .second, .val (.long q2), .second, .val (.int p3), .val (.int m3), .val (.long k0), .second, .val (.long k1), .second, .val (.long k2), .second, .val (.ref b132), .val (.ref b181), .val (.int (1 : Int32))] [(.int (lcmpW k1 k0))])) _
              refine XS.ifNo X181.here hx rfl (hb hby at_139) rfl ((if0 _ _).trans (feq (mt (lw_eq _ _).mp d10)).1) ?_
              show Steps p.tables e below (T181.setTop (mkF m 142 #[.val (.long q0), .second, .val (.long q1), .second, .val (.long q2), .second, .val (.int p3), .val (.int m3), .val (.long k0), .second, .val (.long k1), .second, .val (.long k2), .second, .val (.ref b132), .val (.ref b181), .val (.int (1 : Int32))] [])) _
              refine XS.iload X181.here hx rfl (hb hby at_142) rfl ?_
              show Steps p.tables e below (T181.setTop (mkF m 144 #[.val (.long q0), .second, .val (.long q1), .second, .val (.long q2), .second, .val (.int p3), .val (.int m3), .val (.long k0), .second, .val (.long k1), .second, .val (.long k2), .second, .val (.ref b132), .val (.ref b181), .val (.int (1 : Int32))] [(.int (1 : Int32))])) _
              refine XS.iconst X181.here hx rfl (hb hby at_144) ?_
              show Steps p.tables e below (T181.setTop (mkF m 145 #[.val (.long q0), .second, .val (.long q1), .second, .val (.long q2), .second, .val (.int p3), .val (.int m3), .val (.long k0), .second, .val (.long k1), .second, .val (.long k2), .second, .val (.ref b132), .val (.ref b181), .val (.int (1 : Int32))] [(.int (1 : Int32)), (.int (1 : Int32))])) _
              refine XS.iadd X181.here hx rfl (hb hby at_145) rfl ?_
              show Steps p.tables e below (T181.setTop (mkF m 146 #[.val (.long q0), .second, .val (.long q1), .second, .val (.long q2), .second, .val (.int p3), .val (.int m3), .val (.long k0), .second, .val (.long k1), .second, .val (.long k2), .second, .val (.ref b132), .val (.ref b181), .val (.int (1 : Int32))] [(.int ((1 : Int32) + (1 : Int32)))])) _
              refine XS.istore X181.here hx rfl (hb hby at_146) rfl (l' := #[.val (.long q0), .second, .val (.long q1), .second, .val (.long q2), .second, .val (.int p3), .val (.int m3), .val (.long k0), .second, .val (.long k1), .second, .val (.long k2), .second, .val (.ref b132), .val (.ref b181), .val (.int ((1 : Int32) + (1 : Int32)))]) rfl ?_
              show Steps p.tables e below (T181.setTop (mkF m 148 #[.val (.long q0), .second, .val (.long q1), .second, .val (.long q2), .second, .val (.int p3), .val (.int m3), .val (.long k0), .second, .val (.long k1), .second, .val (.long k2), .second, .val (.ref b132), .val (.ref b181), .val (.int ((1 : Int32) + (1 : Int32)))] [])) _
              refine XS.iload X181.here hx rfl (hb hby at_148) rfl ?_
              show Steps p.tables e below (T181.setTop (mkF m 150 #[.val (.long q0), .second, .val (.long q1), .second, .val (.long q2), .second, .val (.int p3), .val (.int m3), .val (.long k0), .second, .val (.long k1), .second, .val (.long k2), .second, .val (.ref b132), .val (.ref b181), .val (.int ((1 : Int32) + (1 : Int32)))] [(.int m3)])) _
              refine XS.iconst X181.here hx rfl (hb hby at_150) ?_
              show Steps p.tables e below (T181.setTop (mkF m 151 #[.val (.long q0), .second, .val (.long q1), .second, .val (.long q2), .second, .val (.int p3), .val (.int m3), .val (.long k0), .second, .val (.long k1), .second, .val (.long k2), .second, .val (.ref b132), .val (.ref b181), .val (.int ((1 : Int32) + (1 : Int32)))] [(.int (2 : Int32)), (.int m3)])) _
              refine XS.icmpYes X181.here hx rfl (pc0 := 151) (pc' := 176) rfl (hb hby at_151) rfl (flt b2).2.2.2 (by decide) (by decide) ?_
              show Steps p.tables e below (T181.setTop (mkF m 176 #[.val (.long q0), .second, .val (.long q1), .second, .val (.long q2), .second, .val (.int p3), .val (.int m3), .val (.long k0), .second, .val (.long k1), .second, .val (.long k2), .second, .val (.ref b132), .val (.ref b181), .val (.int ((1 : Int32) + (1 : Int32)))] [])) _
              refine XS.aload X181.here hx rfl (hb hby at_176) rfl rfl ?_
              show Steps p.tables e below (T181.setTop (mkF m 178 #[.val (.long q0), .second, .val (.long q1), .second, .val (.long q2), .second, .val (.int p3), .val (.int m3), .val (.long k0), .second, .val (.long k1), .second, .val (.long k2), .second, .val (.ref b132), .val (.ref b181), .val (.int ((1 : Int32) + (1 : Int32)))] [(.ref b181)])) _
              refine XS.ifnullNo X181.here hx rfl (hb hby at_178) rfl ?_
              show Steps p.tables e below (T181.setTop (mkF m 181 #[.val (.long q0), .second, .val (.long q1), .second, .val (.long q2), .second, .val (.int p3), .val (.int m3), .val (.long k0), .second, .val (.long k1), .second, .val (.long k2), .second, .val (.ref b132), .val (.ref b181), .val (.int ((1 : Int32) + (1 : Int32)))] [])) _
              refine XS.aload X181.here hx rfl (hb hby at_181) rfl rfl ?_
              show Steps p.tables e below (T181.setTop (mkF m 183 #[.val (.long q0), .second, .val (.long q1), .second, .val (.long q2), .second, .val (.int p3), .val (.int m3), .val (.long k0), .second, .val (.long k1), .second, .val (.long k2), .second, .val (.ref b132), .val (.ref b181), .val (.int ((1 : Int32) + (1 : Int32)))] [(.ref b181)])) _
              exact k_
            obtain ⟨cl192, Ar192, -, S192, M192, -, -⟩ := id u181
            refine own_go (B := T181.setTop (mkF m 184 #[.val (.long q0), .second, .val (.long q1), .second, .val (.long q2), .second, .val (.int p3), .val (.int m3), .val (.long k0), .second, .val (.long k1), .second, .val (.long k2), .second, .val (.ref b132), .val (.ref b181), .val (.int ((1 : Int32) + (1 : Int32)))] [(.int (Int32.ofNat n140x))])) (fun t_ k_ => ?_) ?_
            · refine X181.arraylength hx Ar192.1 (State.isArrayOf_alike hZ.alike Ar192.2.1) (g := (mkF m 183 #[.val (.long q0), .second, .val (.long q1), .second, .val (.long q2), .second, .val (.int p3), .val (.int m3), .val (.long k0), .second, .val (.long k1), .second, .val (.long k2), .second, .val (.ref b132), .val (.ref b181), .val (.int ((1 : Int32) + (1 : Int32)))] [(.ref b181)])) rfl rfl (hb hby at_183) _ ?_
              rw [len_of S192 M192]
              exact k_
            refine own_go (B := T181.setTop (mkF m 191 #[.val (.long q0), .second, .val (.long q1), .second, .val (.long q2), .second, .val (.int p3), .val (.int m3), .val (.long k0), .second, .val (.long k1), .second, .val (.long k2), .second, .val (.ref b132), .val (.ref b181), .val (.int ((1 : Int32) + (1 : Int32)))] [])) (fun t_ k_ => ?_) ?_
            · show Steps p.tables e below (T181.setTop (mkF m 184 #[.val (.long q0), .second, .val (.long q1), .second, .val (.long q2), .second, .val (.int p3), .val (.int m3), .val (.long k0), .second, .val (.long k1), .second, .val (.long k2), .second, .val (.ref b132), .val (.ref b181), .val (.int ((1 : Int32) + (1 : Int32)))] [(.int (Int32.ofNat n140x))])) _
              refine XS.iload X181.here hx rfl (hb hby at_184) rfl ?_
              show Steps p.tables e below (T181.setTop (mkF m 186 #[.val (.long q0), .second, .val (.long q1), .second, .val (.long q2), .second, .val (.int p3), .val (.int m3), .val (.long k0), .second, .val (.long k1), .second, .val (.long k2), .second, .val (.ref b132), .val (.ref b181), .val (.int ((1 : Int32) + (1 : Int32)))] [(.int ((1 : Int32) + (1 : Int32))), (.int (Int32.ofNat n140x))])) _
              refine XS.icmpYes X181.here hx rfl (pc0 := 186) (pc' := 191) rfl (hb hby at_186) rfl (teq (by have e2 : n140x = 2 := (by have := new140 (fun q => d10 (on_1 k1 hk1 q)); omega); rw [e2]; rfl)).1 (by decide) (by decide) ?_
              show Steps p.tables e below (T181.setTop (mkF m 191 #[.val (.long q0), .second, .val (.long q1), .second, .val (.long q2), .second, .val (.int p3), .val (.int m3), .val (.long k0), .second, .val (.long k1), .second, .val (.long k2), .second, .val (.ref b132), .val (.ref b181), .val (.int ((1 : Int32) + (1 : Int32)))] [])) _
              exact k_
            have hlen : (own_kl f140x 1024).length = n140x := ok140.2
            have Vx : Arv Z T181.heap b181 kb181 .long (Int32.ofNat (own_kl f140x 1024).length) ((own_kl f140x 1024).map Value.long) (.long (0 : Int64)) := by rw [hlen]; exact u181
            have hin0 : k0 ∈ own_kl f140x 1024 := own_kl_mem.mpr ⟨hk0, me0_2⟩
            have hin1 : k1 ∈ own_kl f140x 1024 := own_kl_mem.mpr ⟨hk1, me1_2⟩
            refine own_go (B := T181.setTop (mkF m 200 #[.val (.long q0), .second, .val (.long q1), .second, .val (.long q2), .second, .val (.int p3), .val (.int m3), .val (.long k0), .second, .val (.long k1), .second, .val (.long k2), .second, .val (.ref b132), .val (.ref b181), .val (.int ((1 : Int32) + (1 : Int32)))] [(.long k0), (.ref b181)])) (fun t_ k_ => ?_) ?_
            · show Steps p.tables e below (T181.setTop (mkF m 191 #[.val (.long q0), .second, .val (.long q1), .second, .val (.long q2), .second, .val (.int p3), .val (.int m3), .val (.long k0), .second, .val (.long k1), .second, .val (.long k2), .second, .val (.ref b132), .val (.ref b181), .val (.int ((1 : Int32) + (1 : Int32)))] [])) _
              refine XS.iload X181.here hx rfl (hb hby at_191) rfl ?_
              show Steps p.tables e below (T181.setTop (mkF m 193 #[.val (.long q0), .second, .val (.long q1), .second, .val (.long q2), .second, .val (.int p3), .val (.int m3), .val (.long k0), .second, .val (.long k1), .second, .val (.long k2), .second, .val (.ref b132), .val (.ref b181), .val (.int ((1 : Int32) + (1 : Int32)))] [(.int m3)])) _
              refine XS.ifNo X181.here hx rfl (hb hby at_193) rfl ((if0 _ _).trans (tlt b0).2.2.2) ?_
              show Steps p.tables e below (T181.setTop (mkF m 196 #[.val (.long q0), .second, .val (.long q1), .second, .val (.long q2), .second, .val (.int p3), .val (.int m3), .val (.long k0), .second, .val (.long k1), .second, .val (.long k2), .second, .val (.ref b132), .val (.ref b181), .val (.int ((1 : Int32) + (1 : Int32)))] [])) _
              refine XS.aload X181.here hx rfl (hb hby at_196) rfl rfl ?_
              show Steps p.tables e below (T181.setTop (mkF m 198 #[.val (.long q0), .second, .val (.long q1), .second, .val (.long q2), .second, .val (.int p3), .val (.int m3), .val (.long k0), .second, .val (.long k1), .second, .val (.long k2), .second, .val (.ref b132), .val (.ref b181), .val (.int ((1 : Int32) + (1 : Int32)))] [(.ref b181)])) _
              refine XS.lload X181.here hx rfl (hb hby at_198) rfl ?_
              show Steps p.tables e below (T181.setTop (mkF m 200 #[.val (.long q0), .second, .val (.long q1), .second, .val (.long q2), .second, .val (.int p3), .val (.int m3), .val (.long k0), .second, .val (.long k1), .second, .val (.long k2), .second, .val (.ref b132), .val (.ref b181), .val (.int ((1 : Int32) + (1 : Int32)))] [(.long k0), (.ref b181)])) _
              exact k_
            obtain ⟨vv193, _, ⟨T193, L193, k193, n193⟩, -, X193, ⟨Lc193, hQ193, l193, y193, z193⟩, st193⟩ := Jvm.LawKit.callS X181 hx (y := (⟨"com/example/prudent_annotator/prudentannotator/profile/PairCountsKeysPinLaw", "has", "([JJ)Z"⟩ : MethodName)) hown (mvT hZ (hw _ (List.mem_of_getElem? (i := 52) rfl))) (mvT hZ (hw _ (List.mem_of_getElem? (i := 53) rfl))) (mvT hZ (hw _ (List.mem_of_getElem? (i := 2) rfl))) (mvT hZ (hw _ (List.mem_of_getElem? (i := 54) rfl))) (by decide) (backOf (W := 0) (rm10 l Z a0 hw [] b181 k0 kb181 (own_kl f140x 1024) T181.heap n0 Z181 Vx hin0 (by rw [hlen]; omega)) hZ (hw _ (List.mem_of_getElem? (i := 54) rfl)) (hw _ (List.mem_of_getElem? (i := 2) rfl)) (by decide) (by decide)) (g := (mkF m 200 #[.val (.long q0), .second, .val (.long q1), .second, .val (.long q2), .second, .val (.int p3), .val (.int m3), .val (.long k0), .second, .val (.long k1), .second, .val (.long k2), .second, .val (.ref b132), .val (.ref b181), .val (.int ((1 : Int32) + (1 : Int32)))] [(.long k0), (.ref b181)])) rfl (by rw [hml]; rfl) (argsL := [(.ref b181), (.long k0)]) (rest := []) (lenOf pd__28__5b_JJ_29_Z rfl) rfl (by show 2 * 0 + _ ≤ _; exact Nat.le_of_eq rfl) (hb hby at_200) (fun _ _ => ⟨rfl, rfl, (by decide : 4 + 0 ≤ _), (by decide : 2054 + 0 ≤ _)⟩)
            dsimp only [Pt.U, Pt.locs, Pt.cells, Pt.slots] at X193 l193 y193 z193 st193 hQ193
            subst l193 y193 z193
            obtain ⟨rfl, N193q, e193q⟩ := hQ193
            have N193 := Fr.app N181 N193q
            refine own_go (B := T193.setTop (mkF m 203 #[.val (.long q0), .second, .val (.long q1), .second, .val (.long q2), .second, .val (.int p3), .val (.int m3), .val (.long k0), .second, .val (.long k1), .second, .val (.long k2), .second, .val (.ref b132), .val (.ref b181), .val (.int ((1 : Int32) + (1 : Int32)))] [(.int (1 : Int32))])) (fun t_ k_ => st193 _ k_) ?_
            refine own_go (B := T193.setTop (mkF m 218 #[.val (.long q0), .second, .val (.long q1), .second, .val (.long q2), .second, .val (.int p3), .val (.int m3), .val (.long k0), .second, .val (.long k1), .second, .val (.long k2), .second, .val (.ref b132), .val (.ref b181), .val (.int ((1 : Int32) + (1 : Int32)))] [(.long k1), (.ref b181)])) (fun t_ k_ => ?_) ?_
            · show Steps p.tables e below (T193.setTop (mkF m 203 #[.val (.long q0), .second, .val (.long q1), .second, .val (.long q2), .second, .val (.int p3), .val (.int m3), .val (.long k0), .second, .val (.long k1), .second, .val (.long k2), .second, .val (.ref b132), .val (.ref b181), .val (.int ((1 : Int32) + (1 : Int32)))] [(.int (1 : Int32))])) _
              refine XS.ifYes X193.here hx rfl (pc0 := 203) (pc' := 208) rfl (hb hby at_203) rfl ((if0 _ _).trans (feq (by decide : ¬ ((1 : Int32) = (0 : Int32)))).2) (by decide) (by decide) ?_
              show Steps p.tables e below (T193.setTop (mkF m 208 #[.val (.long q0), .second, .val (.long q1), .second, .val (.long q2), .second, .val (.int p3), .val (.int m3), .val (.long k0), .second, .val (.long k1), .second, .val (.long k2), .second, .val (.ref b132), .val (.ref b181), .val (.int ((1 : Int32) + (1 : Int32)))] [])) _
              refine XS.iload X193.here hx rfl (hb hby at_208) rfl ?_
              show Steps p.tables e below (T193.setTop (mkF m 210 #[.val (.long q0), .second, .val (.long q1), .second, .val (.long q2), .second, .val (.int p3), .val (.int m3), .val (.long k0), .second, .val (.long k1), .second, .val (.long k2), .second, .val (.ref b132), .val (.ref b181), .val (.int ((1 : Int32) + (1 : Int32)))] [(.int m3)])) _
              refine XS.iconst X193.here hx rfl (hb hby at_210) ?_
              show Steps p.tables e below (T193.setTop (mkF m 211 #[.val (.long q0), .second, .val (.long q1), .second, .val (.long q2), .second, .val (.int p3), .val (.int m3), .val (.long k0), .second, .val (.long k1), .second, .val (.long k2), .second, .val (.ref b132), .val (.ref b181), .val (.int ((1 : Int32) + (1 : Int32)))] [(.int (1 : Int32)), (.int m3)])) _
              refine XS.icmpNo X193.here hx rfl (hb hby at_211) rfl (tlt b1).2.2.2 ?_
              show Steps p.tables e below (T193.setTop (mkF m 214 #[.val (.long q0), .second, .val (.long q1), .second, .val (.long q2), .second, .val (.int p3), .val (.int m3), .val (.long k0), .second, .val (.long k1), .second, .val (.long k2), .second, .val (.ref b132), .val (.ref b181), .val (.int ((1 : Int32) + (1 : Int32)))] [])) _
              refine XS.aload X193.here hx rfl (hb hby at_214) rfl rfl ?_
              show Steps p.tables e below (T193.setTop (mkF m 216 #[.val (.long q0), .second, .val (.long q1), .second, .val (.long q2), .second, .val (.int p3), .val (.int m3), .val (.long k0), .second, .val (.long k1), .second, .val (.long k2), .second, .val (.ref b132), .val (.ref b181), .val (.int ((1 : Int32) + (1 : Int32)))] [(.ref b181)])) _
              refine XS.lload X193.here hx rfl (hb hby at_216) rfl ?_
              show Steps p.tables e below (T193.setTop (mkF m 218 #[.val (.long q0), .second, .val (.long q1), .second, .val (.long q2), .second, .val (.int p3), .val (.int m3), .val (.long k0), .second, .val (.long k1), .second, .val (.long k2), .second, .val (.ref b132), .val (.ref b181), .val (.int ((1 : Int32) + (1 : Int32)))] [(.long k1), (.ref b181)])) _
              exact k_
            obtain ⟨vv194, _, ⟨T194, L194, k194, n194⟩, -, X194, ⟨Lc194, hQ194, l194, y194, z194⟩, st194⟩ := Jvm.LawKit.callS X193 hx (y := (⟨"com/example/prudent_annotator/prudentannotator/profile/PairCountsKeysPinLaw", "has", "([JJ)Z"⟩ : MethodName)) hown (mvT hZ (hw _ (List.mem_of_getElem? (i := 52) rfl))) (mvT hZ (hw _ (List.mem_of_getElem? (i := 53) rfl))) (mvT hZ (hw _ (List.mem_of_getElem? (i := 2) rfl))) (mvT hZ (hw _ (List.mem_of_getElem? (i := 54) rfl))) (by decide) (backOf (W := 0) (rm10 l Z a0 hw [] b181 k1 kb181 (own_kl f140x 1024) T181.heap n0 Z181 Vx hin1 (by rw [hlen]; omega)) hZ (hw _ (List.mem_of_getElem? (i := 54) rfl)) (hw _ (List.mem_of_getElem? (i := 2) rfl)) (by decide) (by decide)) (g := (mkF m 218 #[.val (.long q0), .second, .val (.long q1), .second, .val (.long q2), .second, .val (.int p3), .val (.int m3), .val (.long k0), .second, .val (.long k1), .second, .val (.long k2), .second, .val (.ref b132), .val (.ref b181), .val (.int ((1 : Int32) + (1 : Int32)))] [(.long k1), (.ref b181)])) rfl (by rw [hml]; rfl) (argsL := [(.ref b181), (.long k1)]) (rest := []) (lenOf pd__28__5b_JJ_29_Z rfl) rfl (by show 2 * 0 + _ ≤ _; exact Nat.le_of_eq rfl) (hb hby at_218) (fun _ _ => ⟨rfl, e193q, (by decide : 4 + 0 ≤ _), (by decide : 2054 + 0 ≤ _)⟩)
            dsimp only [Pt.U, Pt.locs, Pt.cells, Pt.slots] at X194 l194 y194 z194 st194 hQ194
            subst l194 y194 z194
            obtain ⟨rfl, N194q, e194q⟩ := hQ194
            have N194 := Fr.app N193 N194q
            refine own_go (B := T194.setTop (mkF m 221 #[.val (.long q0), .second, .val (.long q1), .second, .val (.long q2), .second, .val (.int p3), .val (.int m3), .val (.long k0), .second, .val (.long k1), .second, .val (.long k2), .second, .val (.ref b132), .val (.ref b181), .val (.int ((1 : Int32) + (1 : Int32)))] [(.int (1 : Int32))])) (fun t_ k_ => st194 _ k_) ?_
            refine own_go (B := T194.setTop (mkF m 245 #[.val (.long q0), .second, .val (.long q1), .second, .val (.long q2), .second, .val (.int p3), .val (.int m3), .val (.long k0), .second, .val (.long k1), .second, .val (.long k2), .second, .val (.ref b132), .val (.ref b181), .val (.int ((1 : Int32) + (1 : Int32)))] [(.int (1 : Int32))])) (fun t_ k_ => ?_) ?_
            · show Steps p.tables e below (T194.setTop (mkF m 221 #[.val (.long q0), .second, .val (.long q1), .second, .val (.long q2), .second, .val (.int p3), .val (.int m3), .val (.long k0), .second, .val (.long k1), .second, .val (.long k2), .second, .val (.ref b132), .val (.ref b181), .val (.int ((1 : Int32) + (1 : Int32)))] [(.int (1 : Int32))])) _
              refine XS.ifYes X194.here hx rfl (pc0 := 221) (pc' := 226) rfl (hb hby at_221) rfl ((if0 _ _).trans (feq (by decide : ¬ ((1 : Int32) = (0 : Int32)))).2) (by decide) (by decide) ?_
              show Steps p.tables e below (T194.setTop (mkF m 226 #[.val (.long q0), .second, .val (.long q1), .second, .val (.long q2), .second, .val (.int p3), .val (.int m3), .val (.long k0), .second, .val (.long k1), .second, .val (.long k2), .second, .val (.ref b132), .val (.ref b181), .val (.int ((1 : Int32) + (1 : Int32)))] [])) _
              refine XS.iload X194.here hx rfl (hb hby at_226) rfl ?_
              show Steps p.tables e below (T194.setTop (mkF m 228 #[.val (.long q0), .second, .val (.long q1), .second, .val (.long q2), .second, .val (.int p3), .val (.int m3), .val (.long k0), .second, .val (.long k1), .second, .val (.long k2), .second, .val (.ref b132), .val (.ref b181), .val (.int ((1 : Int32) + (1 : Int32)))] [(.int m3)])) _
              refine XS.iconst X194.here hx rfl (hb hby at_228) ?_
              show Steps p.tables e below (T194.setTop (mkF m 229 #[.val (.long q0), .second, .val (.long q1), .second, .val (.long q2), .second, .val (.int p3), .val (.int m3), .val (.long k0), .second, .val (.long k1), .second, .val (.long k2), .second, .val (.ref b132), .val (.ref b181), .val (.int ((1 : Int32) + (1 : Int32)))] [(.int (2 : Int32)), (.int m3)])) _
              refine XS.icmpYes X194.here hx rfl (pc0 := 229) (pc' := 244) rfl (hb hby at_229) rfl (flt b2).2.2.2 (by decide) (by decide) ?_
              show Steps p.tables e below (T194.setTop (mkF m 244 #[.val (.long q0), .second, .val (.long q1), .second, .val (.long q2), .second, .val (.int p3), .val (.int m3), .val (.long k0), .second, .val (.long k1), .second, .val (.long k2), .second, .val (.ref b132), .val (.ref b181), .val (.int ((1 : Int32) + (1 : Int32)))] [])) _
              refine XS.iconst X194.here hx rfl (hb hby at_244) ?_
              show Steps p.tables e below (T194.setTop (mkF m 245 #[.val (.long q0), .second, .val (.long q1), .second, .val (.long q2), .second, .val (.int p3), .val (.int m3), .val (.long k0), .second, .val (.long k1), .second, .val (.long k2), .second, .val (.ref b132), .val (.ref b181), .val (.int ((1 : Int32) + (1 : Int32)))] [(.int (1 : Int32))])) _
              exact k_
            obtain ⟨fs, hr, hrun, hended, hW, hsame⟩ := X194.leave (v := some (.int (1 : Int32))) (fun h => by rw [Bd.returns] at h; cases h)
            refine own_at ?_ (hG _ _ ⟨hrun, hended, _, _, rfl, ?_, ⟨_, rfl⟩, hW, hsame.mono (by decide) (by decide)⟩)
            · show Steps p.tables e below (T194.setTop (mkF m 245 #[.val (.long q0), .second, .val (.long q1), .second, .val (.long q2), .second, .val (.int p3), .val (.int m3), .val (.long k0), .second, .val (.long k1), .second, .val (.long k2), .second, .val (.ref b132), .val (.ref b181), .val (.int ((1 : Int32) + (1 : Int32)))] [(.int (1 : Int32))])) _
              exact retN X194 hx (t := .boolean) Bd.returns (by simp) (hb hby at_245) hr
            · show Q0 Z q0 q1 q2 p3 h0 n0 _ T194.heap _
              rw [e194q]
              exact ⟨rfl, N194⟩
      · refine own_go (B := T138.setTop (mkF m 112 #[.val (.long q0), .second, .val (.long q1), .second, .val (.long q2), .second, .val (.int p3), .val (.int m3), .val (.long k0), .second, .val (.long k1), .second, .val (.long k2), .second, .val (.ref b132), .unset, .unset] [(.ref b132)])) (fun t_ k_ => ?_) ?_
        · show Steps p.tables e below (T138.setTop (mkF m 87 #[.val (.long q0), .second, .val (.long q1), .second, .val (.long q2), .second, .val (.int p3), .val (.int m3), .val (.long k0), .second, .val (.long k1), .second, .val (.long k2), .second, .val (.ref b132), .unset, .unset] [(.int (1 : Int32)), (.int m3)])) _
          refine XS.icmpYes X138.here hx rfl (pc0 := 87) (pc' := 97) rfl (hb hby at_87) rfl (flt b1).2.2.2 (by decide) (by decide) ?_
          show Steps p.tables e below (T138.setTop (mkF m 97 #[.val (.long q0), .second, .val (.long q1), .second, .val (.long q2), .second, .val (.int p3), .val (.int m3), .val (.long k0), .second, .val (.long k1), .second, .val (.long k2), .second, .val (.ref b132), .unset, .unset] [])) _
          refine XS.iload X138.here hx rfl (hb hby at_97) rfl ?_
          show Steps p.tables e below (T138.setTop (mkF m 99 #[.val (.long q0), .second, .val (.long q1), .second, .val (.long q2), .second, .val (.int p3), .val (.int m3), .val (.long k0), .second, .val (.long k1), .second, .val (.long k2), .second, .val (.ref b132), .unset, .unset] [(.int m3)])) _
          refine XS.iconst X138.here hx rfl (hb hby at_99) ?_
          show Steps p.tables e below (T138.setTop (mkF m 100 #[.val (.long q0), .second, .val (.long q1), .second, .val (.long q2), .second, .val (.int p3), .val (.int m3), .val (.long k0), .second, .val (.long k1), .second, .val (.long k2), .second, .val (.ref b132), .unset, .unset] [(.int (2 : Int32)), (.int m3)])) _
          refine XS.icmpYes X138.here hx rfl (pc0 := 100) (pc' := 110) rfl (hb hby at_100) rfl (flt (own_l12 b1)).2.2.2 (by decide) (by decide) ?_
          show Steps p.tables e below (T138.setTop (mkF m 110 #[.val (.long q0), .second, .val (.long q1), .second, .val (.long q2), .second, .val (.int p3), .val (.int m3), .val (.long k0), .second, .val (.long k1), .second, .val (.long k2), .second, .val (.ref b132), .unset, .unset] [])) _
          refine XS.aload X138.here hx rfl (hb hby at_110) rfl rfl ?_
          show Steps p.tables e below (T138.setTop (mkF m 112 #[.val (.long q0), .second, .val (.long q1), .second, .val (.long q2), .second, .val (.int p3), .val (.int m3), .val (.long k0), .second, .val (.long k1), .second, .val (.long k2), .second, .val (.ref b132), .unset, .unset] [(.ref b132)])) _
          exact k_
        obtain ⟨cq196, kq196, q196a, q196b, q196c⟩ := isOf hZ rfl f139
        obtain ⟨vv196, _, ⟨T196, L196, k196, n196⟩, -, X196, ⟨Lc196, hQ196, l196, y196, z196⟩, st196⟩ := X138.virtualBack hx (y := (⟨"com/example/prudent_annotator/prudentannotator/profile/PairCounts", "keys", "()[J"⟩ : MethodName)) (z := (⟨"com/example/prudent_annotator/prudentannotator/profile/PairCounts", "keys", "()[J"⟩ : MethodName)) hown (mvT hZ (hw _ (List.mem_of_getElem? (i := 47) rfl))) (mvT hZ (hw _ (List.mem_of_getElem? (i := 48) rfl))) (notFace_of_selects (args := #[]) (mvT hZ (hw _ (List.mem_of_getElem? (i := 50) rfl)))) (mvT hZ (hw _ (List.mem_of_getElem? (i := 50) rfl))) (mvT hZ (hw _ (List.mem_of_getElem? (i := 49) rfl))) (by decide) (backOf (W := 0) (rm9 l Z a0 hw [] b132 bk136 f138x n138x T138.heap n0 Z138 u1138 u3138 u4138 ok138 (by omega)) hZ (hw _ (List.mem_of_getElem? (i := 51) rfl)) (hw _ (List.mem_of_getElem? (i := 7) rfl)) (by decide) (by decide)) q196a q196c (g := (mkF m 112 #[.val (.long q0), .second, .val (.long q1), .second, .val (.long q2), .second, .val (.int p3), .val (.int m3), .val (.long k0), .second, .val (.long k1), .second, .val (.long k2), .second, .val (.ref b132), .unset, .unset] [(.ref b132)])) rfl (by rw [hml]; rfl) (Steps.refl _) (argsL := []) (rest := []) (lenOf pd__28__29__5b_J rfl) rfl (by show 2 * 0 + _ ≤ _; exact Nat.le_of_eq rfl) (hb hby at_112) (fun _ _ => ⟨rfl, rfl, (by decide : 3 + 1 ≤ _), (by decide : 2051 + 3 ≤ _)⟩)
        dsimp only [Pt.U, Pt.locs, Pt.cells, Pt.slots] at X196 l196 y196 z196 st196 hQ196
        subst l196 y196 z196
        obtain ⟨b196, kb196, rfl, N196q, K196, u196⟩ := hQ196
        have N196 := Fr.app N138 N196q
        have f197 : Exa Z T196.heap b132 "com/example/prudent_annotator/prudentannotator/profile/PairCounts" := f139.keep K196
        have f198 : Fld Z T196.heap b132 "com/example/prudent_annotator/prudentannotator/profile/PairCounts" "keys" "[J" (.ref bk136) := u1138.keep K196 nin0
        have f199 : Fld Z T196.heap b132 "com/example/prudent_annotator/prudentannotator/profile/PairCounts" "counts" "[I" (.ref bc136) := u2138.keep K196 nin0
        have f200 : Fld Z T196.heap b132 "com/example/prudent_annotator/prudentannotator/profile/PairCounts" "size" "I" (.int (Int32.ofNat n138x)) := u3138.keep K196 nin0
        have f201 : own_LA Z T196.heap bk136 f138x := u4138.keep K196 nin0
        have f202 : own_IA Z T196.heap bc136 g138x := u5138.keep K196 nin0
        have Z196 : n0 ≤ T196.heap.size := Nat.le_trans Z138 K196.1
        refine own_go (B := T196.setTop (mkF m 115 #[.val (.long q0), .second, .val (.long q1), .second, .val (.long q2), .second, .val (.int p3), .val (.int m3), .val (.long k0), .second, .val (.long k1), .second, .val (.long k2), .second, .val (.ref b132), .unset, .unset] [(.ref b196)])) (fun t_ k_ => st196.trans k_) ?_
        refine own_go (B := T196.setTop (mkF m 183 #[.val (.long q0), .second, .val (.long q1), .second, .val (.long q2), .second, .val (.int p3), .val (.int m3), .val (.long k0), .second, .val (.long k1), .second, .val (.long k2), .second, .val (.ref b132), .val (.ref b196), .val (.int (1 : Int32))] [(.ref b196)])) (fun t_ k_ => ?_) ?_
        · show Steps p.tables e below (T196.setTop (mkF m 115 #[.val (.long q0), .second, .val (.long q1), .second, .val (.long q2), .second, .val (.int p3), .val (.int m3), .val (.long k0), .second, .val (.long k1), .second, .val (.long k2), .second, .val (.ref b132), .unset, .unset] [(.ref b196)])) _
          refine XS.astore X196.here hx rfl (hb hby at_115) rfl rfl (l' := #[.val (.long q0), .second, .val (.long q1), .second, .val (.long q2), .second, .val (.int p3), .val (.int m3), .val (.long k0), .second, .val (.long k1), .second, .val (.long k2), .second, .val (.ref b132), .val (.ref b196), .unset]) rfl ?_
          show Steps p.tables e below (T196.setTop (mkF m 117 #[.val (.long q0), .second, .val (.long q1), .second, .val (.long q2), .second, .val (.int p3), .val (.int m3), .val (.long k0), .second, .val (.long k1), .second, .val (.long k2), .second, .val (.ref b132), .val (.ref b196), .unset] [])) _
          refine XS.iconst X196.here hx rfl (hb hby at_117) ?_
          show Steps p.tables e below (T196.setTop (mkF m 118 #[.val (.long q0), .second, .val (.long q1), .second, .val (.long q2), .second, .val (.int p3), .val (.int m3), .val (.long k0), .second, .val (.long k1), .second, .val (.long k2), .second, .val (.ref b132), .val (.ref b196), .unset] [(.int (0 : Int32))])) _
          refine XS.istore X196.here hx rfl (hb hby at_118) rfl (l' := #[.val (.long q0), .second, .val (.long q1), .second, .val (.long q2), .second, .val (.int p3), .val (.int m3), .val (.long k0), .second, .val (.long k1), .second, .val (.long k2), .second, .val (.ref b132), .val (.ref b196), .val (.int (0 : Int32))]) rfl ?_
          show Steps p.tables e below (T196.setTop (mkF m 120 #[.val (.long q0), .second, .val (.long q1), .second, .val (.long q2), .second, .val (.int p3), .val (.int m3), .val (.long k0), .second, .val (.long k1), .second, .val (.long k2), .second, .val (.ref b132), .val (.ref b196), .val (.int (0 : Int32))] [])) _
          refine XS.iload X196.here hx rfl (hb hby at_120) rfl ?_
          show Steps p.tables e below (T196.setTop (mkF m 122 #[.val (.long q0), .second, .val (.long q1), .second, .val (.long q2), .second, .val (.int p3), .val (.int m3), .val (.long k0), .second, .val (.long k1), .second, .val (.long k2), .second, .val (.ref b132), .val (.ref b196), .val (.int (0 : Int32))] [(.int m3)])) _
          refine XS.ifNo X196.here hx rfl (hb hby at_122) rfl ((if0 _ _).trans (tlt b0).2.2.2) ?_
          show Steps p.tables e below (T196.setTop (mkF m 125 #[.val (.long q0), .second, .val (.long q1), .second, .val (.long q2), .second, .val (.int p3), .val (.int m3), .val (.long k0), .second, .val (.long k1), .second, .val (.long k2), .second, .val (.ref b132), .val (.ref b196), .val (.int (0 : Int32))] [])) _
          refine XS.iconst X196.here hx rfl (hb hby at_125) ?_
          show Steps p.tables e below (T196.setTop (mkF m 126 #[.val (.long q0), .second, .val (.long q1), .second, .val (.long q2), .second, .val (.int p3), .val (.int m3), .val (.long k0), .second, .val (.long k1), .second, .val (.long k2), .second, .val (.ref b132), .val (.ref b196), .val (.int (0 : Int32))] [(.int (1 : Int32))])) _
          refine XS.istore X196.here hx rfl (hb hby at_126) rfl (l' := #[.val (.long q0), .second, .val (.long q1), .second, .val (.long q2), .second, .val (.int p3), .val (.int m3), .val (.long k0), .second, .val (.long k1), .second, .val (.long k2), .second, .val (.ref b132), .val (.ref b196), .val (.int (1 : Int32))]) rfl ?_
          show Steps p.tables e below (T196.setTop (mkF m 128 #[.val (.long q0), .second, .val (.long q1), .second, .val (.long q2), .second, .val (.int p3), .val (.int m3), .val (.long k0), .second, .val (.long k1), .second, .val (.long k2), .second, .val (.ref b132), .val (.ref b196), .val (.int (1 : Int32))] [])) _
          refine XS.iload X196.here hx rfl (hb hby at_128) rfl ?_
          show Steps p.tables e below (T196.setTop (mkF m 130 #[.val (.long q0), .second, .val (.long q1), .second, .val (.long q2), .second, .val (.int p3), .val (.int m3), .val (.long k0), .second, .val (.long k1), .second, .val (.long k2), .second, .val (.ref b132), .val (.ref b196), .val (.int (1 : Int32))] [(.int m3)])) _
          refine XS.iconst X196.here hx rfl (hb hby at_130) ?_
          show Steps p.tables e below (T196.setTop (mkF m 131 #[.val (.long q0), .second, .val (.long q1), .second, .val (.long q2), .second, .val (.int p3), .val (.int m3), .val (.long k0), .second, .val (.long k1), .second, .val (.long k2), .second, .val (.ref b132), .val (.ref b196), .val (.int (1 : Int32))] [(.int (1 : Int32)), (.int m3)])) _
          refine XS.icmpYes X196.here hx rfl (pc0 := 131) (pc' := 148) rfl (hb hby at_131) rfl (flt b1).2.2.2 (by decide) (by decide) ?_
          show Steps p.tables e below (T196.setTop (mkF m 148 #[.val (.long q0), .second, .val (.long q1), .second, .val (.long q2), .second, .val (.int p3), .val (.int m3), .val (.long k0), .second, .val (.long k1), .second, .val (.long k2), .second, .val (.ref b132), .val (.ref b196), .val (.int (1 : Int32))] [])) _
          refine XS.iload X196.here hx rfl (hb hby at_148) rfl ?_
          show Steps p.tables e below (T196.setTop (mkF m 150 #[.val (.long q0), .second, .val (.long q1), .second, .val (.long q2), .second, .val (.int p3), .val (.int m3), .val (.long k0), .second, .val (.long k1), .second, .val (.long k2), .second, .val (.ref b132), .val (.ref b196), .val (.int (1 : Int32))] [(.int m3)])) _
          refine XS.iconst X196.here hx rfl (hb hby at_150) ?_
          show Steps p.tables e below (T196.setTop (mkF m 151 #[.val (.long q0), .second, .val (.long q1), .second, .val (.long q2), .second, .val (.int p3), .val (.int m3), .val (.long k0), .second, .val (.long k1), .second, .val (.long k2), .second, .val (.ref b132), .val (.ref b196), .val (.int (1 : Int32))] [(.int (2 : Int32)), (.int m3)])) _
          refine XS.icmpYes X196.here hx rfl (pc0 := 151) (pc' := 176) rfl (hb hby at_151) rfl (flt (own_l12 b1)).2.2.2 (by decide) (by decide) ?_
          show Steps p.tables e below (T196.setTop (mkF m 176 #[.val (.long q0), .second, .val (.long q1), .second, .val (.long q2), .second, .val (.int p3), .val (.int m3), .val (.long k0), .second, .val (.long k1), .second, .val (.long k2), .second, .val (.ref b132), .val (.ref b196), .val (.int (1 : Int32))] [])) _
          refine XS.aload X196.here hx rfl (hb hby at_176) rfl rfl ?_
          show Steps p.tables e below (T196.setTop (mkF m 178 #[.val (.long q0), .second, .val (.long q1), .second, .val (.long q2), .second, .val (.int p3), .val (.int m3), .val (.long k0), .second, .val (.long k1), .second, .val (.long k2), .second, .val (.ref b132), .val (.ref b196), .val (.int (1 : Int32))] [(.ref b196)])) _
          refine XS.ifnullNo X196.here hx rfl (hb hby at_178) rfl ?_
          show Steps p.tables e below (T196.setTop (mkF m 181 #[.val (.long q0), .second, .val (.long q1), .second, .val (.long q2), .second, .val (.int p3), .val (.int m3), .val (.long k0), .second, .val (.long k1), .second, .val (.long k2), .second, .val (.ref b132), .val (.ref b196), .val (.int (1 : Int32))] [])) _
          refine XS.aload X196.here hx rfl (hb hby at_181) rfl rfl ?_
          show Steps p.tables e below (T196.setTop (mkF m 183 #[.val (.long q0), .second, .val (.long q1), .second, .val (.long q2), .second, .val (.int p3), .val (.int m3), .val (.long k0), .second, .val (.long k1), .second, .val (.long k2), .second, .val (.ref b132), .val (.ref b196), .val (.int (1 : Int32))] [(.ref b196)])) _
          exact k_
        obtain ⟨cl203, Ar203, -, S203, M203, -, -⟩ := id u196
        refine own_go (B := T196.setTop (mkF m 184 #[.val (.long q0), .second, .val (.long q1), .second, .val (.long q2), .second, .val (.int p3), .val (.int m3), .val (.long k0), .second, .val (.long k1), .second, .val (.long k2), .second, .val (.ref b132), .val (.ref b196), .val (.int (1 : Int32))] [(.int (Int32.ofNat n138x))])) (fun t_ k_ => ?_) ?_
        · refine X196.arraylength hx Ar203.1 (State.isArrayOf_alike hZ.alike Ar203.2.1) (g := (mkF m 183 #[.val (.long q0), .second, .val (.long q1), .second, .val (.long q2), .second, .val (.int p3), .val (.int m3), .val (.long k0), .second, .val (.long k1), .second, .val (.long k2), .second, .val (.ref b132), .val (.ref b196), .val (.int (1 : Int32))] [(.ref b196)])) rfl rfl (hb hby at_183) _ ?_
          rw [len_of S203 M203]
          exact k_
        refine own_go (B := T196.setTop (mkF m 191 #[.val (.long q0), .second, .val (.long q1), .second, .val (.long q2), .second, .val (.int p3), .val (.int m3), .val (.long k0), .second, .val (.long k1), .second, .val (.long k2), .second, .val (.ref b132), .val (.ref b196), .val (.int (1 : Int32))] [])) (fun t_ k_ => ?_) ?_
        · show Steps p.tables e below (T196.setTop (mkF m 184 #[.val (.long q0), .second, .val (.long q1), .second, .val (.long q2), .second, .val (.int p3), .val (.int m3), .val (.long k0), .second, .val (.long k1), .second, .val (.long k2), .second, .val (.ref b132), .val (.ref b196), .val (.int (1 : Int32))] [(.int (Int32.ofNat n138x))])) _
          refine XS.iload X196.here hx rfl (hb hby at_184) rfl ?_
          show Steps p.tables e below (T196.setTop (mkF m 186 #[.val (.long q0), .second, .val (.long q1), .second, .val (.long q2), .second, .val (.int p3), .val (.int m3), .val (.long k0), .second, .val (.long k1), .second, .val (.long k2), .second, .val (.ref b132), .val (.ref b196), .val (.int (1 : Int32))] [(.int (1 : Int32)), (.int (Int32.ofNat n138x))])) _
          refine XS.icmpYes X196.here hx rfl (pc0 := 186) (pc' := 191) rfl (hb hby at_186) rfl (teq (by rw [hs1]; rfl)).1 (by decide) (by decide) ?_
          show Steps p.tables e below (T196.setTop (mkF m 191 #[.val (.long q0), .second, .val (.long q1), .second, .val (.long q2), .second, .val (.int p3), .val (.int m3), .val (.long k0), .second, .val (.long k1), .second, .val (.long k2), .second, .val (.ref b132), .val (.ref b196), .val (.int (1 : Int32))] [])) _
          exact k_
        have hlen : (own_kl f138x 1024).length = n138x := ok138.2
        have Vx : Arv Z T196.heap b196 kb196 .long (Int32.ofNat (own_kl f138x 1024).length) ((own_kl f138x 1024).map Value.long) (.long (0 : Int64)) := by rw [hlen]; exact u196
        have hin0 : k0 ∈ own_kl f138x 1024 := own_kl_mem.mpr ⟨hk0, me0_1⟩
        refine own_go (B := T196.setTop (mkF m 200 #[.val (.long q0), .second, .val (.long q1), .second, .val (.long q2), .second, .val (.int p3), .val (.int m3), .val (.long k0), .second, .val (.long k1), .second, .val (.long k2), .second, .val (.ref b132), .val (.ref b196), .val (.int (1 : Int32))] [(.long k0), (.ref b196)])) (fun t_ k_ => ?_) ?_
        · show Steps p.tables e below (T196.setTop (mkF m 191 #[.val (.long q0), .second, .val (.long q1), .second, .val (.long q2), .second, .val (.int p3), .val (.int m3), .val (.long k0), .second, .val (.long k1), .second, .val (.long k2), .second, .val (.ref b132), .val (.ref b196), .val (.int (1 : Int32))] [])) _
          refine XS.iload X196.here hx rfl (hb hby at_191) rfl ?_
          show Steps p.tables e below (T196.setTop (mkF m 193 #[.val (.long q0), .second, .val (.long q1), .second, .val (.long q2), .second, .val (.int p3), .val (.int m3), .val (.long k0), .second, .val (.long k1), .second, .val (.long k2), .second, .val (.ref b132), .val (.ref b196), .val (.int (1 : Int32))] [(.int m3)])) _
          refine XS.ifNo X196.here hx rfl (hb hby at_193) rfl ((if0 _ _).trans (tlt b0).2.2.2) ?_
          show Steps p.tables e below (T196.setTop (mkF m 196 #[.val (.long q0), .second, .val (.long q1), .second, .val (.long q2), .second, .val (.int p3), .val (.int m3), .val (.long k0), .second, .val (.long k1), .second, .val (.long k2), .second, .val (.ref b132), .val (.ref b196), .val (.int (1 : Int32))] [])) _
          refine XS.aload X196.here hx rfl (hb hby at_196) rfl rfl ?_
          show Steps p.tables e below (T196.setTop (mkF m 198 #[.val (.long q0), .second, .val (.long q1), .second, .val (.long q2), .second, .val (.int p3), .val (.int m3), .val (.long k0), .second, .val (.long k1), .second, .val (.long k2), .second, .val (.ref b132), .val (.ref b196), .val (.int (1 : Int32))] [(.ref b196)])) _
          refine XS.lload X196.here hx rfl (hb hby at_198) rfl ?_
          show Steps p.tables e below (T196.setTop (mkF m 200 #[.val (.long q0), .second, .val (.long q1), .second, .val (.long q2), .second, .val (.int p3), .val (.int m3), .val (.long k0), .second, .val (.long k1), .second, .val (.long k2), .second, .val (.ref b132), .val (.ref b196), .val (.int (1 : Int32))] [(.long k0), (.ref b196)])) _
          exact k_
        obtain ⟨vv204, _, ⟨T204, L204, k204, n204⟩, -, X204, ⟨Lc204, hQ204, l204, y204, z204⟩, st204⟩ := Jvm.LawKit.callS X196 hx (y := (⟨"com/example/prudent_annotator/prudentannotator/profile/PairCountsKeysPinLaw", "has", "([JJ)Z"⟩ : MethodName)) hown (mvT hZ (hw _ (List.mem_of_getElem? (i := 52) rfl))) (mvT hZ (hw _ (List.mem_of_getElem? (i := 53) rfl))) (mvT hZ (hw _ (List.mem_of_getElem? (i := 2) rfl))) (mvT hZ (hw _ (List.mem_of_getElem? (i := 54) rfl))) (by decide) (backOf (W := 0) (rm10 l Z a0 hw [] b196 k0 kb196 (own_kl f138x 1024) T196.heap n0 Z196 Vx hin0 (by rw [hlen]; omega)) hZ (hw _ (List.mem_of_getElem? (i := 54) rfl)) (hw _ (List.mem_of_getElem? (i := 2) rfl)) (by decide) (by decide)) (g := (mkF m 200 #[.val (.long q0), .second, .val (.long q1), .second, .val (.long q2), .second, .val (.int p3), .val (.int m3), .val (.long k0), .second, .val (.long k1), .second, .val (.long k2), .second, .val (.ref b132), .val (.ref b196), .val (.int (1 : Int32))] [(.long k0), (.ref b196)])) rfl (by rw [hml]; rfl) (argsL := [(.ref b196), (.long k0)]) (rest := []) (lenOf pd__28__5b_JJ_29_Z rfl) rfl (by show 2 * 0 + _ ≤ _; exact Nat.le_of_eq rfl) (hb hby at_200) (fun _ _ => ⟨rfl, rfl, (by decide : 4 + 0 ≤ _), (by decide : 2054 + 0 ≤ _)⟩)
        dsimp only [Pt.U, Pt.locs, Pt.cells, Pt.slots] at X204 l204 y204 z204 st204 hQ204
        subst l204 y204 z204
        obtain ⟨rfl, N204q, e204q⟩ := hQ204
        have N204 := Fr.app N196 N204q
        refine own_go (B := T204.setTop (mkF m 203 #[.val (.long q0), .second, .val (.long q1), .second, .val (.long q2), .second, .val (.int p3), .val (.int m3), .val (.long k0), .second, .val (.long k1), .second, .val (.long k2), .second, .val (.ref b132), .val (.ref b196), .val (.int (1 : Int32))] [(.int (1 : Int32))])) (fun t_ k_ => st204 _ k_) ?_
        refine own_go (B := T204.setTop (mkF m 245 #[.val (.long q0), .second, .val (.long q1), .second, .val (.long q2), .second, .val (.int p3), .val (.int m3), .val (.long k0), .second, .val (.long k1), .second, .val (.long k2), .second, .val (.ref b132), .val (.ref b196), .val (.int (1 : Int32))] [(.int (1 : Int32))])) (fun t_ k_ => ?_) ?_
        · show Steps p.tables e below (T204.setTop (mkF m 203 #[.val (.long q0), .second, .val (.long q1), .second, .val (.long q2), .second, .val (.int p3), .val (.int m3), .val (.long k0), .second, .val (.long k1), .second, .val (.long k2), .second, .val (.ref b132), .val (.ref b196), .val (.int (1 : Int32))] [(.int (1 : Int32))])) _
          refine XS.ifYes X204.here hx rfl (pc0 := 203) (pc' := 208) rfl (hb hby at_203) rfl ((if0 _ _).trans (feq (by decide : ¬ ((1 : Int32) = (0 : Int32)))).2) (by decide) (by decide) ?_
          show Steps p.tables e below (T204.setTop (mkF m 208 #[.val (.long q0), .second, .val (.long q1), .second, .val (.long q2), .second, .val (.int p3), .val (.int m3), .val (.long k0), .second, .val (.long k1), .second, .val (.long k2), .second, .val (.ref b132), .val (.ref b196), .val (.int (1 : Int32))] [])) _
          refine XS.iload X204.here hx rfl (hb hby at_208) rfl ?_
          show Steps p.tables e below (T204.setTop (mkF m 210 #[.val (.long q0), .second, .val (.long q1), .second, .val (.long q2), .second, .val (.int p3), .val (.int m3), .val (.long k0), .second, .val (.long k1), .second, .val (.long k2), .second, .val (.ref b132), .val (.ref b196), .val (.int (1 : Int32))] [(.int m3)])) _
          refine XS.iconst X204.here hx rfl (hb hby at_210) ?_
          show Steps p.tables e below (T204.setTop (mkF m 211 #[.val (.long q0), .second, .val (.long q1), .second, .val (.long q2), .second, .val (.int p3), .val (.int m3), .val (.long k0), .second, .val (.long k1), .second, .val (.long k2), .second, .val (.ref b132), .val (.ref b196), .val (.int (1 : Int32))] [(.int (1 : Int32)), (.int m3)])) _
          refine XS.icmpYes X204.here hx rfl (pc0 := 211) (pc' := 226) rfl (hb hby at_211) rfl (flt b1).2.2.2 (by decide) (by decide) ?_
          show Steps p.tables e below (T204.setTop (mkF m 226 #[.val (.long q0), .second, .val (.long q1), .second, .val (.long q2), .second, .val (.int p3), .val (.int m3), .val (.long k0), .second, .val (.long k1), .second, .val (.long k2), .second, .val (.ref b132), .val (.ref b196), .val (.int (1 : Int32))] [])) _
          refine XS.iload X204.here hx rfl (hb hby at_226) rfl ?_
          show Steps p.tables e below (T204.setTop (mkF m 228 #[.val (.long q0), .second, .val (.long q1), .second, .val (.long q2), .second, .val (.int p3), .val (.int m3), .val (.long k0), .second, .val (.long k1), .second, .val (.long k2), .second, .val (.ref b132), .val (.ref b196), .val (.int (1 : Int32))] [(.int m3)])) _
          refine XS.iconst X204.here hx rfl (hb hby at_228) ?_
          show Steps p.tables e below (T204.setTop (mkF m 229 #[.val (.long q0), .second, .val (.long q1), .second, .val (.long q2), .second, .val (.int p3), .val (.int m3), .val (.long k0), .second, .val (.long k1), .second, .val (.long k2), .second, .val (.ref b132), .val (.ref b196), .val (.int (1 : Int32))] [(.int (2 : Int32)), (.int m3)])) _
          refine XS.icmpYes X204.here hx rfl (pc0 := 229) (pc' := 244) rfl (hb hby at_229) rfl (flt (own_l12 b1)).2.2.2 (by decide) (by decide) ?_
          show Steps p.tables e below (T204.setTop (mkF m 244 #[.val (.long q0), .second, .val (.long q1), .second, .val (.long q2), .second, .val (.int p3), .val (.int m3), .val (.long k0), .second, .val (.long k1), .second, .val (.long k2), .second, .val (.ref b132), .val (.ref b196), .val (.int (1 : Int32))] [])) _
          refine XS.iconst X204.here hx rfl (hb hby at_244) ?_
          show Steps p.tables e below (T204.setTop (mkF m 245 #[.val (.long q0), .second, .val (.long q1), .second, .val (.long q2), .second, .val (.int p3), .val (.int m3), .val (.long k0), .second, .val (.long k1), .second, .val (.long k2), .second, .val (.ref b132), .val (.ref b196), .val (.int (1 : Int32))] [(.int (1 : Int32))])) _
          exact k_
        obtain ⟨fs, hr, hrun, hended, hW, hsame⟩ := X204.leave (v := some (.int (1 : Int32))) (fun h => by rw [Bd.returns] at h; cases h)
        refine own_at ?_ (hG _ _ ⟨hrun, hended, _, _, rfl, ?_, ⟨_, rfl⟩, hW, hsame.mono (by decide) (by decide)⟩)
        · show Steps p.tables e below (T204.setTop (mkF m 245 #[.val (.long q0), .second, .val (.long q1), .second, .val (.long q2), .second, .val (.int p3), .val (.int m3), .val (.long k0), .second, .val (.long k1), .second, .val (.long k2), .second, .val (.ref b132), .val (.ref b196), .val (.int (1 : Int32))] [(.int (1 : Int32))])) _
          exact retN X204 hx (t := .boolean) Bd.returns (by simp) (hb hby at_245) hr
        · show Q0 Z q0 q1 q2 p3 h0 n0 _ T204.heap _
          rw [e204q]
          exact ⟨rfl, N204⟩
    · refine own_go (B := T136.setTop (mkF m 112 #[.val (.long q0), .second, .val (.long q1), .second, .val (.long q2), .second, .val (.int p3), .val (.int m3), .val (.long k0), .second, .val (.long k1), .second, .val (.long k2), .second, .val (.ref b132), .unset, .unset] [(.ref b132)])) (fun t_ k_ => ?_) ?_
      · show Steps p.tables e below (T136.setTop (mkF m 74 #[.val (.long q0), .second, .val (.long q1), .second, .val (.long q2), .second, .val (.int p3), .val (.int m3), .val (.long k0), .second, .val (.long k1), .second, .val (.long k2), .second, .val (.ref b132), .unset, .unset] [(.int m3)])) _
        refine XS.ifYes X136.here hx rfl (pc0 := 74) (pc' := 84) rfl (hb hby at_74) rfl ((if0 _ _).trans (flt b0).2.2.2) (by decide) (by decide) ?_
        show Steps p.tables e below (T136.setTop (mkF m 84 #[.val (.long q0), .second, .val (.long q1), .second, .val (.long q2), .second, .val (.int p3), .val (.int m3), .val (.long k0), .second, .val (.long k1), .second, .val (.long k2), .second, .val (.ref b132), .unset, .unset] [])) _
        refine XS.iload X136.here hx rfl (hb hby at_84) rfl ?_
        show Steps p.tables e below (T136.setTop (mkF m 86 #[.val (.long q0), .second, .val (.long q1), .second, .val (.long q2), .second, .val (.int p3), .val (.int m3), .val (.long k0), .second, .val (.long k1), .second, .val (.long k2), .second, .val (.ref b132), .unset, .unset] [(.int m3)])) _
        refine XS.iconst X136.here hx rfl (hb hby at_86) ?_
        show Steps p.tables e below (T136.setTop (mkF m 87 #[.val (.long q0), .second, .val (.long q1), .second, .val (.long q2), .second, .val (.int p3), .val (.int m3), .val (.long k0), .second, .val (.long k1), .second, .val (.long k2), .second, .val (.ref b132), .unset, .unset] [(.int (1 : Int32)), (.int m3)])) _
        refine XS.icmpYes X136.here hx rfl (pc0 := 87) (pc' := 97) rfl (hb hby at_87) rfl (flt (own_l01 b0)).2.2.2 (by decide) (by decide) ?_
        show Steps p.tables e below (T136.setTop (mkF m 97 #[.val (.long q0), .second, .val (.long q1), .second, .val (.long q2), .second, .val (.int p3), .val (.int m3), .val (.long k0), .second, .val (.long k1), .second, .val (.long k2), .second, .val (.ref b132), .unset, .unset] [])) _
        refine XS.iload X136.here hx rfl (hb hby at_97) rfl ?_
        show Steps p.tables e below (T136.setTop (mkF m 99 #[.val (.long q0), .second, .val (.long q1), .second, .val (.long q2), .second, .val (.int p3), .val (.int m3), .val (.long k0), .second, .val (.long k1), .second, .val (.long k2), .second, .val (.ref b132), .unset, .unset] [(.int m3)])) _
        refine XS.iconst X136.here hx rfl (hb hby at_99) ?_
        show Steps p.tables e below (T136.setTop (mkF m 100 #[.val (.long q0), .second, .val (.long q1), .second, .val (.long q2), .second, .val (.int p3), .val (.int m3), .val (.long k0), .second, .val (.long k1), .second, .val (.long k2), .second, .val (.ref b132), .unset, .unset] [(.int (2 : Int32)), (.int m3)])) _
        refine XS.icmpYes X136.here hx rfl (pc0 := 100) (pc' := 110) rfl (hb hby at_100) rfl (flt (own_l12 (own_l01 b0))).2.2.2 (by decide) (by decide) ?_
        show Steps p.tables e below (T136.setTop (mkF m 110 #[.val (.long q0), .second, .val (.long q1), .second, .val (.long q2), .second, .val (.int p3), .val (.int m3), .val (.long k0), .second, .val (.long k1), .second, .val (.long k2), .second, .val (.ref b132), .unset, .unset] [])) _
        refine XS.aload X136.here hx rfl (hb hby at_110) rfl rfl ?_
        show Steps p.tables e below (T136.setTop (mkF m 112 #[.val (.long q0), .second, .val (.long q1), .second, .val (.long q2), .second, .val (.int p3), .val (.int m3), .val (.long k0), .second, .val (.long k1), .second, .val (.long k2), .second, .val (.ref b132), .unset, .unset] [(.ref b132)])) _
        exact k_
      obtain ⟨cq206, kq206, q206a, q206b, q206c⟩ := isOf hZ rfl f137
      obtain ⟨vv206, _, ⟨T206, L206, k206, n206⟩, -, X206, ⟨Lc206, hQ206, l206, y206, z206⟩, st206⟩ := X136.virtualBack hx (y := (⟨"com/example/prudent_annotator/prudentannotator/profile/PairCounts", "keys", "()[J"⟩ : MethodName)) (z := (⟨"com/example/prudent_annotator/prudentannotator/profile/PairCounts", "keys", "()[J"⟩ : MethodName)) hown (mvT hZ (hw _ (List.mem_of_getElem? (i := 47) rfl))) (mvT hZ (hw _ (List.mem_of_getElem? (i := 48) rfl))) (notFace_of_selects (args := #[]) (mvT hZ (hw _ (List.mem_of_getElem? (i := 50) rfl)))) (mvT hZ (hw _ (List.mem_of_getElem? (i := 50) rfl))) (mvT hZ (hw _ (List.mem_of_getElem? (i := 49) rfl))) (by decide) (backOf (W := 0) (rm9 l Z a0 hw [] b132 bk136 (fun _ => -1) 0 T136.heap n0 Z136 u1136 u3136 u4136 own_ok0 (by decide)) hZ (hw _ (List.mem_of_getElem? (i := 51) rfl)) (hw _ (List.mem_of_getElem? (i := 7) rfl)) (by decide) (by decide)) q206a q206c (g := (mkF m 112 #[.val (.long q0), .second, .val (.long q1), .second, .val (.long q2), .second, .val (.int p3), .val (.int m3), .val (.long k0), .second, .val (.long k1), .second, .val (.long k2), .second, .val (.ref b132), .unset, .unset] [(.ref b132)])) rfl (by rw [hml]; rfl) (Steps.refl _) (argsL := []) (rest := []) (lenOf pd__28__29__5b_J rfl) rfl (by show 2 * 0 + _ ≤ _; exact Nat.le_of_eq rfl) (hb hby at_112) (fun _ _ => ⟨rfl, rfl, (by decide : 3 + 1 ≤ _), (by decide : 2051 + 3 ≤ _)⟩)
      dsimp only [Pt.U, Pt.locs, Pt.cells, Pt.slots] at X206 l206 y206 z206 st206 hQ206
      subst l206 y206 z206
      obtain ⟨b206, kb206, rfl, N206q, K206, u206⟩ := hQ206
      have N206 := Fr.app N136 N206q
      have f207 : Exa Z T206.heap b132 "com/example/prudent_annotator/prudentannotator/profile/PairCounts" := f137.keep K206
      have f208 : Fld Z T206.heap b132 "com/example/prudent_annotator/prudentannotator/profile/PairCounts" "keys" "[J" (.ref bk136) := u1136.keep K206 nin0
      have f209 : Fld Z T206.heap b132 "com/example/prudent_annotator/prudentannotator/profile/PairCounts" "counts" "[I" (.ref bc136) := u2136.keep K206 nin0
      have f210 : Fld Z T206.heap b132 "com/example/prudent_annotator/prudentannotator/profile/PairCounts" "size" "I" (.int (Int32.ofNat 0)) := u3136.keep K206 nin0
      have f211 : own_LA Z T206.heap bk136 (fun _ => -1) := u4136.keep K206 nin0
      have f212 : own_IA Z T206.heap bc136 (fun _ => 0) := u5136.keep K206 nin0
      have Z206 : n0 ≤ T206.heap.size := Nat.le_trans Z136 K206.1
      refine own_go (B := T206.setTop (mkF m 115 #[.val (.long q0), .second, .val (.long q1), .second, .val (.long q2), .second, .val (.int p3), .val (.int m3), .val (.long k0), .second, .val (.long k1), .second, .val (.long k2), .second, .val (.ref b132), .unset, .unset] [(.ref b206)])) (fun t_ k_ => st206.trans k_) ?_
      refine own_go (B := T206.setTop (mkF m 183 #[.val (.long q0), .second, .val (.long q1), .second, .val (.long q2), .second, .val (.int p3), .val (.int m3), .val (.long k0), .second, .val (.long k1), .second, .val (.long k2), .second, .val (.ref b132), .val (.ref b206), .val (.int (0 : Int32))] [(.ref b206)])) (fun t_ k_ => ?_) ?_
      · show Steps p.tables e below (T206.setTop (mkF m 115 #[.val (.long q0), .second, .val (.long q1), .second, .val (.long q2), .second, .val (.int p3), .val (.int m3), .val (.long k0), .second, .val (.long k1), .second, .val (.long k2), .second, .val (.ref b132), .unset, .unset] [(.ref b206)])) _
        refine XS.astore X206.here hx rfl (hb hby at_115) rfl rfl (l' := #[.val (.long q0), .second, .val (.long q1), .second, .val (.long q2), .second, .val (.int p3), .val (.int m3), .val (.long k0), .second, .val (.long k1), .second, .val (.long k2), .second, .val (.ref b132), .val (.ref b206), .unset]) rfl ?_
        show Steps p.tables e below (T206.setTop (mkF m 117 #[.val (.long q0), .second, .val (.long q1), .second, .val (.long q2), .second, .val (.int p3), .val (.int m3), .val (.long k0), .second, .val (.long k1), .second, .val (.long k2), .second, .val (.ref b132), .val (.ref b206), .unset] [])) _
        refine XS.iconst X206.here hx rfl (hb hby at_117) ?_
        show Steps p.tables e below (T206.setTop (mkF m 118 #[.val (.long q0), .second, .val (.long q1), .second, .val (.long q2), .second, .val (.int p3), .val (.int m3), .val (.long k0), .second, .val (.long k1), .second, .val (.long k2), .second, .val (.ref b132), .val (.ref b206), .unset] [(.int (0 : Int32))])) _
        refine XS.istore X206.here hx rfl (hb hby at_118) rfl (l' := #[.val (.long q0), .second, .val (.long q1), .second, .val (.long q2), .second, .val (.int p3), .val (.int m3), .val (.long k0), .second, .val (.long k1), .second, .val (.long k2), .second, .val (.ref b132), .val (.ref b206), .val (.int (0 : Int32))]) rfl ?_
        show Steps p.tables e below (T206.setTop (mkF m 120 #[.val (.long q0), .second, .val (.long q1), .second, .val (.long q2), .second, .val (.int p3), .val (.int m3), .val (.long k0), .second, .val (.long k1), .second, .val (.long k2), .second, .val (.ref b132), .val (.ref b206), .val (.int (0 : Int32))] [])) _
        refine XS.iload X206.here hx rfl (hb hby at_120) rfl ?_
        show Steps p.tables e below (T206.setTop (mkF m 122 #[.val (.long q0), .second, .val (.long q1), .second, .val (.long q2), .second, .val (.int p3), .val (.int m3), .val (.long k0), .second, .val (.long k1), .second, .val (.long k2), .second, .val (.ref b132), .val (.ref b206), .val (.int (0 : Int32))] [(.int m3)])) _
        refine XS.ifYes X206.here hx rfl (pc0 := 122) (pc' := 176) rfl (hb hby at_122) rfl ((if0 _ _).trans (flt b0).2.2.2) (by decide) (by decide) ?_
        show Steps p.tables e below (T206.setTop (mkF m 176 #[.val (.long q0), .second, .val (.long q1), .second, .val (.long q2), .second, .val (.int p3), .val (.int m3), .val (.long k0), .second, .val (.long k1), .second, .val (.long k2), .second, .val (.ref b132), .val (.ref b206), .val (.int (0 : Int32))] [])) _
        refine XS.aload X206.here hx rfl (hb hby at_176) rfl rfl ?_
        show Steps p.tables e below (T206.setTop (mkF m 178 #[.val (.long q0), .second, .val (.long q1), .second, .val (.long q2), .second, .val (.int p3), .val (.int m3), .val (.long k0), .second, .val (.long k1), .second, .val (.long k2), .second, .val (.ref b132), .val (.ref b206), .val (.int (0 : Int32))] [(.ref b206)])) _
        refine XS.ifnullNo X206.here hx rfl (hb hby at_178) rfl ?_
        show Steps p.tables e below (T206.setTop (mkF m 181 #[.val (.long q0), .second, .val (.long q1), .second, .val (.long q2), .second, .val (.int p3), .val (.int m3), .val (.long k0), .second, .val (.long k1), .second, .val (.long k2), .second, .val (.ref b132), .val (.ref b206), .val (.int (0 : Int32))] [])) _
        refine XS.aload X206.here hx rfl (hb hby at_181) rfl rfl ?_
        show Steps p.tables e below (T206.setTop (mkF m 183 #[.val (.long q0), .second, .val (.long q1), .second, .val (.long q2), .second, .val (.int p3), .val (.int m3), .val (.long k0), .second, .val (.long k1), .second, .val (.long k2), .second, .val (.ref b132), .val (.ref b206), .val (.int (0 : Int32))] [(.ref b206)])) _
        exact k_
      obtain ⟨cl213, Ar213, -, S213, M213, -, -⟩ := id u206
      refine own_go (B := T206.setTop (mkF m 184 #[.val (.long q0), .second, .val (.long q1), .second, .val (.long q2), .second, .val (.int p3), .val (.int m3), .val (.long k0), .second, .val (.long k1), .second, .val (.long k2), .second, .val (.ref b132), .val (.ref b206), .val (.int (0 : Int32))] [(.int (Int32.ofNat 0))])) (fun t_ k_ => ?_) ?_
      · refine X206.arraylength hx Ar213.1 (State.isArrayOf_alike hZ.alike Ar213.2.1) (g := (mkF m 183 #[.val (.long q0), .second, .val (.long q1), .second, .val (.long q2), .second, .val (.int p3), .val (.int m3), .val (.long k0), .second, .val (.long k1), .second, .val (.long k2), .second, .val (.ref b132), .val (.ref b206), .val (.int (0 : Int32))] [(.ref b206)])) rfl rfl (hb hby at_183) _ ?_
        rw [len_of S213 M213]
        exact k_
      refine own_go (B := T206.setTop (mkF m 245 #[.val (.long q0), .second, .val (.long q1), .second, .val (.long q2), .second, .val (.int p3), .val (.int m3), .val (.long k0), .second, .val (.long k1), .second, .val (.long k2), .second, .val (.ref b132), .val (.ref b206), .val (.int (0 : Int32))] [(.int (1 : Int32))])) (fun t_ k_ => ?_) ?_
      · show Steps p.tables e below (T206.setTop (mkF m 184 #[.val (.long q0), .second, .val (.long q1), .second, .val (.long q2), .second, .val (.int p3), .val (.int m3), .val (.long k0), .second, .val (.long k1), .second, .val (.long k2), .second, .val (.ref b132), .val (.ref b206), .val (.int (0 : Int32))] [(.int (Int32.ofNat 0))])) _
        refine XS.iload X206.here hx rfl (hb hby at_184) rfl ?_
        show Steps p.tables e below (T206.setTop (mkF m 186 #[.val (.long q0), .second, .val (.long q1), .second, .val (.long q2), .second, .val (.int p3), .val (.int m3), .val (.long k0), .second, .val (.long k1), .second, .val (.long k2), .second, .val (.ref b132), .val (.ref b206), .val (.int (0 : Int32))] [(.int (0 : Int32)), (.int (Int32.ofNat 0))])) _
        refine XS.icmpYes X206.here hx rfl (pc0 := 186) (pc' := 191) rfl (hb hby at_186) rfl (teq rfl).1 (by decide) (by decide) ?_
        show Steps p.tables e below (T206.setTop (mkF m 191 #[.val (.long q0), .second, .val (.long q1), .second, .val (.long q2), .second, .val (.int p3), .val (.int m3), .val (.long k0), .second, .val (.long k1), .second, .val (.long k2), .second, .val (.ref b132), .val (.ref b206), .val (.int (0 : Int32))] [])) _
        refine XS.iload X206.here hx rfl (hb hby at_191) rfl ?_
        show Steps p.tables e below (T206.setTop (mkF m 193 #[.val (.long q0), .second, .val (.long q1), .second, .val (.long q2), .second, .val (.int p3), .val (.int m3), .val (.long k0), .second, .val (.long k1), .second, .val (.long k2), .second, .val (.ref b132), .val (.ref b206), .val (.int (0 : Int32))] [(.int m3)])) _
        refine XS.ifYes X206.here hx rfl (pc0 := 193) (pc' := 208) rfl (hb hby at_193) rfl ((if0 _ _).trans (flt b0).2.2.2) (by decide) (by decide) ?_
        show Steps p.tables e below (T206.setTop (mkF m 208 #[.val (.long q0), .second, .val (.long q1), .second, .val (.long q2), .second, .val (.int p3), .val (.int m3), .val (.long k0), .second, .val (.long k1), .second, .val (.long k2), .second, .val (.ref b132), .val (.ref b206), .val (.int (0 : Int32))] [])) _
        refine XS.iload X206.here hx rfl (hb hby at_208) rfl ?_
        show Steps p.tables e below (T206.setTop (mkF m 210 #[.val (.long q0), .second, .val (.long q1), .second, .val (.long q2), .second, .val (.int p3), .val (.int m3), .val (.long k0), .second, .val (.long k1), .second, .val (.long k2), .second, .val (.ref b132), .val (.ref b206), .val (.int (0 : Int32))] [(.int m3)])) _
        refine XS.iconst X206.here hx rfl (hb hby at_210) ?_
        show Steps p.tables e below (T206.setTop (mkF m 211 #[.val (.long q0), .second, .val (.long q1), .second, .val (.long q2), .second, .val (.int p3), .val (.int m3), .val (.long k0), .second, .val (.long k1), .second, .val (.long k2), .second, .val (.ref b132), .val (.ref b206), .val (.int (0 : Int32))] [(.int (1 : Int32)), (.int m3)])) _
        refine XS.icmpYes X206.here hx rfl (pc0 := 211) (pc' := 226) rfl (hb hby at_211) rfl (flt (own_l01 b0)).2.2.2 (by decide) (by decide) ?_
        show Steps p.tables e below (T206.setTop (mkF m 226 #[.val (.long q0), .second, .val (.long q1), .second, .val (.long q2), .second, .val (.int p3), .val (.int m3), .val (.long k0), .second, .val (.long k1), .second, .val (.long k2), .second, .val (.ref b132), .val (.ref b206), .val (.int (0 : Int32))] [])) _
        refine XS.iload X206.here hx rfl (hb hby at_226) rfl ?_
        show Steps p.tables e below (T206.setTop (mkF m 228 #[.val (.long q0), .second, .val (.long q1), .second, .val (.long q2), .second, .val (.int p3), .val (.int m3), .val (.long k0), .second, .val (.long k1), .second, .val (.long k2), .second, .val (.ref b132), .val (.ref b206), .val (.int (0 : Int32))] [(.int m3)])) _
        refine XS.iconst X206.here hx rfl (hb hby at_228) ?_
        show Steps p.tables e below (T206.setTop (mkF m 229 #[.val (.long q0), .second, .val (.long q1), .second, .val (.long q2), .second, .val (.int p3), .val (.int m3), .val (.long k0), .second, .val (.long k1), .second, .val (.long k2), .second, .val (.ref b132), .val (.ref b206), .val (.int (0 : Int32))] [(.int (2 : Int32)), (.int m3)])) _
        refine XS.icmpYes X206.here hx rfl (pc0 := 229) (pc' := 244) rfl (hb hby at_229) rfl (flt (own_l12 (own_l01 b0))).2.2.2 (by decide) (by decide) ?_
        show Steps p.tables e below (T206.setTop (mkF m 244 #[.val (.long q0), .second, .val (.long q1), .second, .val (.long q2), .second, .val (.int p3), .val (.int m3), .val (.long k0), .second, .val (.long k1), .second, .val (.long k2), .second, .val (.ref b132), .val (.ref b206), .val (.int (0 : Int32))] [])) _
        refine XS.iconst X206.here hx rfl (hb hby at_244) ?_
        show Steps p.tables e below (T206.setTop (mkF m 245 #[.val (.long q0), .second, .val (.long q1), .second, .val (.long q2), .second, .val (.int p3), .val (.int m3), .val (.long k0), .second, .val (.long k1), .second, .val (.long k2), .second, .val (.ref b132), .val (.ref b206), .val (.int (0 : Int32))] [(.int (1 : Int32))])) _
        exact k_
      obtain ⟨fs, hr, hrun, hended, hW, hsame⟩ := X206.leave (v := some (.int (1 : Int32))) (fun h => by rw [Bd.returns] at h; cases h)
      refine own_at ?_ (hG _ _ ⟨hrun, hended, _, _, rfl, ?_, ⟨_, rfl⟩, hW, hsame.mono (by decide) (by decide)⟩)
      · show Steps p.tables e below (T206.setTop (mkF m 245 #[.val (.long q0), .second, .val (.long q1), .second, .val (.long q2), .second, .val (.int p3), .val (.int m3), .val (.long k0), .second, .val (.long k1), .second, .val (.long k2), .second, .val (.ref b132), .val (.ref b206), .val (.int (0 : Int32))] [(.int (1 : Int32))])) _
        exact retN X206 hx (t := .boolean) Bd.returns (by simp) (hb hby at_245) hr
      · show Q0 Z q0 q1 q2 p3 h0 n0 _ T206.heap _
        exact ⟨rfl, N206⟩
  have K28 : ∀ (TK : State) (LK : List Loc) (m3 : Int32) (k0 k1 : Int64), Stand p l e room_1 s m #[(.long q0), (.long q1), (.long q2), (.int p3)] below meth c TK LK 0 0 → TK.heap = h0 → Fr n0 LK → k0 ≠ -1 → k1 ≠ -1 → own_R p.tables e below G (TK.setTop (mkF m 28 #[.val (.long q0), .second, .val (.long q1), .second, .val (.long q2), .second, .val (.int p3), .val (.int m3), .val (.long k0), .second, .unset, .unset, .unset, .unset, .unset, .unset, .unset] [(.long k1)])) := by
    intro TK LK m3 k0 k1 XK eK NK hk0 hk1
    refine own_go (B := TK.setTop (mkF m 35 #[.val (.long q0), .second, .val (.long q1), .second, .val (.long q2), .second, .val (.int p3), .val (.int m3), .val (.long k0), .second, .val (.long k1), .second, .unset, .unset, .unset, .unset, .unset] [(.int (p3 &&& (8 : Int32)))])) (fun t_ k_ => ?_) ?_
    · show Steps p.tables e below (TK.setTop (mkF m 28 #[.val (.long q0), .second, .val (.long q1), .second, .val (.long q2), .second, .val (.int p3), .val (.int m3), .val (.long k0), .second, .unset, .unset, .unset, .unset, .unset, .unset, .unset] [(.long k1)])) _
      refine XS.lstore XK.here hx rfl (hb hby at_28) rfl (l' := #[.val (.long q0), .second, .val (.long q1), .second, .val (.long q2), .second, .val (.int p3), .val (.int m3), .val (.long k0), .second, .val (.long k1), .second, .unset, .unset, .unset, .unset, .unset]) rfl ?_
      show Steps p.tables e below (TK.setTop (mkF m 30 #[.val (.long q0), .second, .val (.long q1), .second, .val (.long q2), .second, .val (.int p3), .val (.int m3), .val (.long k0), .second, .val (.long k1), .second, .unset, .unset, .unset, .unset, .unset] [])) _
      refine XS.iload XK.here hx rfl (hb hby at_30) rfl ?_
      show Steps p.tables e below (TK.setTop (mkF m 32 #[.val (.long q0), .second, .val (.long q1), .second, .val (.long q2), .second, .val (.int p3), .val (.int m3), .val (.long k0), .second, .val (.long k1), .second, .unset, .unset, .unset, .unset, .unset] [(.int p3)])) _
      refine XS.bipush XK.here hx rfl (hb hby at_32) ?_
      show Steps p.tables e below (TK.setTop (mkF m 34 #[.val (.long q0), .second, .val (.long q1), .second, .val (.long q2), .second, .val (.int p3), .val (.int m3), .val (.long k0), .second, .val (.long k1), .second, .unset, .unset, .unset, .unset, .unset] [(.int (8 : Int32)), (.int p3)])) _
      refine XS.iand XK.here hx rfl (hb hby at_34) rfl ?_
      show Steps p.tables e below (TK.setTop (mkF m 35 #[.val (.long q0), .second, .val (.long q1), .second, .val (.long q2), .second, .val (.int p3), .val (.int m3), .val (.long k0), .second, .val (.long k1), .second, .unset, .unset, .unset, .unset, .unset] [(.int (p3 &&& (8 : Int32)))])) _
      exact k_
    by_cases hc35 : (p3 &&& (8 : Int32)) = (0 : Int32)
    · refine own_go (B := TK.setTop (mkF m 48 #[.val (.long q0), .second, .val (.long q1), .second, .val (.long q2), .second, .val (.int p3), .val (.int m3), .val (.long k0), .second, .val (.long k1), .second, .unset, .unset, .unset, .unset, .unset] [(.int (p3 &&& (16 : Int32)))])) (fun t_ k_ => ?_) ?_
      · show Steps p.tables e below (TK.setTop (mkF m 35 #[.val (.long q0), .second, .val (.long q1), .second, .val (.long q2), .second, .val (.int p3), .val (.int m3), .val (.long k0), .second, .val (.long k1), .second, .unset, .unset, .unset, .unset, .unset] [(.int (p3 &&& (8 : Int32)))])) _
        refine XS.ifYes XK.here hx rfl (pc0 := 35) (pc' := 43) rfl (hb hby at_35) rfl ((if0 _ _).trans (teq hc35).1) (by decide) (by decide) ?_
        show Steps p.tables e below (TK.setTop (mkF m 43 #[.val (.long q0), .second, .val (.long q1), .second, .val (.long q2), .second, .val (.int p3), .val (.int m3), .val (.long k0), .second, .val (.long k1), .second, .unset, .unset, .unset, .unset, .unset] [])) _
        refine XS.iload XK.here hx rfl (hb hby at_43) rfl ?_
        show Steps p.tables e below (TK.setTop (mkF m 45 #[.val (.long q0), .second, .val (.long q1), .second, .val (.long q2), .second, .val (.int p3), .val (.int m3), .val (.long k0), .second, .val (.long k1), .second, .unset, .unset, .unset, .unset, .unset] [(.int p3)])) _
        refine XS.bipush XK.here hx rfl (hb hby at_45) ?_
        show Steps p.tables e below (TK.setTop (mkF m 47 #[.val (.long q0), .second, .val (.long q1), .second, .val (.long q2), .second, .val (.int p3), .val (.int m3), .val (.long k0), .second, .val (.long k1), .second, .unset, .unset, .unset, .unset, .unset] [(.int (16 : Int32)), (.int p3)])) _
        refine XS.iand XK.here hx rfl (hb hby at_47) rfl ?_
        show Steps p.tables e below (TK.setTop (mkF m 48 #[.val (.long q0), .second, .val (.long q1), .second, .val (.long q2), .second, .val (.int p3), .val (.int m3), .val (.long k0), .second, .val (.long k1), .second, .unset, .unset, .unset, .unset, .unset] [(.int (p3 &&& (16 : Int32)))])) _
        exact k_
      by_cases hc48 : (p3 &&& (16 : Int32)) = (0 : Int32)
      · refine own_go (B := TK.setTop (mkF m 58 #[.val (.long q0), .second, .val (.long q1), .second, .val (.long q2), .second, .val (.int p3), .val (.int m3), .val (.long k0), .second, .val (.long k1), .second, .unset, .unset, .unset, .unset, .unset] [(.long q2)])) (fun t_ k_ => ?_) ?_
        · show Steps p.tables e below (TK.setTop (mkF m 48 #[.val (.long q0), .second, .val (.long q1), .second, .val (.long q2), .second, .val (.int p3), .val (.int m3), .val (.long k0), .second, .val (.long k1), .second, .unset, .unset, .unset, .unset, .unset] [(.int (p3 &&& (16 : Int32)))])) _
          refine XS.ifYes XK.here hx rfl (pc0 := 48) (pc' := 56) rfl (hb hby at_48) rfl ((if0 _ _).trans (teq hc48).1) (by decide) (by decide) ?_
          show Steps p.tables e below (TK.setTop (mkF m 56 #[.val (.long q0), .second, .val (.long q1), .second, .val (.long q2), .second, .val (.int p3), .val (.int m3), .val (.long k0), .second, .val (.long k1), .second, .unset, .unset, .unset, .unset, .unset] [])) _
          refine XS.lload XK.here hx rfl (hb hby at_56) rfl ?_
          show Steps p.tables e below (TK.setTop (mkF m 58 #[.val (.long q0), .second, .val (.long q1), .second, .val (.long q2), .second, .val (.int p3), .val (.int m3), .val (.long k0), .second, .val (.long k1), .second, .unset, .unset, .unset, .unset, .unset] [(.long q2)])) _
          exact k_
        obtain ⟨vv215, _, ⟨T215, L215, k215, n215⟩, -, X215, ⟨Lc215, hQ215, l215, y215, z215⟩, st215⟩ := Jvm.LawKit.callS XK hx (y := (⟨"com/example/prudent_annotator/prudentannotator/profile/PairCountsKeysPinLaw", "fix", "(J)J"⟩ : MethodName)) hown (mvT hZ (hw _ (List.mem_of_getElem? (i := 0) rfl))) (mvT hZ (hw _ (List.mem_of_getElem? (i := 1) rfl))) (mvT hZ (hw _ (List.mem_of_getElem? (i := 2) rfl))) (mvT hZ (hw _ (List.mem_of_getElem? (i := 3) rfl))) (by decide) (backOf (W := 0) (rm1 l Z a0 hw [] q2 h0 n0 Z0) hZ (hw _ (List.mem_of_getElem? (i := 3) rfl)) (hw _ (List.mem_of_getElem? (i := 2) rfl)) (by decide) (by decide)) (g := (mkF m 58 #[.val (.long q0), .second, .val (.long q1), .second, .val (.long q2), .second, .val (.int p3), .val (.int m3), .val (.long k0), .second, .val (.long k1), .second, .unset, .unset, .unset, .unset, .unset] [(.long q2)])) rfl (by rw [hml]; rfl) (argsL := [(.long q2)]) (rest := []) (lenOf pd__28_J_29_J rfl) rfl (by show 2 * 0 + _ ≤ _; exact Nat.le_of_eq rfl) (hb hby at_58) (fun _ _ => ⟨rfl, eK, (by decide : 0 + 0 ≤ _), (by decide : 0 + 0 ≤ _)⟩)
        dsimp only [Pt.U, Pt.locs, Pt.cells, Pt.slots] at X215 l215 y215 z215 st215 hQ215
        subst l215 y215 z215
        obtain ⟨rfl, N215q, e215q⟩ := hQ215
        have N215 := Fr.app NK N215q
        refine own_go (B := T215.setTop (mkF m 61 #[.val (.long q0), .second, .val (.long q1), .second, .val (.long q2), .second, .val (.int p3), .val (.int m3), .val (.long k0), .second, .val (.long k1), .second, .unset, .unset, .unset, .unset, .unset] [(.long (own_fix q2))])) (fun t_ k_ => st215 _ k_) ?_
        exact K61 _ _ _ _ _ _ X215 e215q N215 hk0 hk1 (own_fix_ne _)
      · refine own_go (B := TK.setTop (mkF m 61 #[.val (.long q0), .second, .val (.long q1), .second, .val (.long q2), .second, .val (.int p3), .val (.int m3), .val (.long k0), .second, .val (.long k1), .second, .unset, .unset, .unset, .unset, .unset] [(.long k0)])) (fun t_ k_ => ?_) ?_
        · show Steps p.tables e below (TK.setTop (mkF m 48 #[.val (.long q0), .second, .val (.long q1), .second, .val (.long q2), .second, .val (.int p3), .val (.int m3), .val (.long k0), .second, .val (.long k1), .second, .unset, .unset, .unset, .unset, .unset] [(.int (p3 &&& (16 : Int32)))])) _
          refine XS.ifNo XK.here hx rfl (hb hby at_48) rfl ((if0 _ _).trans (feq hc48).1) ?_
          show Steps p.tables e below (TK.setTop (mkF m 51 #[.val (.long q0), .second, .val (.long q1), .second, .val (.long q2), .second, .val (.int p3), .val (.int m3), .val (.long k0), .second, .val (.long k1), .second, .unset, .unset, .unset, .unset, .unset] [])) _
          refine XS.lload XK.here hx rfl (hb hby at_51) rfl ?_
          show Steps p.tables e below (TK.setTop (mkF m 53 #[.val (.long q0), .second, .val (.long q1), .second, .val (.long q2), .second, .val (.int p3), .val (.int m3), .val (.long k0), .second, .val (.long k1), .second, .unset, .unset, .unset, .unset, .unset] [(.long k0)])) _
          refine XS.goto XK.here hx rfl (pc0 := 53) (pc' := 61) rfl (hb hby at_53) (by decide) (by decide) ?_
          show Steps p.tables e below (TK.setTop (mkF m 61 #[.val (.long q0), .second, .val (.long q1), .second, .val (.long q2), .second, .val (.int p3), .val (.int m3), .val (.long k0), .second, .val (.long k1), .second, .unset, .unset, .unset, .unset, .unset] [(.long k0)])) _
          exact k_
        exact K61 _ _ _ _ _ _ XK eK NK hk0 hk1 hk0
    · refine own_go (B := TK.setTop (mkF m 61 #[.val (.long q0), .second, .val (.long q1), .second, .val (.long q2), .second, .val (.int p3), .val (.int m3), .val (.long k0), .second, .val (.long k1), .second, .unset, .unset, .unset, .unset, .unset] [(.long k1)])) (fun t_ k_ => ?_) ?_
      · show Steps p.tables e below (TK.setTop (mkF m 35 #[.val (.long q0), .second, .val (.long q1), .second, .val (.long q2), .second, .val (.int p3), .val (.int m3), .val (.long k0), .second, .val (.long k1), .second, .unset, .unset, .unset, .unset, .unset] [(.int (p3 &&& (8 : Int32)))])) _
        refine XS.ifNo XK.here hx rfl (hb hby at_35) rfl ((if0 _ _).trans (feq hc35).1) ?_
        show Steps p.tables e below (TK.setTop (mkF m 38 #[.val (.long q0), .second, .val (.long q1), .second, .val (.long q2), .second, .val (.int p3), .val (.int m3), .val (.long k0), .second, .val (.long k1), .second, .unset, .unset, .unset, .unset, .unset] [])) _
        refine XS.lload XK.here hx rfl (hb hby at_38) rfl ?_
        show Steps p.tables e below (TK.setTop (mkF m 40 #[.val (.long q0), .second, .val (.long q1), .second, .val (.long q2), .second, .val (.int p3), .val (.int m3), .val (.long k0), .second, .val (.long k1), .second, .unset, .unset, .unset, .unset, .unset] [(.long k1)])) _
        refine XS.goto XK.here hx rfl (pc0 := 40) (pc' := 61) rfl (hb hby at_40) (by decide) (by decide) ?_
        show Steps p.tables e below (TK.setTop (mkF m 61 #[.val (.long q0), .second, .val (.long q1), .second, .val (.long q2), .second, .val (.int p3), .val (.int m3), .val (.long k0), .second, .val (.long k1), .second, .unset, .unset, .unset, .unset, .unset] [(.long k1)])) _
        exact k_
      exact K61 _ _ _ _ _ _ XK eK NK hk0 hk1 hk1
  refine own_go (B := s₁.setTop (mkF m 7 #[.val (.long q0), .second, .val (.long q1), .second, .val (.long q2), .second, .val (.int p3), .val (.int (p3 &&& (3 : Int32))), .unset, .unset, .unset, .unset, .unset, .unset, .unset, .unset, .unset] [(.long q0)])) (fun t_ k_ => ?_) ?_
  · show Steps p.tables e below (s₁.setTop (mkF m 0 #[.val (.long q0), .second, .val (.long q1), .second, .val (.long q2), .second, .val (.int p3), .unset, .unset, .unset, .unset, .unset, .unset, .unset, .unset, .unset, .unset] [])) _
    refine XS.iload X0.here hx rfl (hb hby at_0) rfl ?_
    show Steps p.tables e below (s₁.setTop (mkF m 2 #[.val (.long q0), .second, .val (.long q1), .second, .val (.long q2), .second, .val (.int p3), .unset, .unset, .unset, .unset, .unset, .unset, .unset, .unset, .unset, .unset] [(.int p3)])) _
    refine XS.iconst X0.here hx rfl (hb hby at_2) ?_
    show Steps p.tables e below (s₁.setTop (mkF m 3 #[.val (.long q0), .second, .val (.long q1), .second, .val (.long q2), .second, .val (.int p3), .unset, .unset, .unset, .unset, .unset, .unset, .unset, .unset, .unset, .unset] [(.int (3 : Int32)), (.int p3)])) _
    refine XS.iand X0.here hx rfl (hb hby at_3) rfl ?_
    show Steps p.tables e below (s₁.setTop (mkF m 4 #[.val (.long q0), .second, .val (.long q1), .second, .val (.long q2), .second, .val (.int p3), .unset, .unset, .unset, .unset, .unset, .unset, .unset, .unset, .unset, .unset] [(.int (p3 &&& (3 : Int32)))])) _
    refine XS.istore X0.here hx rfl (hb hby at_4) rfl (l' := #[.val (.long q0), .second, .val (.long q1), .second, .val (.long q2), .second, .val (.int p3), .val (.int (p3 &&& (3 : Int32))), .unset, .unset, .unset, .unset, .unset, .unset, .unset, .unset, .unset]) rfl ?_
    show Steps p.tables e below (s₁.setTop (mkF m 6 #[.val (.long q0), .second, .val (.long q1), .second, .val (.long q2), .second, .val (.int p3), .val (.int (p3 &&& (3 : Int32))), .unset, .unset, .unset, .unset, .unset, .unset, .unset, .unset, .unset] [])) _
    refine XS.lloadN X0.here hx rfl (hb hby at_6) rfl ?_
    show Steps p.tables e below (s₁.setTop (mkF m 7 #[.val (.long q0), .second, .val (.long q1), .second, .val (.long q2), .second, .val (.int p3), .val (.int (p3 &&& (3 : Int32))), .unset, .unset, .unset, .unset, .unset, .unset, .unset, .unset, .unset] [(.long q0)])) _
    exact k_
  obtain ⟨vv216, _, ⟨T216, L216, k216, n216⟩, -, X216, ⟨Lc216, hQ216, l216, y216, z216⟩, st216⟩ := Jvm.LawKit.callS X0 hx (y := (⟨"com/example/prudent_annotator/prudentannotator/profile/PairCountsKeysPinLaw", "fix", "(J)J"⟩ : MethodName)) hown (mvT hZ (hw _ (List.mem_of_getElem? (i := 0) rfl))) (mvT hZ (hw _ (List.mem_of_getElem? (i := 1) rfl))) (mvT hZ (hw _ (List.mem_of_getElem? (i := 2) rfl))) (mvT hZ (hw _ (List.mem_of_getElem? (i := 3) rfl))) (by decide) (backOf (W := 0) (rm1 l Z a0 hw [] q0 h0 n0 Z0) hZ (hw _ (List.mem_of_getElem? (i := 3) rfl)) (hw _ (List.mem_of_getElem? (i := 2) rfl)) (by decide) (by decide)) (g := (mkF m 7 #[.val (.long q0), .second, .val (.long q1), .second, .val (.long q2), .second, .val (.int p3), .val (.int (p3 &&& (3 : Int32))), .unset, .unset, .unset, .unset, .unset, .unset, .unset, .unset, .unset] [(.long q0)])) rfl (by rw [hml]; rfl) (argsL := [(.long q0)]) (rest := []) (lenOf pd__28_J_29_J rfl) rfl (by show 2 * 0 + _ ≤ _; exact Nat.le_of_eq rfl) (hb hby at_7) (fun _ _ => ⟨rfl, e0, (by decide : 0 + 0 ≤ _), (by decide : 0 + 0 ≤ _)⟩)
  dsimp only [Pt.U, Pt.locs, Pt.cells, Pt.slots] at X216 l216 y216 z216 st216 hQ216
  subst l216 y216 z216
  obtain ⟨rfl, N216q, e216q⟩ := hQ216
  have N216 := Fr.app N0 N216q
  refine own_go (B := T216.setTop (mkF m 10 #[.val (.long q0), .second, .val (.long q1), .second, .val (.long q2), .second, .val (.int p3), .val (.int (p3 &&& (3 : Int32))), .unset, .unset, .unset, .unset, .unset, .unset, .unset, .unset, .unset] [(.long (own_fix q0))])) (fun t_ k_ => st216 _ k_) ?_
  refine own_go (B := T216.setTop (mkF m 16 #[.val (.long q0), .second, .val (.long q1), .second, .val (.long q2), .second, .val (.int p3), .val (.int (p3 &&& (3 : Int32))), .val (.long (own_fix q0)), .second, .unset, .unset, .unset, .unset, .unset, .unset, .unset] [(.int (p3 &&& (4 : Int32)))])) (fun t_ k_ => ?_) ?_
  · show Steps p.tables e below (T216.setTop (mkF m 10 #[.val (.long q0), .second, .val (.long q1), .second, .val (.long q2), .second, .val (.int p3), .val (.int (p3 &&& (3 : Int32))), .unset, .unset, .unset, .unset, .unset, .unset, .unset, .unset, .unset] [(.long (own_fix q0))])) _
    refine XS.lstore X216.here hx rfl (hb hby at_10) rfl (l' := #[.val (.long q0), .second, .val (.long q1), .second, .val (.long q2), .second, .val (.int p3), .val (.int (p3 &&& (3 : Int32))), .val (.long (own_fix q0)), .second, .unset, .unset, .unset, .unset, .unset, .unset, .unset]) rfl ?_
    show Steps p.tables e below (T216.setTop (mkF m 12 #[.val (.long q0), .second, .val (.long q1), .second, .val (.long q2), .second, .val (.int p3), .val (.int (p3 &&& (3 : Int32))), .val (.long (own_fix q0)), .second, .unset, .unset, .unset, .unset, .unset, .unset, .unset] [])) _
    refine XS.iload X216.here hx rfl (hb hby at_12) rfl ?_
    show Steps p.tables e below (T216.setTop (mkF m 14 #[.val (.long q0), .second, .val (.long q1), .second, .val (.long q2), .second, .val (.int p3), .val (.int (p3 &&& (3 : Int32))), .val (.long (own_fix q0)), .second, .unset, .unset, .unset, .unset, .unset, .unset, .unset] [(.int p3)])) _
    refine XS.iconst X216.here hx rfl (hb hby at_14) ?_
    show Steps p.tables e below (T216.setTop (mkF m 15 #[.val (.long q0), .second, .val (.long q1), .second, .val (.long q2), .second, .val (.int p3), .val (.int (p3 &&& (3 : Int32))), .val (.long (own_fix q0)), .second, .unset, .unset, .unset, .unset, .unset, .unset, .unset] [(.int (4 : Int32)), (.int p3)])) _
    refine XS.iand X216.here hx rfl (hb hby at_15) rfl ?_
    show Steps p.tables e below (T216.setTop (mkF m 16 #[.val (.long q0), .second, .val (.long q1), .second, .val (.long q2), .second, .val (.int p3), .val (.int (p3 &&& (3 : Int32))), .val (.long (own_fix q0)), .second, .unset, .unset, .unset, .unset, .unset, .unset, .unset] [(.int (p3 &&& (4 : Int32)))])) _
    exact k_
  by_cases hc16 : (p3 &&& (4 : Int32)) = (0 : Int32)
  · refine own_go (B := T216.setTop (mkF m 25 #[.val (.long q0), .second, .val (.long q1), .second, .val (.long q2), .second, .val (.int p3), .val (.int (p3 &&& (3 : Int32))), .val (.long (own_fix q0)), .second, .unset, .unset, .unset, .unset, .unset, .unset, .unset] [(.long q1)])) (fun t_ k_ => ?_) ?_
    · show Steps p.tables e below (T216.setTop (mkF m 16 #[.val (.long q0), .second, .val (.long q1), .second, .val (.long q2), .second, .val (.int p3), .val (.int (p3 &&& (3 : Int32))), .val (.long (own_fix q0)), .second, .unset, .unset, .unset, .unset, .unset, .unset, .unset] [(.int (p3 &&& (4 : Int32)))])) _
      refine XS.ifYes X216.here hx rfl (pc0 := 16) (pc' := 24) rfl (hb hby at_16) rfl ((if0 _ _).trans (teq hc16).1) (by decide) (by decide) ?_
      show Steps p.tables e below (T216.setTop (mkF m 24 #[.val (.long q0), .second, .val (.long q1), .second, .val (.long q2), .second, .val (.int p3), .val (.int (p3 &&& (3 : Int32))), .val (.long (own_fix q0)), .second, .unset, .unset, .unset, .unset, .unset, .unset, .unset] [])) _
      refine XS.lloadN X216.here hx rfl (hb hby at_24) rfl ?_
      show Steps p.tables e below (T216.setTop (mkF m 25 #[.val (.long q0), .second, .val (.long q1), .second, .val (.long q2), .second, .val (.int p3), .val (.int (p3 &&& (3 : Int32))), .val (.long (own_fix q0)), .second, .unset, .unset, .unset, .unset, .unset, .unset, .unset] [(.long q1)])) _
      exact k_
    obtain ⟨vv217, _, ⟨T217, L217, k217, n217⟩, -, X217, ⟨Lc217, hQ217, l217, y217, z217⟩, st217⟩ := Jvm.LawKit.callS X216 hx (y := (⟨"com/example/prudent_annotator/prudentannotator/profile/PairCountsKeysPinLaw", "fix", "(J)J"⟩ : MethodName)) hown (mvT hZ (hw _ (List.mem_of_getElem? (i := 0) rfl))) (mvT hZ (hw _ (List.mem_of_getElem? (i := 1) rfl))) (mvT hZ (hw _ (List.mem_of_getElem? (i := 2) rfl))) (mvT hZ (hw _ (List.mem_of_getElem? (i := 3) rfl))) (by decide) (backOf (W := 0) (rm1 l Z a0 hw [] q1 h0 n0 Z0) hZ (hw _ (List.mem_of_getElem? (i := 3) rfl)) (hw _ (List.mem_of_getElem? (i := 2) rfl)) (by decide) (by decide)) (g := (mkF m 25 #[.val (.long q0), .second, .val (.long q1), .second, .val (.long q2), .second, .val (.int p3), .val (.int (p3 &&& (3 : Int32))), .val (.long (own_fix q0)), .second, .unset, .unset, .unset, .unset, .unset, .unset, .unset] [(.long q1)])) rfl (by rw [hml]; rfl) (argsL := [(.long q1)]) (rest := []) (lenOf pd__28_J_29_J rfl) rfl (by show 2 * 0 + _ ≤ _; exact Nat.le_of_eq rfl) (hb hby at_25) (fun _ _ => ⟨rfl, e216q, (by decide : 0 + 0 ≤ _), (by decide : 0 + 0 ≤ _)⟩)
    dsimp only [Pt.U, Pt.locs, Pt.cells, Pt.slots] at X217 l217 y217 z217 st217 hQ217
    subst l217 y217 z217
    obtain ⟨rfl, N217q, e217q⟩ := hQ217
    have N217 := Fr.app N216 N217q
    refine own_go (B := T217.setTop (mkF m 28 #[.val (.long q0), .second, .val (.long q1), .second, .val (.long q2), .second, .val (.int p3), .val (.int (p3 &&& (3 : Int32))), .val (.long (own_fix q0)), .second, .unset, .unset, .unset, .unset, .unset, .unset, .unset] [(.long (own_fix q1))])) (fun t_ k_ => st217 _ k_) ?_
    exact K28 _ _ _ _ _ X217 e217q N217 (own_fix_ne _) (own_fix_ne _)
  · refine own_go (B := T216.setTop (mkF m 28 #[.val (.long q0), .second, .val (.long q1), .second, .val (.long q2), .second, .val (.int p3), .val (.int (p3 &&& (3 : Int32))), .val (.long (own_fix q0)), .second, .unset, .unset, .unset, .unset, .unset, .unset, .unset] [(.long (own_fix q0))])) (fun t_ k_ => ?_) ?_
    · show Steps p.tables e below (T216.setTop (mkF m 16 #[.val (.long q0), .second, .val (.long q1), .second, .val (.long q2), .second, .val (.int p3), .val (.int (p3 &&& (3 : Int32))), .val (.long (own_fix q0)), .second, .unset, .unset, .unset, .unset, .unset, .unset, .unset] [(.int (p3 &&& (4 : Int32)))])) _
      refine XS.ifNo X216.here hx rfl (hb hby at_16) rfl ((if0 _ _).trans (feq hc16).1) ?_
      show Steps p.tables e below (T216.setTop (mkF m 19 #[.val (.long q0), .second, .val (.long q1), .second, .val (.long q2), .second, .val (.int p3), .val (.int (p3 &&& (3 : Int32))), .val (.long (own_fix q0)), .second, .unset, .unset, .unset, .unset, .unset, .unset, .unset] [])) _
      refine XS.lload X216.here hx rfl (hb hby at_19) rfl ?_
      show Steps p.tables e below (T216.setTop (mkF m 21 #[.val (.long q0), .second, .val (.long q1), .second, .val (.long q2), .second, .val (.int p3), .val (.int (p3 &&& (3 : Int32))), .val (.long (own_fix q0)), .second, .unset, .unset, .unset, .unset, .unset, .unset, .unset] [(.long (own_fix q0))])) _
      refine XS.goto X216.here hx rfl (pc0 := 21) (pc' := 28) rfl (hb hby at_21) (by decide) (by decide) ?_
      show Steps p.tables e below (T216.setTop (mkF m 28 #[.val (.long q0), .second, .val (.long q1), .second, .val (.long q2), .second, .val (.int p3), .val (.int (p3 &&& (3 : Int32))), .val (.long (own_fix q0)), .second, .unset, .unset, .unset, .unset, .unset, .unset, .unset] [(.long (own_fix q0))])) _
      exact k_
    exact K28 _ _ _ _ _ X216 e216q N216 (own_fix_ne _) (own_fix_ne _)
set_option maxRecDepth 65536 in
set_option maxHeartbeats 40000000 in
theorem comes_1 {Post : Tables → Env → Array Value → State → Outcome → State → Prop} (hpost : ∀ tb e args s v u, (limb_1_1.after args s (.returned v) u = true ∧ limb_1_2.after args s (.returned v) u = true ∧ True) → FrameEnd s (.returned v) u (Jvm.fieldLocs frame_1_writes args s ++ Jvm.arrayLocs frame_1_arrays args s ++ Jvm.staticLocs frame_1_statics s) 16 4224 → Post tb e args s (.returned v) u) :
    ArmFor flags0 classFile x code maxLocals ret World_1 tables_1 room_1 Calls_1 rest_1 Pre_1 Post := by
  intro l hfl _ _ p e ha hc hk s m args below hf hA hF happ hP
  obtain ⟨hcalls, hrest, hpre⟩ := hP
  obtain ⟨-, -, -, hnamed, -, -, -, hat⟩ := (Spec.applies_iff hf).mp happ
  obtain ⟨hg, hn⟩ := and_e (Cond.before_iff.mp (show (Jvm.Cond.and given_1 narrow_1).before args s = true from hpre))
  obtain ⟨hcnt, gs0⟩ := and_e hg
  obtain ⟨ga0, gs1⟩ := and_e gs0
  obtain ⟨ga1, gs2⟩ := and_e gs1
  obtain ⟨ga2, gs3⟩ := and_e gs2
  obtain ⟨w0, w1, w2, w3, rfl⟩ : ∃ w0 w1 w2 w3 : Value, args = #[w0, w1, w2, w3] := by
    have hs : args.size = 4 := by simpa [Cond.value, given_1] using hcnt
    obtain ⟨L⟩ := args
    match L, hs with
    | [w0, w1, w2, w3], _ => exact ⟨w0, w1, w2, w3, rfl⟩
  have hw := fun d (hd : d ∈ tables_1) => atoms_spec (ws := Jvm.Cond.code x code maxLocals ret :: tables_1) hat d (List.mem_cons_of_mem _ hd)
  have hfit : Fit s := fun {y c} hc i hi => by
    obtain ⟨ha, rfl⟩ := Array.getElem?_eq_some_iff.mp hc
    have q := List.all_eq_true.mp ((Array.all_eq_true_iff_forall_mem.mp hF) _ (Array.getElem_mem ha)) i (List.mem_range.mpr hi)
    simpa [Array.getElem?_eq_getElem hi] using q
  obtain ⟨i0, ei0⟩ := isL_v ga0
  obtain rfl : w0 = (.long i0) := Option.some.inj ei0
  obtain ⟨i1, ei1⟩ := isL_v ga1
  obtain rfl : w1 = (.long i1) := Option.some.inj ei1
  obtain ⟨i2, ei2⟩ := isL_v ga2
  obtain rfl : w2 = (.long i2) := Option.some.inj ei2
  obtain ⟨i3, ei3⟩ := is_v gs3
  obtain rfl : w3 = (.int i3) := Option.some.inj ei3
  obtain ⟨n, o, h1, h2, h3, _, L, rfl, ⟨rfl, N⟩, hq⟩ := rm0 l s _ hw tables_1 i0 i1 i2 i3 s.heap s.heap.size (Nat.le_refl _)  p e ha hc hk s m _ below hf ((Spec.applies_iff_loose hf).mp happ).1 ⟨rfl, State.Warmed39.refl s, rfl⟩ trivial
  refine ⟨n, _, h1, h2, h3, hpost _ _ _ _ _ _ ⟨Cond.after_iff.mpr rfl, Cond.after_iff.mpr (eq_i res_at (Term.int_eval (1)) rfl), trivial⟩ ⟨hq.1, hq.2.1, (hq.2.2.sift fun y hy => Or.inr (N y hy)).mono (by decide) (by decide)⟩⟩
theorem main_1_1 : Claimed_1_1 := comes_1 fun _ _ _ _ _ _ h hF => ⟨h.1, hF⟩
theorem main_1_2 : Claimed_1_2 := comes_1 fun _ _ _ _ _ _ h hF => ⟨h.2.1, hF⟩
end Jvm.Pilot.@@N@@
namespace Jvm.Pilot.@@N@@
open Jvm Jvm.ClassFile Sem Op Lib Jvm.Free Jvm.Stand Jvm.Pilot.@@N@@.Jvm.D
/-! MADE BY PROGRAM (witnessworld.py) out of the Statement's table words and the real class files: 17 classes; the members and pool entries that the words name. The judged class is class 1, her method 3. -/
namespace start1
open Jvm.ClassFile
def u (s : String) : CpInfo := .utf8 (stringToUtf16 s)
/-- a pool by its gaps: so many unusable entries, then the entry; so many at the end -/
def gap : Nat → List CpInfo → List CpInfo
  | 0, r => r
  | n + 1, r => .unusable :: gap n r
def poolList (es : List (Nat × CpInfo)) (last : Nat) : List CpInfo := es.foldr (fun e r => gap e.1 (e.2 :: r)) (gap last [])
def pool (es : List (Nat × CpInfo)) (last : Nat) : Array CpInfo := ⟨poolList es last⟩
def fileOf (pool : Array CpInfo) (this : Nat) (attrs : Array Attribute := #[]) (ms : Array MethodInfo := #[]) (fl : Nat := 33) (sup : Nat := 0) (ifs : Array Nat := #[]) (fds : Array FieldInfo := #[]) : ClassFile where
  minorVersion := 0
  majorVersion := 65
  constantPool := pool
  accessFlags := fl
  thisClass := this
  superClass := sup
  interfaces := ifs
  fields := fds
  methods := ms
  attributes := attrs
def plain (name : String) (sup : Option ClassId) : Class where
  name := name
  kind := .ordinary
  loader := none
  accessFlags := 33
  super := sup
  interfaces := #[]
  cf := none
  fields := #[]
  methods := #[]
  instanceTypes := #[]
  staticTypes := #[]
  resolved := #[]
  callSites := []
  init := .initialized
  statics := none
  mirror := none

def pool0 : Array CpInfo := pool [(5, u "<init>"), (0, u "()V"), (1, .class_ 10), (1, u "java/lang/Object")] 113

def k0c0 : Code := { maxStack := 0, maxLocals := 1, code := object_method_1_code, exceptionTable := #[], attributes := #[] }
def k0m0 : Method := { name := "<init>", desc := "()V", sig := { parameters := [], returnType := none }, accessFlags := 1, code := some k0c0 }
/-- java/lang/Object -/
def k0 : Class := { plain "java/lang/Object" none with
  accessFlags := 33
  interfaces := #[]
  cf := some (fileOf pool0 8 #[] #[{ accessFlags := 1, nameIndex := 5, descriptorIndex := 6, attributes := #[] }] 33 0 #[] #[])
  fields := #[]
  methods := #[k0m0]
  instanceTypes := #[]
  staticTypes := #[]
  resolved := Array.replicate 124 none
  statics := none }

def pool1 : Array CpInfo := pool [(2, .class_ 4), (0, .nameAndType 5 6), (0, u "java/lang/Object"), (0, u "<init>"), (0, u "()V"), (0, .long 18446744073709551615), (1, .methodref 10 11), (0, .class_ 12), (0, .nameAndType 13 14), (0, u "com/example/prudent_annotator/prudentannotator/profile/PairCountsKeysPinLaw"), (0, u "fix"), (0, u "(J)J"), (0, .class_ 16), (0, u "com/example/prudent_annotator/prudentannotator/profile/PairCounts"), (0, .methodref 15 3), (0, .methodref 15 19), (0, .nameAndType 20 21), (0, u "increment"), (0, u "(J)V"), (0, .methodref 15 23), (0, .nameAndType 24 25), (0, u "keys"), (0, u "()[J"), (0, .methodref 10 27), (0, .nameAndType 28 29), (0, u "has"), (0, u "([JJ)Z"), (3, u "law"), (0, u "(JJJI)Z")] 4

def k1m0 : Method := { name := "<init>", desc := "()V", sig := { parameters := [], returnType := none }, accessFlags := 2, code := none }
def k1c1 : Code := { maxStack := 4, maxLocals := 2, code := method_2_code, exceptionTable := #[], attributes := #[] }
def k1m1 : Method := { name := "fix", desc := "(J)J", sig := { parameters := [.long], returnType := some .long }, accessFlags := 10, code := some k1c1 }
def k1c2 : Code := { maxStack := 4, maxLocals := 4, code := method_3_code, exceptionTable := #[], attributes := #[] }
def k1m2 : Method := { name := "has", desc := "([JJ)Z", sig := { parameters := [(.array .long), .long], returnType := some .boolean }, accessFlags := 10, code := some k1c2 }
def k1c3 : Code := { maxStack := 4, maxLocals := 17, code := code, exceptionTable := #[], attributes := #[] }
def k1m3 : Method := { name := "law", desc := "(JJJI)Z", sig := { parameters := [.long, .long, .long, .int], returnType := some .boolean }, accessFlags := 9, code := some k1c3 }
/-- com/example/prudent_annotator/prudentannotator/profile/PairCountsKeysPinLaw -/
def k1 : Class := { plain "com/example/prudent_annotator/prudentannotator/profile/PairCountsKeysPinLaw" (some 0) with
  accessFlags := 49
  interfaces := #[]
  cf := some (fileOf pool1 10 #[] #[{ accessFlags := 2, nameIndex := 5, descriptorIndex := 6, attributes := #[] }, { accessFlags := 10, nameIndex := 13, descriptorIndex := 14, attributes := #[] }, { accessFlags := 10, nameIndex := 28, descriptorIndex := 29, attributes := #[] }, { accessFlags := 9, nameIndex := 33, descriptorIndex := 34, attributes := #[] }] 49 2 #[] #[])
  fields := #[]
  methods := #[k1m0, k1m1, k1m2, k1m3]
  instanceTypes := #[]
  staticTypes := #[]
  resolved := Array.replicate 39 none
  statics := none }

def pool2 : Array CpInfo := pool [(1, .methodref 2 3), (0, .class_ 4), (0, .nameAndType 5 6), (0, u "java/lang/Object"), (0, u "<init>"), (0, u "()V"), (0, .class_ 8), (0, u "com/example/prudent_annotator/prudentannotator/profile/PairCounts"), (0, .methodref 7 10), (0, .nameAndType 11 12), (0, u "newKeys"), (0, u "(I)[J"), (0, .fieldref 7 14), (0, .nameAndType 15 16), (0, u "keys"), (0, u "[J"), (0, .fieldref 7 18), (0, .nameAndType 19 20), (0, u "counts"), (0, u "[I"), (0, .class_ 22), (0, u "java/lang/Integer"), (0, .methodref 7 24), (0, .nameAndType 25 26), (0, u "slot"), (0, u "([JJ)I"), (0, .long 18446744073709551615), (1, .fieldref 7 30), (0, .nameAndType 31 32), (0, u "size"), (0, u "I"), (0, .integer 2147483647), (16, .long 8), (1, .long 5), (4, .long 11400714819323198485), (3, .methodref 21 62), (0, .nameAndType 63 64), (0, u "numberOfTrailingZeros"), (0, u "(I)I"), (0, .methodref 66 67), (0, .class_ 68), (0, .nameAndType 69 70), (0, u "java/util/Arrays"), (0, u "fill"), (0, u "([JJ)V"), (0, u "EMPTY"), (0, u "J"), (1, u "INITIAL_CAPACITY"), (1, u "MAX_LOAD_EIGHTHS"), (1, u "SPREAD"), (4, u "increment"), (0, u "(J)V"), (2, u "()[J")] 19

def k2c0 : Code := { maxStack := 2, maxLocals := 1, code := prog_54_method_1_code, exceptionTable := #[], attributes := #[] }
def k2m0 : Method := { name := "<init>", desc := "()V", sig := { parameters := [], returnType := none }, accessFlags := 0, code := some k2c0 }
def k2c1 : Code := { maxStack := 6, maxLocals := 4, code := prog_54_method_5_code, exceptionTable := #[], attributes := #[] }
def k2m1 : Method := { name := "increment", desc := "(J)V", sig := { parameters := [.long], returnType := none }, accessFlags := 0, code := some k2c1 }
def k2c2 : Code := { maxStack := 4, maxLocals := 8, code := prog_54_method_7_code, exceptionTable := #[], attributes := #[] }
def k2m2 : Method := { name := "keys", desc := "()[J", sig := { parameters := [], returnType := some (.array .long) }, accessFlags := 0, code := some k2c2 }
def k2c3 : Code := { maxStack := 4, maxLocals := 5, code := prog_54_method_9_code, exceptionTable := #[], attributes := #[] }
def k2m3 : Method := { name := "slot", desc := "([JJ)I", sig := { parameters := [(.array .long), .long], returnType := some .int }, accessFlags := 10, code := some k2c3 }
def k2c4 : Code := { maxStack := 3, maxLocals := 2, code := prog_54_method_10_code, exceptionTable := #[], attributes := #[] }
def k2m4 : Method := { name := "newKeys", desc := "(I)[J", sig := { parameters := [.int], returnType := some (.array .long) }, accessFlags := 10, code := some k2c4 }
/-- com/example/prudent_annotator/prudentannotator/profile/PairCounts -/
def k2 : Class := { plain "com/example/prudent_annotator/prudentannotator/profile/PairCounts" (some 0) with
  accessFlags := 48
  interfaces := #[]
  cf := some (fileOf pool2 7 #[] #[{ accessFlags := 0, nameIndex := 5, descriptorIndex := 6, attributes := #[] }, { accessFlags := 0, nameIndex := 83, descriptorIndex := 84, attributes := #[] }, { accessFlags := 0, nameIndex := 15, descriptorIndex := 87, attributes := #[] }, { accessFlags := 10, nameIndex := 25, descriptorIndex := 26, attributes := #[] }, { accessFlags := 10, nameIndex := 11, descriptorIndex := 12, attributes := #[] }] 48 2 #[] #[{ accessFlags := 26, nameIndex := 71, descriptorIndex := 72, attributes := #[] }, { accessFlags := 26, nameIndex := 74, descriptorIndex := 32, attributes := #[] }, { accessFlags := 26, nameIndex := 76, descriptorIndex := 32, attributes := #[] }, { accessFlags := 26, nameIndex := 78, descriptorIndex := 72, attributes := #[] }, { accessFlags := 2, nameIndex := 15, descriptorIndex := 16, attributes := #[] }, { accessFlags := 2, nameIndex := 19, descriptorIndex := 20, attributes := #[] }, { accessFlags := 2, nameIndex := 31, descriptorIndex := 32, attributes := #[] }])
  fields := #[{ name := "EMPTY", type := .long, accessFlags := 26, slot := 0, constantValue := 0 }, { name := "INITIAL_CAPACITY", type := .int, accessFlags := 26, slot := 1, constantValue := 0 }, { name := "MAX_LOAD_EIGHTHS", type := .int, accessFlags := 26, slot := 2, constantValue := 0 }, { name := "SPREAD", type := .long, accessFlags := 26, slot := 3, constantValue := 0 }, { name := "keys", type := (.array .long), accessFlags := 2, slot := 0, constantValue := 0 }, { name := "counts", type := (.array .int), accessFlags := 2, slot := 1, constantValue := 0 }, { name := "size", type := .int, accessFlags := 2, slot := 2, constantValue := 0 }]
  methods := #[k2m0, k2m1, k2m2, k2m3, k2m4]
  instanceTypes := #[(.array .long), (.array .int), .int]
  staticTypes := #[.long, .int, .int, .long]
  resolved := Array.replicate 107 none
  statics := none }

def pool3 : Array CpInfo := pool [(2, .class_ 4), (1, u "java/lang/Object"), (0, u "<init>"), (0, u "()V"), (7, .class_ 16), (1, u "java/util/Arrays"), (57, .class_ 76), (1, u "java/util/Arrays$NaturalOrder"), (36, .class_ 115), (1, u "java/util/Arrays$LegacyMergeSort"), (1, u "Z"), (257, .class_ 376), (0, u "java/util/Arrays$ArrayList"), (68, u "$assertionsDisabled"), (269, u "MIN_ARRAY_SORT_GRAN"), (0, u "I"), (2, u "INSERTIONSORT_THRESHOLD"), (120, u "fill"), (0, u "([JJ)V"), (133, .class_ 976), (0, u "java/util/Arrays$ArrayItr")] 52

def k3m0 : Method := { name := "<init>", desc := "()V", sig := { parameters := [], returnType := none }, accessFlags := 2, code := none }
def k3c1 : Code := { maxStack := 4, maxLocals := 5, code := jdk_65_method_101_code, exceptionTable := #[], attributes := #[] }
def k3m1 : Method := { name := "fill", desc := "([JJ)V", sig := { parameters := [(.array .long), .long], returnType := none }, accessFlags := 9, code := some k3c1 }
/-- java/util/Arrays -/
def k3 : Class := { plain "java/util/Arrays" (some 0) with
  accessFlags := 49
  interfaces := #[]
  cf := some (fileOf pool3 14 #[.nestMembers #[975, 375, 113, 74]] #[{ accessFlags := 2, nameIndex := 5, descriptorIndex := 6, attributes := #[] }, { accessFlags := 9, nameIndex := 840, descriptorIndex := 841, attributes := #[] }] 49 2 #[] #[{ accessFlags := 26, nameIndex := 715, descriptorIndex := 716, attributes := #[] }, { accessFlags := 26, nameIndex := 719, descriptorIndex := 716, attributes := #[] }, { accessFlags := 4120, nameIndex := 445, descriptorIndex := 117, attributes := #[] }])
  fields := #[{ name := "MIN_ARRAY_SORT_GRAN", type := .int, accessFlags := 26, slot := 0, constantValue := 0 }, { name := "INSERTIONSORT_THRESHOLD", type := .int, accessFlags := 26, slot := 1, constantValue := 0 }, { name := "$assertionsDisabled", type := .boolean, accessFlags := 4120, slot := 2, constantValue := 0 }]
  methods := #[k3m0, k3m1]
  instanceTypes := #[]
  staticTypes := #[.int, .int, .boolean]
  resolved := Array.replicate 1029 none
  statics := none }

def pool4 : Array CpInfo := pool [(1, .class_ 2), (0, u "java/io/Serializable"), (0, .class_ 4), (0, u "java/lang/Object")] 2

/-- java/io/Serializable -/
def k4 : Class := { plain "java/io/Serializable" (some 0) with
  accessFlags := 1537
  interfaces := #[]
  cf := some (fileOf pool4 1 #[] #[] 1537 3 #[] #[])
  fields := #[]
  methods := #[]
  instanceTypes := #[]
  staticTypes := #[]
  resolved := Array.replicate 7 none
  statics := none }

def pool5 : Array CpInfo := pool [(2, .class_ 4), (1, u "java/lang/Object"), (0, u "<init>"), (0, u "()V"), (1, .class_ 10), (1, u "java/lang/Number"), (2, .class_ 14), (0, u "java/io/Serializable"), (0, u "serialVersionUID"), (0, u "J")] 20

def k5m0 : Method := { name := "<init>", desc := "()V", sig := { parameters := [], returnType := none }, accessFlags := 1, code := none }
/-- java/lang/Number -/
def k5 : Class := { plain "java/lang/Number" (some 0) with
  accessFlags := 1057
  interfaces := #[4]
  cf := some (fileOf pool5 8 #[] #[{ accessFlags := 1, nameIndex := 5, descriptorIndex := 6, attributes := #[] }] 1057 2 #[13] #[{ accessFlags := 26, nameIndex := 15, descriptorIndex := 16, attributes := #[] }])
  fields := #[{ name := "serialVersionUID", type := .long, accessFlags := 26, slot := 0, constantValue := 0 }]
  methods := #[k5m0]
  instanceTypes := #[]
  staticTypes := #[.long]
  resolved := Array.replicate 37 none
  statics := none }

def pool6 : Array CpInfo := pool [(1, .class_ 2), (0, u "java/lang/Comparable"), (0, .class_ 4), (0, u "java/lang/Object")] 7

/-- java/lang/Comparable -/
def k6 : Class := { plain "java/lang/Comparable" (some 0) with
  accessFlags := 1537
  interfaces := #[]
  cf := some (fileOf pool6 1 #[] #[] 1537 3 #[] #[])
  fields := #[]
  methods := #[]
  instanceTypes := #[]
  staticTypes := #[]
  resolved := Array.replicate 12 none
  statics := none }

def pool7 : Array CpInfo := pool [(1, .class_ 2), (0, u "java/lang/constant/Constable"), (0, .class_ 4), (0, u "java/lang/Object")] 6

/-- java/lang/constant/Constable -/
def k7 : Class := { plain "java/lang/constant/Constable" (some 0) with
  accessFlags := 1537
  interfaces := #[]
  cf := some (fileOf pool7 1 #[] #[] 1537 3 #[] #[])
  fields := #[]
  methods := #[]
  instanceTypes := #[]
  staticTypes := #[]
  resolved := Array.replicate 11 none
  statics := none }

def pool8 : Array CpInfo := pool [(1, .class_ 2), (0, u "java/lang/constant/ConstantDesc"), (0, .class_ 4), (0, u "java/lang/Object")] 32

/-- java/lang/constant/ConstantDesc -/
def k8 : Class := { plain "java/lang/constant/ConstantDesc" (some 0) with
  accessFlags := 1537
  interfaces := #[]
  cf := some (fileOf pool8 1 #[] #[] 1537 3 #[] #[])
  fields := #[]
  methods := #[]
  instanceTypes := #[]
  staticTypes := #[]
  resolved := Array.replicate 37 none
  statics := none }

def pool9 : Array CpInfo := pool [(1, .class_ 2), (0, u "java/lang/Integer"), (16, u "digits"), (0, u "[C"), (33, u "(I)I"), (30, u "DigitOnes"), (0, u "[B"), (2, u "DigitTens"), (99, .class_ 190), (0, u "java/lang/Integer$IntegerCache"), (3, u "I"), (8, .class_ 204), (0, u "java/lang/Number"), (2, u "value"), (56, .integer 65536), (37, u "TYPE"), (0, u "Ljava/lang/Class;"), (0, .class_ 305), (0, u "java/lang/Comparable"), (0, .class_ 307), (0, u "java/lang/constant/Constable"), (0, .class_ 309), (0, u "java/lang/constant/ConstantDesc"), (0, u "MIN_VALUE"), (1, u "MAX_VALUE"), (3, u "SIZE"), (1, u "BYTES"), (1, u "serialVersionUID"), (0, u "J"), (84, u "numberOfTrailingZeros")] 46

def k9c0 : Code := { maxStack := 3, maxLocals := 2, code := jdk_33_method_48_code, exceptionTable := #[], attributes := #[] }
def k9m0 : Method := { name := "numberOfTrailingZeros", desc := "(I)I", sig := { parameters := [.int], returnType := some .int }, accessFlags := 9, code := some k9c0 }
/-- java/lang/Integer -/
def k9 : Class := { plain "java/lang/Integer" (some 5) with
  accessFlags := 49
  interfaces := #[6, 7, 8]
  cf := some (fileOf pool9 1 #[.nestMembers #[189]] #[{ accessFlags := 9, nameIndex := 406, descriptorIndex := 54, attributes := #[] }] 49 203 #[304, 306, 308] #[{ accessFlags := 25, nameIndex := 310, descriptorIndex := 194, attributes := #[] }, { accessFlags := 25, nameIndex := 312, descriptorIndex := 194, attributes := #[] }, { accessFlags := 25, nameIndex := 302, descriptorIndex := 303, attributes := #[] }, { accessFlags := 24, nameIndex := 19, descriptorIndex := 20, attributes := #[] }, { accessFlags := 24, nameIndex := 89, descriptorIndex := 86, attributes := #[] }, { accessFlags := 24, nameIndex := 85, descriptorIndex := 86, attributes := #[] }, { accessFlags := 18, nameIndex := 207, descriptorIndex := 194, attributes := #[] }, { accessFlags := 25, nameIndex := 316, descriptorIndex := 194, attributes := #[] }, { accessFlags := 25, nameIndex := 318, descriptorIndex := 194, attributes := #[] }, { accessFlags := 26, nameIndex := 320, descriptorIndex := 321, attributes := #[] }])
  fields := #[{ name := "MIN_VALUE", type := .int, accessFlags := 25, slot := 0, constantValue := 0 }, { name := "MAX_VALUE", type := .int, accessFlags := 25, slot := 1, constantValue := 0 }, { name := "TYPE", type := (.object "java/lang/Class"), accessFlags := 25, slot := 2, constantValue := 0 }, { name := "digits", type := (.array .char), accessFlags := 24, slot := 3, constantValue := 0 }, { name := "DigitTens", type := (.array .byte), accessFlags := 24, slot := 4, constantValue := 0 }, { name := "DigitOnes", type := (.array .byte), accessFlags := 24, slot := 5, constantValue := 0 }, { name := "value", type := .int, accessFlags := 18, slot := 0, constantValue := 0 }, { name := "SIZE", type := .int, accessFlags := 25, slot := 6, constantValue := 0 }, { name := "BYTES", type := .int, accessFlags := 25, slot := 7, constantValue := 0 }, { name := "serialVersionUID", type := .long, accessFlags := 26, slot := 8, constantValue := 0 }]
  methods := #[k9m0]
  instanceTypes := #[.int]
  staticTypes := #[.int, .int, (.object "java/lang/Class"), (.array .char), (.array .byte), (.array .byte), .int, .int, .long]
  resolved := Array.replicate 453 none
  statics := none }

def pool10 : Array CpInfo := pool [(1, u "java/lang/Cloneable"), (0, .class_ 1), (0, u "java/lang/Object"), (0, .class_ 3)] 3

/-- java/lang/Cloneable -/
def k10 : Class := { plain "java/lang/Cloneable" (some 0) with
  accessFlags := 1537
  interfaces := #[]
  cf := some (fileOf pool10 2 #[] #[] 1537 4 #[] #[])
  fields := #[]
  methods := #[]
  instanceTypes := #[]
  staticTypes := #[]
  resolved := Array.replicate 8 none
  statics := none }

/-- the primitive byte -/
def k11 : Class := { plain "byte" none with kind := .primitive 'B', accessFlags := 0x411 }
/-- [B -/
def k12 : Class := { plain "[B" (some 0) with kind := .array 11 .byte, interfaces := #[10, 4], accessFlags := 1041 }

/-- the primitive int -/
def k13 : Class := { plain "int" none with kind := .primitive 'I', accessFlags := 0x411 }
/-- [I -/
def k14 : Class := { plain "[I" (some 0) with kind := .array 13 .int, interfaces := #[10, 4], accessFlags := 1041 }

/-- the primitive long -/
def k15 : Class := { plain "long" none with kind := .primitive 'J', accessFlags := 0x411 }
/-- [J -/
def k16 : Class := { plain "[J" (some 0) with kind := .array 15 .long, interfaces := #[10, 4], accessFlags := 1041 }

def heap : Heap := #[]
def classes : Array Class := #[k0, k1, k2, k3, k4, k5, k6, k7, k8, k9, k10, k11, k12, k13, k14, k15, k16]
def interned : List (Array UInt16 × Addr) := []
def slotsUsed : Nat := 0
def theMethod : MethodId := ⟨1, 3⟩
def args0 : Array Value := #[.long 5, .long 6, .long 7, .int 3]
def aboutOver (below : List Frame) : State where
  vm := { classes := classes, interned := interned.toArray }
  heap := heap
  slotsUsed := slotsUsed
  threads := #[{ frames := .invoking theMethod args0 :: below }]
def below0 : List Frame := [.native { method := ⟨0, 0⟩, args := #[] }]
def about1 : State := aboutOver below0
def p0 : Program := .bare "" "" ""
def e0 : Env := launch0.env 0 0 0
theorem w_frames : about1.frames = Frame.invoking theMethod args0 :: below0 := rfl
set_option maxRecDepth 65536 in
theorem w_args : argsFit about1.vm theMethod args0 = true := by decide +kernel
set_option maxRecDepth 65536 in
theorem w_heap : heapFits about1 = true := by decide +kernel
set_option maxRecDepth 65536 in
theorem w_runnable : about1.curStatus? = some .runnable := by decide +kernel
set_option maxRecDepth 65536 in
theorem w_alone : about1.alone = true := by decide +kernel
set_option maxRecDepth 65536 in
theorem w_named : about1.methodNamed? x = some theMethod := by decide +kernel
set_option maxRecDepth 65536 in
theorem w_hears : about1.hears theMethod below0 = true := by decide +kernel
set_option maxRecDepth 65536 in
theorem w_ripe : about1.ripe theMethod args0 below0 = true := by decide +kernel
theorem w_running : about1.status = .running := rfl
set_option maxRecDepth 65536 in
theorem w_room : about1.hasRoom e0.platform room_1 = true :=
  launch0.hasRoom_least _ room_1 (by decide +kernel) (by decide +kernel) (by decide +kernel) (by decide +kernel) (by decide +kernel) (by decide +kernel)
theorem allAtoms_all (ts : List Jvm.Cond) (a : Array Jvm.Value) (st : Jvm.State) : (allAtoms ts).before a st = ts.all (fun c => c.before a st) := by
  induction ts with
  | nil => rfl
  | cons c t ih =>
    show (Jvm.Cond.and c (allAtoms t)).before a st = _
    rw [Jvm.Cond.before_and, ih, List.all_cons]
def words1 : List Jvm.Cond := Jvm.Cond.code x code maxLocals ret :: tables_1
/-- a 'code' word, met by the world's own term for the bytes: nothing is compared byte by byte -/
theorem code_word {y : MethodName} {bytes : ByteArray} {mx : Nat} {rt : Option FieldType} {a : Array Value} {s : State} {m : MethodId} {meth : Method} {c : Code} (h1 : s.methodNamed? y = some m) (h2 : s.vm.method? m = some meth) (h3 : meth.code = some c) (h4 : c.code = bytes)
    (h5 : (c.maxLocals == mx && c.exceptionTable.isEmpty && decide (c.maxStack ≤ mostOperands) && decide (meth.sig.returnType = rt) && !meth.locks && decide (parseMethodDescriptor y.desc = some meth.sig)) = true) : (Jvm.Cond.code y bytes mx rt).before a s = true := by
  simp only [Bool.and_eq_true, beq_iff_eq, Bool.not_eq_true', decide_eq_true_eq] at h5
  obtain ⟨⟨⟨⟨⟨g1, g2⟩, g3⟩, g4⟩, g5⟩, g6⟩ := h5
  simp [Cond.before, Cond.holds, Cond.value, h1, h2, h3, h4, g1, g2, g3, g4, g5, g6]
def isCode : Jvm.Cond → Bool
  | .code _ _ _ _ => true
  | _ => false
theorem all_split {L : List Jvm.Cond} {P : Jvm.Cond → Bool} (h1 : L.all (fun c => isCode c || P c) = true) (h2 : ∀ c ∈ L.filter isCode, P c = true) : L.all P = true := by
  refine List.all_eq_true.mpr fun c hc => ?_
  have h := List.all_eq_true.mp h1 c hc
  rcases Bool.eq_false_or_eq_true (isCode c) with hi | hi
  · exact h2 c (List.mem_filter.mpr ⟨hc, hi⟩)
  · simpa [hi] using h
set_option maxRecDepth 65536 in
theorem w_c0 : (Jvm.Cond.code x code maxLocals ret).before args0 about1 = true := code_word (m := ⟨1, 3⟩) (meth := k1m3) (c := k1c3) (by decide +kernel) rfl rfl rfl (by decide +kernel)
set_option maxRecDepth 65536 in
theorem w_c1 : (Jvm.Cond.code ({ cls := "com/example/prudent_annotator/prudentannotator/profile/PairCountsKeysPinLaw", name := "fix", desc := "(J)J" } : Jvm.MethodName) method_2_code (2 : Nat) (Option.some Jvm.ClassFile.FieldType.long)).before args0 about1 = true := code_word (m := ⟨1, 1⟩) (meth := k1m1) (c := k1c1) (by decide +kernel) rfl rfl rfl (by decide +kernel)
set_option maxRecDepth 65536 in
theorem w_c2 : (Jvm.Cond.code ({ cls := "com/example/prudent_annotator/prudentannotator/profile/PairCounts", name := "<init>", desc := "()V" } : Jvm.MethodName) prog_54_method_1_code (1 : Nat) (Option.none : Option Jvm.ClassFile.FieldType)).before args0 about1 = true := code_word (m := ⟨2, 0⟩) (meth := k2m0) (c := k2c0) (by decide +kernel) rfl rfl rfl (by decide +kernel)
set_option maxRecDepth 65536 in
theorem w_c3 : (Jvm.Cond.code ({ cls := "java/lang/Object", name := "<init>", desc := "()V" } : Jvm.MethodName) object_method_1_code (1 : Nat) (Option.none : Option Jvm.ClassFile.FieldType)).before args0 about1 = true := code_word (m := ⟨0, 0⟩) (meth := k0m0) (c := k0c0) (by decide +kernel) rfl rfl rfl (by decide +kernel)
set_option maxRecDepth 65536 in
theorem w_c4 : (Jvm.Cond.code ({ cls := "com/example/prudent_annotator/prudentannotator/profile/PairCounts", name := "newKeys", desc := "(I)[J" } : Jvm.MethodName) prog_54_method_10_code (2 : Nat) (Option.some (Jvm.ClassFile.FieldType.array Jvm.ClassFile.FieldType.long))).before args0 about1 = true := code_word (m := ⟨2, 4⟩) (meth := k2m4) (c := k2c4) (by decide +kernel) rfl rfl rfl (by decide +kernel)
set_option maxRecDepth 65536 in
theorem w_c5 : (Jvm.Cond.code ({ cls := "java/util/Arrays", name := "fill", desc := "([JJ)V" } : Jvm.MethodName) jdk_65_method_101_code (5 : Nat) (Option.none : Option Jvm.ClassFile.FieldType)).before args0 about1 = true := code_word (m := ⟨3, 1⟩) (meth := k3m1) (c := k3c1) (by decide +kernel) rfl rfl rfl (by decide +kernel)
set_option maxRecDepth 65536 in
theorem w_c6 : (Jvm.Cond.code ({ cls := "com/example/prudent_annotator/prudentannotator/profile/PairCounts", name := "increment", desc := "(J)V" } : Jvm.MethodName) prog_54_method_5_code (4 : Nat) (Option.none : Option Jvm.ClassFile.FieldType)).before args0 about1 = true := code_word (m := ⟨2, 1⟩) (meth := k2m1) (c := k2c1) (by decide +kernel) rfl rfl rfl (by decide +kernel)
set_option maxRecDepth 65536 in
theorem w_c7 : (Jvm.Cond.code ({ cls := "com/example/prudent_annotator/prudentannotator/profile/PairCounts", name := "slot", desc := "([JJ)I" } : Jvm.MethodName) prog_54_method_9_code (5 : Nat) (Option.some Jvm.ClassFile.FieldType.int)).before args0 about1 = true := code_word (m := ⟨2, 3⟩) (meth := k2m3) (c := k2c3) (by decide +kernel) rfl rfl rfl (by decide +kernel)
set_option maxRecDepth 65536 in
theorem w_c8 : (Jvm.Cond.code ({ cls := "java/lang/Integer", name := "numberOfTrailingZeros", desc := "(I)I" } : Jvm.MethodName) jdk_33_method_48_code (2 : Nat) (Option.some Jvm.ClassFile.FieldType.int)).before args0 about1 = true := code_word (m := ⟨9, 0⟩) (meth := k9m0) (c := k9c0) (by decide +kernel) rfl rfl rfl (by decide +kernel)
set_option maxRecDepth 65536 in
theorem w_c9 : (Jvm.Cond.code ({ cls := "com/example/prudent_annotator/prudentannotator/profile/PairCounts", name := "keys", desc := "()[J" } : Jvm.MethodName) prog_54_method_7_code (8 : Nat) (Option.some (Jvm.ClassFile.FieldType.array Jvm.ClassFile.FieldType.long))).before args0 about1 = true := code_word (m := ⟨2, 2⟩) (meth := k2m2) (c := k2c2) (by decide +kernel) rfl rfl rfl (by decide +kernel)
set_option maxRecDepth 65536 in
theorem w_c10 : (Jvm.Cond.code ({ cls := "com/example/prudent_annotator/prudentannotator/profile/PairCountsKeysPinLaw", name := "has", desc := "([JJ)Z" } : Jvm.MethodName) method_3_code (4 : Nat) (Option.some Jvm.ClassFile.FieldType.boolean)).before args0 about1 = true := code_word (m := ⟨1, 2⟩) (meth := k1m2) (c := k1c2) (by decide +kernel) rfl rfl rfl (by decide +kernel)
def codes1 : List Jvm.Cond := [Jvm.Cond.code x code maxLocals ret, Jvm.Cond.code ({ cls := "com/example/prudent_annotator/prudentannotator/profile/PairCountsKeysPinLaw", name := "fix", desc := "(J)J" } : Jvm.MethodName) method_2_code (2 : Nat) (Option.some Jvm.ClassFile.FieldType.long), Jvm.Cond.code ({ cls := "com/example/prudent_annotator/prudentannotator/profile/PairCounts", name := "<init>", desc := "()V" } : Jvm.MethodName) prog_54_method_1_code (1 : Nat) (Option.none : Option Jvm.ClassFile.FieldType), Jvm.Cond.code ({ cls := "java/lang/Object", name := "<init>", desc := "()V" } : Jvm.MethodName) object_method_1_code (1 : Nat) (Option.none : Option Jvm.ClassFile.FieldType), Jvm.Cond.code ({ cls := "com/example/prudent_annotator/prudentannotator/profile/PairCounts", name := "newKeys", desc := "(I)[J" } : Jvm.MethodName) prog_54_method_10_code (2 : Nat) (Option.some (Jvm.ClassFile.FieldType.array Jvm.ClassFile.FieldType.long)), Jvm.Cond.code ({ cls := "java/util/Arrays", name := "fill", desc := "([JJ)V" } : Jvm.MethodName) jdk_65_method_101_code (5 : Nat) (Option.none : Option Jvm.ClassFile.FieldType), Jvm.Cond.code ({ cls := "com/example/prudent_annotator/prudentannotator/profile/PairCounts", name := "increment", desc := "(J)V" } : Jvm.MethodName) prog_54_method_5_code (4 : Nat) (Option.none : Option Jvm.ClassFile.FieldType), Jvm.Cond.code ({ cls := "com/example/prudent_annotator/prudentannotator/profile/PairCounts", name := "slot", desc := "([JJ)I" } : Jvm.MethodName) prog_54_method_9_code (5 : Nat) (Option.some Jvm.ClassFile.FieldType.int), Jvm.Cond.code ({ cls := "java/lang/Integer", name := "numberOfTrailingZeros", desc := "(I)I" } : Jvm.MethodName) jdk_33_method_48_code (2 : Nat) (Option.some Jvm.ClassFile.FieldType.int), Jvm.Cond.code ({ cls := "com/example/prudent_annotator/prudentannotator/profile/PairCounts", name := "keys", desc := "()[J" } : Jvm.MethodName) prog_54_method_7_code (8 : Nat) (Option.some (Jvm.ClassFile.FieldType.array Jvm.ClassFile.FieldType.long)), Jvm.Cond.code ({ cls := "com/example/prudent_annotator/prudentannotator/profile/PairCountsKeysPinLaw", name := "has", desc := "([JJ)Z" } : Jvm.MethodName) method_3_code (4 : Nat) (Option.some Jvm.ClassFile.FieldType.boolean)]
set_option maxRecDepth 65536 in
theorem codes_eq : words1.filter isCode = codes1 := rfl
theorem w_codes : ∀ c ∈ words1.filter isCode, c.before args0 about1 = true := by
  rw [codes_eq]
  intro c hc
  simp only [codes1, List.mem_cons, List.not_mem_nil, or_false] at hc
  rcases hc with rfl | rfl | rfl | rfl | rfl | rfl | rfl | rfl | rfl | rfl | rfl
  · exact w_c0
  · exact w_c1
  · exact w_c2
  · exact w_c3
  · exact w_c4
  · exact w_c5
  · exact w_c6
  · exact w_c7
  · exact w_c8
  · exact w_c9
  · exact w_c10
set_option maxRecDepth 65536 in
theorem w_t1 : (words1.take 24).all (fun c => isCode c || c.before args0 about1) = true := by decide +kernel
set_option maxRecDepth 65536 in
theorem w_t2 : ((words1.drop 24).take 24).all (fun c => isCode c || c.before args0 about1) = true := by decide +kernel
set_option maxRecDepth 65536 in
theorem w_t3 : ((words1.drop 24).drop 24).all (fun c => isCode c || c.before args0 about1) = true := by decide +kernel
theorem w_tables : (allAtoms (Jvm.Cond.code x code maxLocals ret :: tables_1)).before args0 about1 = true := by
  rw [allAtoms_all]
  show words1.all (fun c => c.before args0 about1) = true
  refine all_split ?_ w_codes
  rw [← List.take_append_drop 24 words1, List.all_append, w_t1, ← List.take_append_drop 24 (words1.drop 24), List.all_append, w_t2, w_t3]
  rfl
set_option maxRecDepth 65536 in
theorem w_case : (Jvm.Cond.and given_1 narrow_1).before args0 about1 = true := by decide +kernel
theorem w_applies : (headSpec (Jvm.Cond.code x code maxLocals ret :: tables_1) room_1).applies x e0.platform about1 = true :=
  (Spec.applies_iff w_frames).mpr ⟨w_running, w_runnable, w_alone, w_named, w_hears, w_ripe, w_room, w_tables⟩
theorem atStart : AtStart classFile x code maxLocals ret World_1 tables_1 room_1 Calls_1 rest_1 Pre_1 launch0 p0 e0 about1 theMethod args0 below0 :=
  ⟨lists_1, trivial, launch0.admits_env _ _ _, launch0.least_env, fairChoices_fair.cas, fairChoices_fair.clock, w_frames, w_args, w_heap, w_applies, trivial, trivial, w_case⟩
end start1
theorem witness_1 : WitnessClaimed_1 := ⟨start1.p0, start1.e0, start1.about1, start1.theMethod, start1.args0, start1.below0, start1.atStart⟩
end Jvm.Pilot.@@N@@
