import JvmDerived
import JvmDerived.Pilot.@@N@@Statement
import JvmDerived.Pilot.@@N@@Code
set_option linter.unusedVariables false
set_option linter.unusedSimpArgs false
/- laws to paste: Road.backV, Road.eqW, Road.codOf (cut by pick.py; bodies as the Statement names them) -/
namespace Jvm.Pilot.@@N@@
namespace StrChars
open Jvm Sem ClassFile Op Lib Jvm.Stand Jvm.Free.XT Jvm.Free.ALB Jvm.Free.JM Jvm.Free
open Jvm.Lib.Cold (StaticIs)
/-- a char array whose places are chars -/
def Ch (a : Addr) (A : Cell) (U : State) : Prop := Arr .char a A U ∧ Typed .char A
theorem Ch.mv {a : Addr} {A : Cell} {U U' : State} (h : Ch a A U) (hal : U.vm.Alike U'.vm) (hh : U'.heap = U.heap) : Ch a A U' := ⟨h.1.mv hal hh, h.2⟩
theorem Ch.keep {a : Addr} {A : Cell} {U U' : State} (h : Ch a A U) (hal : U.vm.Alike U'.vm) (hk : U'.heap[a]? = some A) : Ch a A U' := ⟨h.1.keep hal hk, h.2⟩
/-- what place i of a char[]'s cell holds -/
def cv (A : Cell) (i : Nat) : Int32 := match A.slots[i]? with | some (.int x) => x | _ => 0
theorem Ch.get {a : Addr} {A : Cell} {U : State} (h : Ch a A U) {i : Nat} (hi : i < A.slots.size) : A.slots[i]? = some (.int (cv A i)) := by
  have e := Array.getElem?_eq_getElem hi
  have f := h.2 i _ e
  unfold cv; rw [e]
  generalize A.slots[i] = v at f
  cases v <;> simp [fits] at f ⊢
/-- the byte that i2b leaves of a char -/
def lo8 (x : Int32) : Int32 := x.toInt8.toInt32
theorem fits_lo8 (y : Int32) : fits .byte (.int (lo8 y)) = true := by
  have h1 := y.toInt8.le_toInt
  have h2 := y.toInt8.toInt_lt
  simp only [lo8, fits, Bool.and_eq_true, decide_eq_true_eq, Int32.le_iff_toInt_le, Int8.toInt_toInt32, show (-128 : Int32).toInt = -128 from by decide, show (127 : Int32).toInt = 127 from by decide]
  omega
/-- A' is A but that each place j of lo .. hi - 1 holds f j -/
def Laid (A A' : Cell) (lo hi : Nat) (f : Nat → Value) : Prop := A'.cls = A.cls ∧ A'.vm = A.vm ∧ A'.slots.size = A.slots.size ∧ ∀ i, A'.slots[i]? = if lo ≤ i ∧ i < hi then some (f i) else A.slots[i]?
theorem Laid.zero (A : Cell) (lo : Nat) (f : Nat → Value) : Laid A A lo (lo + 0) f := ⟨rfl, rfl, rfl, fun i => by rw [if_neg (by omega)]⟩
theorem Laid.step {A Ak : Cell} {lo k : Nat} {f : Nat → Value} {v : Value} (h : Laid A Ak lo k f) (hlo : lo ≤ k) (hk : k < Ak.slots.size) (hv : v = f k) : Laid A (Ak.setSlot k v) lo (k + 1) f := by
  refine ⟨h.1, h.2.1, by simpa [Cell.setSlot] using h.2.2.1, fun i => ?_⟩
  by_cases e : k = i
  · subst e; rw [Cell.slots_setSlot_self v hk, if_pos (by omega), hv]
  · rw [Cell.slots_setSlot_ne v e, h.2.2.2 i]
    by_cases q : lo ≤ i ∧ i < k
    · rw [if_pos q, if_pos (by omega)]
    · rw [if_neg q, if_neg (by omega)]
def U16 : String := "java/lang/StringUTF16"
namespace Cmp5
def yN : MethodName := ⟨"java/lang/StringUTF16", "compress", "([CI[BII)I"⟩
abbrev yB : ByteArray := jdk_52_method_21_code
theorem d0 : decode yB 0 = .ok (.iconst 0, 1) := by decide +kernel
theorem d1 : decode yB 1 = .ok (.istore 5, 2) := by decide +kernel
theorem d3 : decode yB 3 = .ok (.iload 5, 2) := by decide +kernel
theorem d5 : decode yB 5 = .ok (.iload 4, 2) := by decide +kernel
theorem d7 : decode yB 7 = .ok (.if_icmp (.ge) 37, 3) := by decide +kernel
theorem d10 : decode yB 10 = .ok (.aload_n 0, 1) := by decide +kernel
theorem d11 : decode yB 11 = .ok (.iload_n 1, 1) := by decide +kernel
theorem d12 : decode yB 12 = .ok (.caload, 1) := by decide +kernel
theorem d13 : decode yB 13 = .ok (.istore 6, 2) := by decide +kernel
theorem d15 : decode yB 15 = .ok (.iload 6, 2) := by decide +kernel
theorem d17 : decode yB 17 = .ok (.sipush 255, 3) := by decide +kernel
theorem d20 : decode yB 20 = .ok (.if_icmp (.le) 6, 3) := by decide +kernel
theorem d26 : decode yB 26 = .ok (.aload_n 2, 1) := by decide +kernel
theorem d27 : decode yB 27 = .ok (.iload_n 3, 1) := by decide +kernel
theorem d28 : decode yB 28 = .ok (.iload 6, 2) := by decide +kernel
theorem d30 : decode yB 30 = .ok (.i2b, 1) := by decide +kernel
theorem d31 : decode yB 31 = .ok (.bastore, 1) := by decide +kernel
theorem d32 : decode yB 32 = .ok (.iinc 1 1, 3) := by decide +kernel
theorem d35 : decode yB 35 = .ok (.iinc 3 1, 3) := by decide +kernel
theorem d38 : decode yB 38 = .ok (.iinc 5 1, 3) := by decide +kernel
theorem d41 : decode yB 41 = .ok (.goto (-38), 3) := by decide +kernel
theorem d44 : decode yB 44 = .ok (.iload 4, 2) := by decide +kernel
theorem d46 : decode yB 46 = .ok (.ireturn, 1) := by decide +kernel
def site : List Cond := []
def tab : Cond := tabOf yN yB 7 (some .int) site
def P (b : Addr) (A : Cell) (d : Addr) (B : Cell) (o q len : Nat) (args : Array Value) (s : State) : Prop := args = #[.ref b, .int (Int32.ofNat o), .ref d, .int (Int32.ofNat q), .int (Int32.ofNat len)] ∧ Ch b A s ∧ Arr .byte d B s ∧ b ≠ d ∧ o + len ≤ A.slots.size ∧ q + len ≤ B.slots.size ∧ ∀ i, i < len → ¬ 255 < cv A (o + i)
def E (b : Addr) (A : Cell) (d : Addr) (B : Cell) (o q len : Nat) (r : Option Value) (s u : State) : Prop := r = some (.int (Int32.ofNat len)) ∧ ∃ B', Put d B' s u ∧ Laid B B' q (q + len) (fun j => Value.int (lo8 (cv A (o + (j - q)))))
/-- no char of the range above 255: len; the places written hold each char's low byte -/
theorem law (l : Launch) (b : Addr) (A : Cell) (d : Addr) (B : Cell) (o q len : Nat) : Law l yN 5 5 0 0 yB 7 (some .int) site (P b A d B o q len) (E b A d B o q len) (copyLocs d q len) 0 0 := by
  refine Law.of_walk (plainFor_of_name (by decide +kernel)) (by decide +kernel) (by decide +kernel) (by decide) (fun _ _ h => by rw [h.1]; rfl) (fun _ U U' hal hh h => ⟨h.1, h.2.1.mv hal hh, h.2.2.1.mv hal hh, h.2.2.2⟩) (fun r U U' V V' h1 hal h2 h => ⟨h.1, h.2.elim fun B' q => ⟨B', q.1.mv h1 h2, q.2⟩⟩) ?_
  intro p e s m args below meth c s₁ X0 hexec hbytes hml hret hlk hnm hown hh0 W hP
  obtain ⟨rfl, hA, hB, hne, l1, l2, hp⟩ := hP
  have c1 : Steps p.tables e below (s₁.setTop (entryFrame m #[.ref b, .int (Int32.ofNat o), .ref d, .int (Int32.ofNat q), .int (Int32.ofNat len)] 7)) (s₁.setTop (mkF m 0 #[.val (.ref b), .val (.int (Int32.ofNat o)), .val (.ref d), .val (.int (Int32.ofNat q)), .val (.int (Int32.ofNat len)), .unset, .unset] [])) := entry rfl
  have hA0 := hA.1.mv X0.warmed.alike hh0
  have hB0 := hB.mv X0.warmed.alike hh0
  have a31 := hA.1.2.2.2
  have c2 : Steps p.tables e below (s₁.setTop (entryFrame m #[.ref b, .int (Int32.ofNat o), .ref d, .int (Int32.ofNat q), .int (Int32.ofNat len)] 7)) (s₁.setTop (mkF m 3 #[.val (.ref b), .val (.int (Int32.ofNat o)), .val (.ref d), .val (.int (Int32.ofNat q)), .val (.int (Int32.ofNat len)), .val (.int 0), .unset] [])) := c1.trans (by
    refine iconstV X0.here hexec rfl 0 (hb hbytes d0) (by decide) ?_
    refine XS.istore X0.here hexec rfl (hb hbytes d1) rfl rfl ?_
    exact Steps.refl _)
  have loop : ∀ (r i : Nat), i + r = len → ∀ (z : Slot), (z = .unset ∨ ∃ w, z = .val w ∧ w.category = 1) → ∀ (Tl : State) (Bk : Cell), Stand p l e { frames := 0, locals := 0, cells := 0, slots := 0 } s m #[.ref b, .int (Int32.ofNat o), .ref d, .int (Int32.ofNat q), .int (Int32.ofNat len)] below meth c Tl ([] ++ copyLocs d q i) 0 0 → Put d Bk s₁ Tl → Laid B Bk q (q + i) (fun j => Value.int (lo8 (cv A (o + (j - q))))) →
      Steps p.tables e below (s₁.setTop (entryFrame m #[.ref b, .int (Int32.ofNat o), .ref d, .int (Int32.ofNat q), .int (Int32.ofNat len)] 7)) (Tl.setTop (mkF m 3 #[.val (.ref b), .val (.int (Int32.ofNat (o + i))), .val (.ref d), .val (.int (Int32.ofNat (q + i))), .val (.int (Int32.ofNat len)), .val (.int (Int32.ofNat i)), z] [])) → ∃ (T' : State) (B' : Cell) (z' : Slot), Stand p l e { frames := 0, locals := 0, cells := 0, slots := 0 } s m #[.ref b, .int (Int32.ofNat o), .ref d, .int (Int32.ofNat q), .int (Int32.ofNat len)] below meth c T' ([] ++ copyLocs d q len) 0 0 ∧ Put d B' s₁ T' ∧ Laid B B' q (q + len) (fun j => Value.int (lo8 (cv A (o + (j - q))))) ∧
      Steps p.tables e below (s₁.setTop (entryFrame m #[.ref b, .int (Int32.ofNat o), .ref d, .int (Int32.ofNat q), .int (Int32.ofNat len)] 7)) (T'.setTop (mkF m 3 #[.val (.ref b), .val (.int (Int32.ofNat (o + len))), .val (.ref d), .val (.int (Int32.ofNat (q + len))), .val (.int (Int32.ofNat len)), .val (.int (Int32.ofNat len)), z'] [])) := by
    intro r
    induction r with
    | zero =>
      intro i hi z hz Tl Bk Xl pl fl cl
      have hil : i = len := by omega
      rw [hil] at Xl fl cl
      exact ⟨Tl, Bk, z, Xl, pl, fl, cl⟩
    | succ r ih =>
      intro i hi z hz Tl Bk Xl pl fl cl
      have all := X0.warmed.alike.symm.trans Xl.warmed.alike
      have hAl := hA0.keep all (pl.other hne hA0.1)
      have hBk := hB0.like all pl.1 fl.1 fl.2.1 fl.2.2.1
      have hlt : q + i < Bk.slots.size := by rw [fl.2.2.1]; omega
      have c3 : Steps p.tables e below (s₁.setTop (entryFrame m #[.ref b, .int (Int32.ofNat o), .ref d, .int (Int32.ofNat q), .int (Int32.ofNat len)] 7)) (Tl.setTop (mkF m 12 #[.val (.ref b), .val (.int (Int32.ofNat (o + i))), .val (.ref d), .val (.int (Int32.ofNat (q + i))), .val (.int (Int32.ofNat len)), .val (.int (Int32.ofNat i)), z] [.int (Int32.ofNat (o + i)), .ref b])) := cl.trans (by
        refine XS.iload Xl.here hexec rfl (hb hbytes d3) rfl ?_
        refine XS.iload Xl.here hexec rfl (hb hbytes d5) rfl ?_
        refine XS.icmpNo Xl.here hexec rfl (hb hbytes d7) rfl (ii_ge_f (lt32 (by omega) (by omega))) ?_
        refine XS.aloadN Xl.here hexec rfl (hb hbytes d10) rfl rfl ?_
        refine XS.iloadN Xl.here hexec rfl (hb hbytes d11) rfl ?_
        exact Steps.refl _)
      have c4 : Steps p.tables e below (s₁.setTop (entryFrame m #[.ref b, .int (Int32.ofNat o), .ref d, .int (Int32.ofNat q), .int (Int32.ofNat len)] 7)) (Tl.setTop (mkF m 13 #[.val (.ref b), .val (.int (Int32.ofNat (o + i))), .val (.ref d), .val (.int (Int32.ofNat (q + i))), .val (.int (Int32.ofNat len)), .val (.int (Int32.ofNat i)), z] [.int (cv A (o + i))])) := c3.trans (by
        refine Xl.aget hexec hAl rfl (hA.get (i := o + i) (by omega)) rfl rfl (hb hbytes d12) ?_
        exact Steps.refl _)
      have c5 : Steps p.tables e below (s₁.setTop (entryFrame m #[.ref b, .int (Int32.ofNat o), .ref d, .int (Int32.ofNat q), .int (Int32.ofNat len)] 7)) (Tl.setTop (mkF m 15 #[.val (.ref b), .val (.int (Int32.ofNat (o + i))), .val (.ref d), .val (.int (Int32.ofNat (q + i))), .val (.int (Int32.ofNat len)), .val (.int (Int32.ofNat i)), .val (.int (cv A (o + i)))] [])) := c4.trans (by
        refine XS.istoreS Xl.here hexec rfl (hb hbytes d13) rfl rfl hz ?_
        exact Steps.refl _)
      have c6 : Steps p.tables e below (s₁.setTop (entryFrame m #[.ref b, .int (Int32.ofNat o), .ref d, .int (Int32.ofNat q), .int (Int32.ofNat len)] 7)) (Tl.setTop (mkF m 31 #[.val (.ref b), .val (.int (Int32.ofNat (o + i))), .val (.ref d), .val (.int (Int32.ofNat (q + i))), .val (.int (Int32.ofNat len)), .val (.int (Int32.ofNat i)), .val (.int (cv A (o + i)))] [.int (lo8 (cv A (o + i))), .int (Int32.ofNat (q + i)), .ref d])) := c5.trans (by
        refine XS.iload Xl.here hexec rfl (hb hbytes d15) rfl ?_
        refine sipushV Xl.here hexec rfl 255 (hb hbytes d17) (by decide) ?_
        refine XS.icmpYes Xl.here hexec rfl (pc0 := 20) rfl (hb hbytes d20) rfl (ii_le_t (hp i (by omega))) (by decide) rfl ?_
        refine XS.aloadN Xl.here hexec rfl (hb hbytes d26) rfl rfl ?_
        refine XS.iloadN Xl.here hexec rfl (hb hbytes d27) rfl ?_
        refine XS.iload Xl.here hexec rfl (hb hbytes d28) rfl ?_
        refine i2b Xl.here hexec rfl (hb hbytes d30) rfl ?_
        exact Steps.refl _)
      obtain ⟨T7, X7, p7, st7⟩ := Xl.aput hexec hBk rfl hlt rfl (fits_lo8 (cv A (o + i))) (g := (mkF m 31 #[.val (.ref b), .val (.int (Int32.ofNat (o + i))), .val (.ref d), .val (.int (Int32.ofNat (q + i))), .val (.int (Int32.ofNat len)), .val (.int (Int32.ofNat i)), .val (.int (cv A (o + i)))] [.int (lo8 (cv A (o + i))), .int (Int32.ofNat (q + i)), .ref d])) rfl (rest := []) rfl (hb hbytes d31)
      have c8 : Steps p.tables e below (s₁.setTop (entryFrame m #[.ref b, .int (Int32.ofNat o), .ref d, .int (Int32.ofNat q), .int (Int32.ofNat len)] 7)) (T7.setTop (mkF m 32 #[.val (.ref b), .val (.int (Int32.ofNat (o + i))), .val (.ref d), .val (.int (Int32.ofNat (q + i))), .val (.int (Int32.ofNat len)), .val (.int (Int32.ofNat i)), .val (.int (cv A (o + i)))] [])) := c6.trans (st7 _ (Steps.refl _))
      have c9 : Steps p.tables e below (s₁.setTop (entryFrame m #[.ref b, .int (Int32.ofNat o), .ref d, .int (Int32.ofNat q), .int (Int32.ofNat len)] 7)) (T7.setTop (mkF m 3 #[.val (.ref b), .val (.int (Int32.ofNat (o + i) + 1)), .val (.ref d), .val (.int (Int32.ofNat (q + i) + 1)), .val (.int (Int32.ofNat len)), .val (.int (Int32.ofNat i + 1)), .val (.int (cv A (o + i)))] [])) := c8.trans (by
        refine iincV X7.here hexec rfl 1 (hb hbytes d32) (by decide) rfl rfl ?_
        refine iincV X7.here hexec rfl 1 (hb hbytes d35) (by decide) rfl rfl ?_
        refine iincV X7.here hexec rfl 1 (hb hbytes d38) (by decide) rfl rfl ?_
        refine XS.goto X7.here hexec rfl (pc0 := 41) rfl (hb hbytes d41) (by decide) rfl ?_
        exact Steps.refl _)
      have c10 : Steps p.tables e below (s₁.setTop (entryFrame m #[.ref b, .int (Int32.ofNat o), .ref d, .int (Int32.ofNat q), .int (Int32.ofNat len)] 7)) (T7.setTop (mkF m 3 #[.val (.ref b), .val (.int (Int32.ofNat (o + (i + 1)))), .val (.ref d), .val (.int (Int32.ofNat (q + (i + 1)))), .val (.int (Int32.ofNat len)), .val (.int (Int32.ofNat (i + 1))), .val (.int (cv A (o + i)))] [])) := by
        have := c9
        rw [succ32, succ32, succ32] at this
        exact this
      exact ih (i + 1) (by omega) _ (Or.inr ⟨_, rfl, rfl⟩) T7 _ (by rw [copyLocs_step, ← List.append_assoc]; exact X7) (pl.trans p7) (fl.step (by omega) hlt (by simp)) c10
  obtain ⟨T9, B9, z9, X9, p9, f9, g9⟩ := loop len 0 (by omega) .unset (Or.inl rfl) s₁ B (by simpa [copyLocs] using X0) ⟨hB0.1, fun _ _ => rfl, rfl⟩ (Laid.zero _ _ _) c2
  have c11 : Steps p.tables e below (s₁.setTop (entryFrame m #[.ref b, .int (Int32.ofNat o), .ref d, .int (Int32.ofNat q), .int (Int32.ofNat len)] 7)) (T9.setTop (mkF m 46 #[.val (.ref b), .val (.int (Int32.ofNat (o + len))), .val (.ref d), .val (.int (Int32.ofNat (q + len))), .val (.int (Int32.ofNat len)), .val (.int (Int32.ofNat len)), z9] [.int (Int32.ofNat len)])) := g9.trans (by
    refine XS.iload X9.here hexec rfl (hb hbytes d3) rfl ?_
    refine XS.iload X9.here hexec rfl (hb hbytes d5) rfl ?_
    refine XS.icmpYes X9.here hexec rfl (pc0 := 7) rfl (hb hbytes d7) rfl (ii_ge_t (nlt32 (by omega) (Nat.le_refl _))) (by decide) rfl ?_
    refine XS.iload X9.here hexec rfl (hb hbytes d44) rfl ?_
    exact Steps.refl _)
  exact ⟨T9, some (.int (Int32.ofNat len)), _, _, _, X9, by simp, rfl, rfl, (fun h => by cases h), ⟨rfl, B9, p9.from hh0, f9⟩, fun fs hl => c11.trans (X9.ireturnOut hexec hret rfl (Or.inl rfl) (hb hbytes d46) hl)⟩
end Cmp5
namespace Cmp3
def yN : MethodName := ⟨"java/lang/StringUTF16", "compress", "([CII)[B"⟩
abbrev yB : ByteArray := jdk_52_method_16_code
theorem d0 : decode yB 0 = .ok (.iload_n 2, 1) := by decide +kernel
theorem d1 : decode yB 1 = .ok (.newarray .byte, 2) := by decide +kernel
theorem d3 : decode yB 3 = .ok (.astore_n 3, 1) := by decide +kernel
theorem d4 : decode yB 4 = .ok (.aload_n 0, 1) := by decide +kernel
theorem d5 : decode yB 5 = .ok (.iload_n 1, 1) := by decide +kernel
theorem d6 : decode yB 6 = .ok (.aload_n 3, 1) := by decide +kernel
theorem d7 : decode yB 7 = .ok (.iconst 0, 1) := by decide +kernel
theorem d8 : decode yB 8 = .ok (.iload_n 2, 1) := by decide +kernel
theorem d9 : decode yB 9 = .ok (.invokestatic 115, 3) := by decide +kernel
theorem d12 : decode yB 12 = .ok (.istore 4, 2) := by decide +kernel
theorem d14 : decode yB 14 = .ok (.iload 4, 2) := by decide +kernel
theorem d16 : decode yB 16 = .ok (.iload_n 2, 1) := by decide +kernel
theorem d17 : decode yB 17 = .ok (.if_icmp (.eq) 40, 3) := by decide +kernel
theorem d57 : decode yB 57 = .ok (.aload_n 3, 1) := by decide +kernel
theorem d58 : decode yB 58 = .ok (.areturn, 1) := by decide +kernel
def site : List Cond := [.arrayClass .byte, Cmp5.tab] ++ staticW U16 115 Cmp5.yN
def tab : Cond := tabOf yN yB 6 (some (.array .byte)) site
def P (b : Addr) (A : Cell) (o len : Nat) (args : Array Value) (s : State) : Prop := args = #[.ref b, .int (Int32.ofNat o), .int (Int32.ofNat len)] ∧ Ch b A s ∧ o + len ≤ A.slots.size ∧ len ≤ 536870912 ∧ ∀ i, i < len → ¬ 255 < cv A (o + i)
def E (b : Addr) (A : Cell) (o len : Nat) (r : Option Value) (s u : State) : Prop := NewArr .byte "[B" len (fun j => .int (lo8 (cv A (o + j)))) r s u ∧ u.heap.size = s.heap.size + 1
/-- no char of the range above 255: a new byte[] of their low bytes -/
theorem law (l : Launch) (b : Addr) (A : Cell) (o len : Nat) : Law l yN 3 3 1 18 yB 6 (some (.array .byte)) site (P b A o len) (E b A o len) [] 1 len := by
  refine Law.of_walk (plainFor_of_name (by decide +kernel)) (by decide +kernel) (by decide +kernel) (by decide) (fun _ _ h => by rw [h.1]; rfl) (fun _ U U' hal hh h => ⟨h.1, h.2.1.mv hal hh, h.2.2⟩) (fun r U U' V V' h1 hal h2 h => ⟨NewArr.mv r U U' V V' h1 hal h2 h.1, by rw [h1, h2]; exact h.2⟩) ?_
  intro p e s m args below meth c s₁ X0 hexec hbytes hml hret hlk hnm hown hh0 W hP
  obtain ⟨rfl, hA, l1, l2, hp⟩ := hP
  have a31 := hA.1.2.2.2
  have c1 : Steps p.tables e below (s₁.setTop (entryFrame m #[.ref b, .int (Int32.ofNat o), .int (Int32.ofNat len)] 6)) (s₁.setTop (mkF m 0 #[.val (.ref b), .val (.int (Int32.ofNat o)), .val (.int (Int32.ofNat len)), .unset, .unset, .unset] [])) := entry rfl
  have c2 : Steps p.tables e below (s₁.setTop (entryFrame m #[.ref b, .int (Int32.ofNat o), .int (Int32.ofNat len)] 6)) (s₁.setTop (mkF m 1 #[.val (.ref b), .val (.int (Int32.ofNat o)), .val (.int (Int32.ofNat len)), .unset, .unset, .unset] [.int (Int32.ofNat len)])) := c1.trans (by
    refine XS.iloadN X0.here hexec rfl (hb hbytes d0) rfl ?_
    exact Steps.refl _)
  obtain ⟨T3, B3, X3, ba3, bs3, bv3, bh3, bf3, st3⟩ := X0.anew hexec (atype := .byte) (wk W (.arrayClass .byte)) rfl (by show len * 1 ≤ _; omega) (by omega) (g := (mkF m 1 #[.val (.ref b), .val (.int (Int32.ofNat o)), .val (.int (Int32.ofNat len)), .unset, .unset, .unset] [.int (Int32.ofNat len)])) rfl (hb hbytes d1) (rest := []) rfl (Nat.le_refl _) (by show 0 + len ≤ len; omega)
  rw [hh0] at ba3 st3
  have kp3 : XT.Kept s T3 := (XT.Kept.of_eq hh0).push bh3
  have hA3 := hA.keep X3.warmed.alike (kp3 _ _ hA.1.1)
  have hne : b ≠ s.heap.size := hA.1.ne
  have c4 : Steps p.tables e below (s₁.setTop (entryFrame m #[.ref b, .int (Int32.ofNat o), .int (Int32.ofNat len)] 6)) (T3.setTop (mkF m 3 #[.val (.ref b), .val (.int (Int32.ofNat o)), .val (.int (Int32.ofNat len)), .unset, .unset, .unset] [.ref s.heap.size])) := c2.trans (st3 _ (Steps.refl _))
  have c5 : Steps p.tables e below (s₁.setTop (entryFrame m #[.ref b, .int (Int32.ofNat o), .int (Int32.ofNat len)] 6)) (T3.setTop (mkF m 9 #[.val (.ref b), .val (.int (Int32.ofNat o)), .val (.int (Int32.ofNat len)), .val (.ref s.heap.size), .unset, .unset] [.int (Int32.ofNat len), .int 0, .ref s.heap.size, .int (Int32.ofNat o), .ref b])) := c4.trans (by
    refine XS.astoreN X3.here hexec rfl (hb hbytes d3) rfl rfl rfl ?_
    refine XS.aloadN X3.here hexec rfl (hb hbytes d4) rfl rfl ?_
    refine XS.iloadN X3.here hexec rfl (hb hbytes d5) rfl ?_
    refine XS.aloadN X3.here hexec rfl (hb hbytes d6) rfl rfl ?_
    refine iconstV X3.here hexec rfl 0 (hb hbytes d7) (by decide) ?_
    refine XS.iloadN X3.here hexec rfl (hb hbytes d8) rfl ?_
    exact Steps.refl _)
  obtain ⟨v6, T6, X6, E6, g6⟩ := X3.callS hexec (Cmp5.law l b A s.heap.size B3 o 0 len) hown (wks W (staticW U16 115 Cmp5.yN)) (wk W Cmp5.tab) (W := 0) (Nat.le_of_ble_eq_true rfl) (Nat.le_of_ble_eq_true rfl) (Nat.le_refl _) (by show 0 + len + 0 ≤ len; omega) (g := (mkF m 9 #[.val (.ref b), .val (.int (Int32.ofNat o)), .val (.int (Int32.ofNat len)), .val (.ref s.heap.size), .unset, .unset] [.int (Int32.ofNat len), .int (Int32.ofNat 0), .ref s.heap.size, .int (Int32.ofNat o), .ref b])) rfl (by rw [hml]; rfl) c5 (argsL := [.ref b, .int (Int32.ofNat o), .ref s.heap.size, .int (Int32.ofNat 0), .int (Int32.ofNat len)]) (rest := []) rfl rfl (by show 2 * 0 + 0 ≤ _; decide) (hb hbytes d9) (⟨rfl, hA3, ba3, hne, l1, by rw [bs3]; simp, hp⟩)
  obtain ⟨rfl, B6, p6, f6⟩ := E6
  have c7 : Steps p.tables e below (s₁.setTop (entryFrame m #[.ref b, .int (Int32.ofNat o), .int (Int32.ofNat len)] 6)) (T6.setTop (mkF m 12 #[.val (.ref b), .val (.int (Int32.ofNat o)), .val (.int (Int32.ofNat len)), .val (.ref s.heap.size), .unset, .unset] [.int (Int32.ofNat len)])) := g6
  have c8 : Steps p.tables e below (s₁.setTop (entryFrame m #[.ref b, .int (Int32.ofNat o), .int (Int32.ofNat len)] 6)) (T6.setTop (mkF m 58 #[.val (.ref b), .val (.int (Int32.ofNat o)), .val (.int (Int32.ofNat len)), .val (.ref s.heap.size), .val (.int (Int32.ofNat len)), .unset] [.ref s.heap.size])) := c7.trans (by
    refine XS.istore X6.here hexec rfl (hb hbytes d12) rfl rfl ?_
    refine XS.iload X6.here hexec rfl (hb hbytes d14) rfl ?_
    refine XS.iloadN X6.here hexec rfl (hb hbytes d16) rfl ?_
    refine XS.icmpYes X6.here hexec rfl (pc0 := 17) rfl (hb hbytes d17) rfl (ii_eq_t rfl) (by decide) rfl ?_
    refine XS.aloadN X6.here hexec rfl (hb hbytes d57) rfl rfl ?_
    exact Steps.refl _)
  have X8 := X6.wide (L' := []) (cells' := 1) (slots' := len) (fun x hx hlt => by
    simp only [List.nil_append, copyLocs, List.mem_map, List.mem_range] at hx
    obtain ⟨i, -, rfl⟩ := hx
    exact absurd hlt (Nat.lt_irrefl _)) (Nat.le_refl _) (by omega)
  exact ⟨T6, some (.ref s.heap.size), _, _, _, X8, rfl, rfl, rfl, (fun h => by cases h), ⟨⟨rfl, B6, ba3.like (X3.warmed.alike.symm.trans X6.warmed.alike) p6.1 f6.1 f6.2.1 f6.2.2.1, f6.2.1.trans bv3, by rw [X6.warmed.alike.findClass, f6.1]; exact bf3, by rw [f6.2.2.1, bs3]; simp, fun j hj => by rw [f6.2.2.2 j, if_pos (by omega)]; rfl, kp3.put p6 (Nat.le_refl _)⟩, by rw [p6.2.2, bh3, hh0]; simp⟩, fun fs hl => c8.trans (X8.areturnOut hexec rfl hret rfl (hb hbytes d58) hl)⟩
end Cmp3
namespace CodL
def yN : MethodName := ⟨"java/lang/StringUTF16", "coderFromArrayLen", "([BI)B"⟩
abbrev yB : ByteArray := jdk_52_method_15_code
theorem d0 : decode yB 0 = .ok (.iload_n 1, 1) := by decide +kernel
theorem d1 : decode yB 1 = .ok (.aload_n 0, 1) := by decide +kernel
theorem d2 : decode yB 2 = .ok (.arraylength, 1) := by decide +kernel
theorem d3 : decode yB 3 = .ok (.isub, 1) := by decide +kernel
theorem d4 : decode yB 4 = .ok (.bipush 31, 2) := by decide +kernel
theorem d6 : decode yB 6 = .ok (.iushr, 1) := by decide +kernel
theorem d7 : decode yB 7 = .ok (.i2b, 1) := by decide +kernel
theorem d8 : decode yB 8 = .ok (.ireturn, 1) := by decide +kernel
def site : List Cond := []
def tab : Cond := tabOf yN yB 2 (some .byte) site
def P (d : Addr) (B : Cell) (args : Array Value) (s : State) : Prop := args = #[.ref d, .int (Int32.ofNat B.slots.size)] ∧ Arr .byte d B s
def E (r : Option Value) (s u : State) : Prop := XT.PureE (some (.int 0)) r s u
/-- an array as long as the number of chars: LATIN1 -/
theorem law (l : Launch) (d : Addr) (B : Cell) : Law l yN 2 2 0 0 yB 2 (some .byte) site (P d B) E [] 0 0 := by
  refine Law.of_walk (plainFor_of_name (by decide +kernel)) (by decide +kernel) (by decide +kernel) (by decide) (fun _ _ h => by rw [h.1]; rfl) (fun _ U U' hal hh h => ⟨h.1, h.2.mv hal hh⟩) (fun r U U' V V' h1 hal h2 h => XT.PureE.mv r U U' V V' h1 hal h2 h) ?_
  intro p e s m args below meth c s₁ X0 hexec hbytes hml hret hlk hnm hown hh0 W hP
  obtain ⟨rfl, hB⟩ := hP
  have hB0 := hB.mv X0.warmed.alike hh0
  have c1 : Steps p.tables e below (s₁.setTop (entryFrame m #[.ref d, .int (Int32.ofNat B.slots.size)] 2)) (s₁.setTop (mkF m 0 #[.val (.ref d), .val (.int (Int32.ofNat B.slots.size))] [])) := entry rfl
  have c2 : Steps p.tables e below (s₁.setTop (entryFrame m #[.ref d, .int (Int32.ofNat B.slots.size)] 2)) (s₁.setTop (mkF m 2 #[.val (.ref d), .val (.int (Int32.ofNat B.slots.size))] [.ref d, .int (Int32.ofNat B.slots.size)])) := c1.trans (by
    refine XS.iloadN X0.here hexec rfl (hb hbytes d0) rfl ?_
    refine XS.aloadN X0.here hexec rfl (hb hbytes d1) rfl rfl ?_
    exact Steps.refl _)
  have c3 : Steps p.tables e below (s₁.setTop (entryFrame m #[.ref d, .int (Int32.ofNat B.slots.size)] 2)) (s₁.setTop (mkF m 8 #[.val (.ref d), .val (.int (Int32.ofNat B.slots.size))] [.int (lo8 (ushr (Int32.ofNat B.slots.size - Int32.ofNat B.slots.size) 31))])) := c2.trans (by
    refine X0.alen hexec hB0 rfl rfl (hb hbytes d2) ?_
    refine XS.isub X0.here hexec rfl (hb hbytes d3) rfl ?_
    refine bipushV X0.here hexec rfl 31 (hb hbytes d4) (by decide) ?_
    refine iushr X0.here hexec rfl (hb hbytes d6) rfl ?_
    refine i2b X0.here hexec rfl (hb hbytes d7) rfl ?_
    exact Steps.refl _)
  have e0 : lo8 (ushr (Int32.ofNat B.slots.size - Int32.ofNat B.slots.size) 31) = 0 := by rw [Int32.sub_self]; decide
  rw [e0] at c3
  exact ⟨s₁, some (.int 0), _, _, _, X0, rfl, rfl, rfl, (fun h => by cases h), ⟨rfl, hh0⟩, fun fs hl => c3.trans (X0.ireturnOut hexec hret rfl (Or.inr (Or.inr (Or.inl rfl))) (hb hbytes d8) hl)⟩
end CodL
/-- the String at a is Latin-1 over a new byte[] (the heap's one new cell): the low bytes of the len chars of A from o on; every cell but a is kept -/
def Got (a : Addr) (D : Cell) (fV fC : Field) (A : Cell) (o len : Nat) (r : Option Value) (s u : State) : Prop := r = none ∧ ∃ D' V : Cell, Blank "java/lang/String" a D' u ∧ Same D D' [fV.slot, fC.slot] ∧ D'.slots[fV.slot]? = some (.ref s.heap.size) ∧ D'.slots[fC.slot]? = some (.int 0) ∧ Arr .byte s.heap.size V u ∧ V.vm = .none ∧ u.vm.findClass "[B" = some V.cls ∧ V.slots.size = len ∧ (∀ j, j < len → V.slots[j]? = some (.int (lo8 (cv A (o + j))))) ∧ (∀ (y : Addr) (c : Cell), y ≠ a → s.heap[y]? = some c → u.heap[y]? = some c) ∧ u.heap.size = s.heap.size + 1
theorem Got.mv {a : Addr} {D A : Cell} {fV fC : Field} {o len : Nat} : ∀ r (U U' V V' : State), U'.heap = U.heap → V.vm.Alike V'.vm → V'.heap = V.heap → Got a D fV fC A o len r U V → Got a D fV fC A o len r U' V' :=
  fun r U U' V V' h1 hal h2 ⟨e0, D', X, a1, a2, a3, a4, a5, a6, a7, a8, a9, a10, a11⟩ => ⟨e0, D', X, a1.mv hal h2, a2, by rw [h1]; exact a3, a4, by rw [h1]; exact a5.mv hal h2, a6, by rw [hal.findClass]; exact a7, a8, a9, by rw [h1, h2]; exact a10, by rw [h1, h2]; exact a11⟩
namespace New4
def yN : MethodName := ⟨"java/lang/String", "<init>", "([CIILjava/lang/Void;)V"⟩
abbrev yB : ByteArray := jdk_42_method_149_code
theorem d0 : decode yB 0 = .ok (.aload_n 0, 1) := by decide +kernel
theorem d1 : decode yB 1 = .ok (.invokespecial 1, 3) := by decide +kernel
theorem d4 : decode yB 4 = .ok (.iload_n 3, 1) := by decide +kernel
theorem d5 : decode yB 5 = .ok (.ifCond (.ne) 22, 3) := by decide +kernel
theorem d27 : decode yB 27 = .ok (.getstatic 38, 3) := by decide +kernel
theorem d30 : decode yB 30 = .ok (.ifCond (.eq) 28, 3) := by decide +kernel
theorem d33 : decode yB 33 = .ok (.aload_n 1, 1) := by decide +kernel
theorem d34 : decode yB 34 = .ok (.iload_n 2, 1) := by decide +kernel
theorem d35 : decode yB 35 = .ok (.iload_n 3, 1) := by decide +kernel
theorem d36 : decode yB 36 = .ok (.invokestatic 177, 3) := by decide +kernel
theorem d39 : decode yB 39 = .ok (.astore 5, 2) := by decide +kernel
theorem d41 : decode yB 41 = .ok (.aload_n 0, 1) := by decide +kernel
theorem d42 : decode yB 42 = .ok (.aload 5, 2) := by decide +kernel
theorem d44 : decode yB 44 = .ok (.iload_n 3, 1) := by decide +kernel
theorem d45 : decode yB 45 = .ok (.invokestatic 47, 3) := by decide +kernel
theorem d48 : decode yB 48 = .ok (.putfield 15, 3) := by decide +kernel
theorem d51 : decode yB 51 = .ok (.aload_n 0, 1) := by decide +kernel
theorem d52 : decode yB 52 = .ok (.aload 5, 2) := by decide +kernel
theorem d54 : decode yB 54 = .ok (.putfield 9, 3) := by decide +kernel
theorem d57 : decode yB 57 = .ok (.return_, 1) := by decide +kernel
def site : List Cond := [.fieldLink "java/lang/String" 38 "java/lang/String" "COMPACT_STRINGS" "Z", Cmp3.tab, CodL.tab, .laysFinal "java/lang/String" "java/lang/String" "value" "[B", .fieldLink "java/lang/String" 9 "java/lang/String" "value" "[B", .laysFinal "java/lang/String" "java/lang/String" "coder" "B", .fieldLink "java/lang/String" 15 "java/lang/String" "coder" "B"] ++ objW "java/lang/String" 1 ++ staticW "java/lang/String" 177 Cmp3.yN ++ staticW "java/lang/String" 47 CodL.yN
def tab : Cond := tabOf yN yB 6 none site
def P (a : Addr) (D : Cell) (fV fC : Field) (b : Addr) (A : Cell) (z : Int32) (o len : Nat) (args : Array Value) (s : State) : Prop := args = #[.ref a, .ref b, .int (Int32.ofNat o), .int (Int32.ofNat len), .null] ∧ Blank "java/lang/String" a D s ∧ Found "java/lang/String" "value" "[B" fV s ∧ Found "java/lang/String" "coder" "B" fC s ∧ Ch b A s ∧ StaticIs s "java/lang/String" "COMPACT_STRINGS" "Z" (.int z) ∧ ¬ z = 0 ∧ 0 < len ∧ o + len ≤ A.slots.size ∧ len ≤ 536870912 ∧ ∀ i, i < len → ¬ 255 < cv A (o + i)
def E (a : Addr) (D : Cell) (fV fC : Field) (A : Cell) (o len : Nat) (r : Option Value) (s u : State) : Prop := Got a D fV fC A o len r s u
/-- len > 0, no char of the range above 255: a Latin-1 String of their low bytes -/
theorem law (l : Launch) (a : Addr) (D : Cell) (fV fC : Field) (b : Addr) (A : Cell) (z : Int32) (o len : Nat) : Law l yN 5 4 2 35 yB 6 none site (P a D fV fC b A z o len) (E a D fV fC A o len) [⟨a, fC.slot⟩, ⟨a, fV.slot⟩] 1 len := by
  refine Law.of_walk (plainFor_of_name (by decide +kernel)) (by decide +kernel) (by decide +kernel) (by decide) (fun _ _ h => by rw [h.1]; rfl) (fun _ U U' hal hh h => ⟨h.1, h.2.1.mv hal hh, h.2.2.1.al hal, h.2.2.2.1.al hal, h.2.2.2.2.1.mv hal hh, h.2.2.2.2.2.1.there hal hh, h.2.2.2.2.2.2⟩) (fun r U U' V V' h1 hal h2 h => Got.mv r U U' V V' h1 hal h2 h) ?_
  intro p e s m args below meth c s₁ X0 hexec hbytes hml hret hlk hnm hown hh0 W hP
  obtain ⟨rfl, hB, f1, f2, hA, s1, hz, l0, l1, l2, hp⟩ := hP
  have a31 := hA.1.2.2.2
  have c1 : Steps p.tables e below (s₁.setTop (entryFrame m #[.ref a, .ref b, .int (Int32.ofNat o), .int (Int32.ofNat len), .null] 6)) (s₁.setTop (mkF m 0 #[.val (.ref a), .val (.ref b), .val (.int (Int32.ofNat o)), .val (.int (Int32.ofNat len)), .val .null, .unset] [])) := entry rfl
  have c2 : Steps p.tables e below (s₁.setTop (entryFrame m #[.ref a, .ref b, .int (Int32.ofNat o), .int (Int32.ofNat len), .null] 6)) (s₁.setTop (mkF m 1 #[.val (.ref a), .val (.ref b), .val (.int (Int32.ofNat o)), .val (.int (Int32.ofNat len)), .val .null, .unset] [.ref a])) := c1.trans (by
    refine XS.aloadN X0.here hexec rfl (hb hbytes d0) rfl rfl ?_
    exact Steps.refl _)
  obtain ⟨T3, X3, q3, st3⟩ := X0.oinit hexec hown (wks W (objW "java/lang/String" 1)) (g := (mkF m 1 #[.val (.ref a), .val (.ref b), .val (.int (Int32.ofNat o)), .val (.int (Int32.ofNat len)), .val .null, .unset] [.ref a])) rfl (by rw [hml]; rfl) (rest := []) rfl (hb hbytes d1) (W := 0) (by show 2 * 0 + 0 ≤ _; decide) (Nat.le_of_ble_eq_true rfl) (Nat.le_of_ble_eq_true rfl)
  have hh3 := q3.trans hh0
  have c4 : Steps p.tables e below (s₁.setTop (entryFrame m #[.ref a, .ref b, .int (Int32.ofNat o), .int (Int32.ofNat len), .null] 6)) (T3.setTop (mkF m 27 #[.val (.ref a), .val (.ref b), .val (.int (Int32.ofNat o)), .val (.int (Int32.ofNat len)), .val .null, .unset] [])) := (c2.trans (st3 _ (Steps.refl _))).trans (by
    refine XS.iloadN X3.here hexec rfl (hb hbytes d4) rfl ?_
    refine XS.ifYes X3.here hexec rfl (pc0 := 5) rfl (hb hbytes d5) rfl (i0_ne_t (nz32 (by omega) l0)) (by decide) rfl ?_
    exact Steps.refl _)
  obtain ⟨T5, X5, q5, st5⟩ := X3.sget hexec hown (wk W (.fieldLink "java/lang/String" 38 "java/lang/String" "COMPACT_STRINGS" "Z")) s1 (fun _ _ h => by rw [hh3]; exact h) (g := (mkF m 27 #[.val (.ref a), .val (.ref b), .val (.int (Int32.ofNat o)), .val (.int (Int32.ofNat len)), .val .null, .unset] [])) rfl (hb hbytes d27)
  have hh5 := q5.trans hh3
  have c6 : Steps p.tables e below (s₁.setTop (entryFrame m #[.ref a, .ref b, .int (Int32.ofNat o), .int (Int32.ofNat len), .null] 6)) (T5.setTop (mkF m 30 #[.val (.ref a), .val (.ref b), .val (.int (Int32.ofNat o)), .val (.int (Int32.ofNat len)), .val .null, .unset] [.int z])) := c4.trans (st5 _ (Steps.refl _))
  have c7 : Steps p.tables e below (s₁.setTop (entryFrame m #[.ref a, .ref b, .int (Int32.ofNat o), .int (Int32.ofNat len), .null] 6)) (T5.setTop (mkF m 36 #[.val (.ref a), .val (.ref b), .val (.int (Int32.ofNat o)), .val (.int (Int32.ofNat len)), .val .null, .unset] [.int (Int32.ofNat len), .int (Int32.ofNat o), .ref b])) := c6.trans (by
    refine XS.ifNo X5.here hexec rfl (hb hbytes d30) rfl (i0_eq_f hz) ?_
    refine XS.aloadN X5.here hexec rfl (hb hbytes d33) rfl rfl ?_
    refine XS.iloadN X5.here hexec rfl (hb hbytes d34) rfl ?_
    refine XS.iloadN X5.here hexec rfl (hb hbytes d35) rfl ?_
    exact Steps.refl _)
  obtain ⟨v8, T8, X8, E8, g8⟩ := X5.callS hexec (Cmp3.law l b A o len) hown (wks W (staticW "java/lang/String" 177 Cmp3.yN)) (wk W Cmp3.tab) (W := 0) (Nat.le_of_ble_eq_true rfl) (Nat.le_of_ble_eq_true rfl) (Nat.le_refl _) (by show 0 + len ≤ len; omega) (g := (mkF m 36 #[.val (.ref a), .val (.ref b), .val (.int (Int32.ofNat o)), .val (.int (Int32.ofNat len)), .val .null, .unset] [.int (Int32.ofNat len), .int (Int32.ofNat o), .ref b])) rfl (by rw [hml]; rfl) c7 (argsL := [.ref b, .int (Int32.ofNat o), .int (Int32.ofNat len)]) (rest := []) rfl rfl (by show 2 * 0 + 0 ≤ _; decide) (hb hbytes d36) (⟨rfl, hA.mv X5.warmed.alike hh5, l1, l2, hp⟩)
  obtain ⟨e8, z8⟩ := E8
  obtain ⟨rfl, N, n1, n2, n3, n4, n5, n6⟩ := NewArr.mv _ T5 s _ _ hh5.symm (Vm.Alike.refl _) rfl e8
  rw [hh5] at z8
  have hB1 := hB.keep X8.warmed.alike (n6 _ _ hB.1)
  have hne : s.heap.size ≠ a := (Nat.ne_of_lt (Array.getElem?_eq_some_iff.mp hB.1).1).symm
  have c9 : Steps p.tables e below (s₁.setTop (entryFrame m #[.ref a, .ref b, .int (Int32.ofNat o), .int (Int32.ofNat len), .null] 6)) (T8.setTop (mkF m 39 #[.val (.ref a), .val (.ref b), .val (.int (Int32.ofNat o)), .val (.int (Int32.ofNat len)), .val .null, .unset] [.ref s.heap.size])) := g8
  have c10 : Steps p.tables e below (s₁.setTop (entryFrame m #[.ref a, .ref b, .int (Int32.ofNat o), .int (Int32.ofNat len), .null] 6)) (T8.setTop (mkF m 45 #[.val (.ref a), .val (.ref b), .val (.int (Int32.ofNat o)), .val (.int (Int32.ofNat len)), .val .null, .val (.ref s.heap.size)] [.int (Int32.ofNat N.slots.size), .ref s.heap.size, .ref a])) := by
    have hc : Steps p.tables e below (s₁.setTop (entryFrame m #[.ref a, .ref b, .int (Int32.ofNat o), .int (Int32.ofNat len), .null] 6)) (T8.setTop (mkF m 45 #[.val (.ref a), .val (.ref b), .val (.int (Int32.ofNat o)), .val (.int (Int32.ofNat len)), .val .null, .val (.ref s.heap.size)] [.int (Int32.ofNat len), .ref s.heap.size, .ref a])) := c9.trans (by
      refine XS.astore X8.here hexec rfl (hb hbytes d39) rfl rfl rfl ?_
      refine XS.aloadN X8.here hexec rfl (hb hbytes d41) rfl rfl ?_
      refine XS.aload X8.here hexec rfl (hb hbytes d42) rfl rfl ?_
      refine XS.iloadN X8.here hexec rfl (hb hbytes d44) rfl ?_
      exact Steps.refl _)
    rw [n4]; exact hc
  obtain ⟨v11, T11, X11, E11, g11⟩ := X8.callS hexec (CodL.law l s.heap.size N) hown (wks W (staticW "java/lang/String" 47 CodL.yN)) (wk W CodL.tab) (W := 1) (Nat.le_of_ble_eq_true rfl) (Nat.le_of_ble_eq_true rfl) (Nat.le_refl _) (by show 0 + len + 0 ≤ len; omega) (g := (mkF m 45 #[.val (.ref a), .val (.ref b), .val (.int (Int32.ofNat o)), .val (.int (Int32.ofNat len)), .val .null, .val (.ref s.heap.size)] [.int (Int32.ofNat N.slots.size), .ref s.heap.size, .ref a])) rfl (by rw [hml]; rfl) c10 (argsL := [.ref s.heap.size, .int (Int32.ofNat N.slots.size)]) (rest := [.ref a]) rfl rfl (by show 2 * 0 + (1 + 0) ≤ _; decide) (hb hbytes d45) (⟨rfl, n1⟩)
  obtain ⟨rfl, q11⟩ := E11
  have hB11 := hB1.mv (X8.warmed.alike.symm.trans X11.warmed.alike) q11
  have c12 : Steps p.tables e below (s₁.setTop (entryFrame m #[.ref a, .ref b, .int (Int32.ofNat o), .int (Int32.ofNat len), .null] 6)) (T11.setTop (mkF m 48 #[.val (.ref a), .val (.ref b), .val (.int (Int32.ofNat o)), .val (.int (Int32.ofNat len)), .val .null, .val (.ref s.heap.size)] [.int 0, .ref a])) := g11
  obtain ⟨T13, X13, p13, bl13, sl13, st13⟩ := X11.finit hexec hown (wk W (.fieldLink "java/lang/String" 15 "java/lang/String" "coder" "B")) (Or.inr ⟨_, (wk W (.laysFinal "java/lang/String" "java/lang/String" "coder" "B"))⟩) (Or.inl ⟨rfl, hnm⟩) f2 (Or.inl rfl) hB11 (t := .byte) (by decide +kernel) rfl (g := (mkF m 48 #[.val (.ref a), .val (.ref b), .val (.int (Int32.ofNat o)), .val (.int (Int32.ofNat len)), .val .null, .val (.ref s.heap.size)] [.int 0, .ref a])) rfl (rest := []) rfl (hb hbytes d48)
  have c14 : Steps p.tables e below (s₁.setTop (entryFrame m #[.ref a, .ref b, .int (Int32.ofNat o), .int (Int32.ofNat len), .null] 6)) (T13.setTop (mkF m 54 #[.val (.ref a), .val (.ref b), .val (.int (Int32.ofNat o)), .val (.int (Int32.ofNat len)), .val .null, .val (.ref s.heap.size)] [.ref s.heap.size, .ref a])) := (c12.trans (st13 _ (Steps.refl _))).trans (by
    refine XS.aloadN X13.here hexec rfl (hb hbytes d51) rfl rfl ?_
    refine XS.aload X13.here hexec rfl (hb hbytes d52) rfl rfl ?_
    exact Steps.refl _)
  obtain ⟨T15, X15, p15, bl15, sl15, st15⟩ := X13.finit hexec hown (wk W (.fieldLink "java/lang/String" 9 "java/lang/String" "value" "[B")) (Or.inr ⟨_, (wk W (.laysFinal "java/lang/String" "java/lang/String" "value" "[B"))⟩) (Or.inl ⟨rfl, hnm⟩) f1 (Or.inl rfl) bl13 (t := (.array .byte)) (by decide +kernel) rfl (g := (mkF m 54 #[.val (.ref a), .val (.ref b), .val (.int (Int32.ofNat o)), .val (.int (Int32.ofNat len)), .val .null, .val (.ref s.heap.size)] [.ref s.heap.size, .ref a])) rfl (rest := []) rfl (hb hbytes d54)
  have c16 : Steps p.tables e below (s₁.setTop (entryFrame m #[.ref a, .ref b, .int (Int32.ofNat o), .int (Int32.ofNat len), .null] 6)) (T15.setTop (mkF m 57 #[.val (.ref a), .val (.ref b), .val (.int (Int32.ofNat o)), .val (.int (Int32.ofNat len)), .val .null, .val (.ref s.heap.size)] [])) := c14.trans (st15 _ (Steps.refl _))
  have ap := apart (Or.inr ⟨_, (wk W (.laysFinal "java/lang/String" "java/lang/String" "value" "[B"))⟩) (Or.inr ⟨_, (wk W (.laysFinal "java/lang/String" "java/lang/String" "coder" "B"))⟩) f1 f2 (t₁ := .array .byte) (t₂ := .byte) (by decide +kernel) (by decide +kernel) (by decide)
  have al := X8.warmed.alike.symm.trans X15.warmed.alike
  have n7 : T11.heap[s.heap.size]? = some N := by rw [q11]; exact n1.1
  exact ⟨T15, none, _, _, _, X15, by simp, rfl, by omega, (fun _ => rfl), ⟨rfl, _, N, bl15, ((Same.refl D _).set _ (by simp)).set _ (by simp), sl15, (Cell.slots_setSlot_ne _ ap).trans sl13, n1.keep al (p15.other hne (p13.other hne n7)), n2, by rw [al.findClass]; exact n3, n4, n5, fun y c h1 h2 => p15.other h1 (p13.other h1 (by rw [q11]; exact n6 y c h2)), by rw [p15.2.2, p13.2.2, q11]; exact z8⟩, fun fs hl => c16.trans (X15.returnOut hexec hret (hb hbytes d57) hl)⟩
end New4
namespace New1
def yN : MethodName := ⟨"java/lang/String", "<init>", "([C)V"⟩
abbrev yB : ByteArray := jdk_42_method_3_code
theorem d0 : decode yB 0 = .ok (.aload_n 0, 1) := by decide +kernel
theorem d1 : decode yB 1 = .ok (.aload_n 1, 1) := by decide +kernel
theorem d2 : decode yB 2 = .ok (.iconst 0, 1) := by decide +kernel
theorem d3 : decode yB 3 = .ok (.aload_n 1, 1) := by decide +kernel
theorem d4 : decode yB 4 = .ok (.arraylength, 1) := by decide +kernel
theorem d5 : decode yB 5 = .ok (.aconst_null, 1) := by decide +kernel
theorem d6 : decode yB 6 = .ok (.invokespecial 27, 3) := by decide +kernel
theorem d9 : decode yB 9 = .ok (.return_, 1) := by decide +kernel
def site : List Cond := [New4.tab] ++ initW "java/lang/String" 27 New4.yN
def tab : Cond := tabOf yN yB 2 none site
def P (a : Addr) (D : Cell) (fV fC : Field) (b : Addr) (A : Cell) (z : Int32) (args : Array Value) (s : State) : Prop := args = #[.ref a, .ref b] ∧ Blank "java/lang/String" a D s ∧ Found "java/lang/String" "value" "[B" fV s ∧ Found "java/lang/String" "coder" "B" fC s ∧ Ch b A s ∧ StaticIs s "java/lang/String" "COMPACT_STRINGS" "Z" (.int z) ∧ ¬ z = 0 ∧ 0 < A.slots.size ∧ A.slots.size ≤ 536870912 ∧ ∀ i, i < A.slots.size → ¬ 255 < cv A i
def E (a : Addr) (D : Cell) (fV fC : Field) (A : Cell) (r : Option Value) (s u : State) : Prop := Got a D fV fC A 0 A.slots.size r s u
/-- new String(chars), not empty, no char above 255: a Latin-1 String of their low bytes -/
theorem law (l : Launch) (a : Addr) (D : Cell) (fV fC : Field) (b : Addr) (A : Cell) (z : Int32) : Law l yN 2 1 3 52 yB 2 none site (P a D fV fC b A z) (E a D fV fC A) [⟨a, fC.slot⟩, ⟨a, fV.slot⟩] 1 A.slots.size := by
  refine Law.of_walk (plainFor_of_name (by decide +kernel)) (by decide +kernel) (by decide +kernel) (by decide) (fun _ _ h => by rw [h.1]; rfl) (fun _ U U' hal hh h => ⟨h.1, h.2.1.mv hal hh, h.2.2.1.al hal, h.2.2.2.1.al hal, h.2.2.2.2.1.mv hal hh, h.2.2.2.2.2.1.there hal hh, h.2.2.2.2.2.2⟩) (fun r U U' V V' h1 hal h2 h => Got.mv r U U' V V' h1 hal h2 h) ?_
  intro p e s m args below meth c s₁ X0 hexec hbytes hml hret hlk hnm hown hh0 W hP
  obtain ⟨rfl, hB, f1, f2, hA, s1, hz, l0, l2, hp⟩ := hP
  have c1 : Steps p.tables e below (s₁.setTop (entryFrame m #[.ref a, .ref b] 2)) (s₁.setTop (mkF m 0 #[.val (.ref a), .val (.ref b)] [])) := entry rfl
  have c2 : Steps p.tables e below (s₁.setTop (entryFrame m #[.ref a, .ref b] 2)) (s₁.setTop (mkF m 6 #[.val (.ref a), .val (.ref b)] [.null, .int (Int32.ofNat A.slots.size), .int 0, .ref b, .ref a])) := c1.trans (by
    refine XS.aloadN X0.here hexec rfl (hb hbytes d0) rfl rfl ?_
    refine XS.aloadN X0.here hexec rfl (hb hbytes d1) rfl rfl ?_
    refine iconstV X0.here hexec rfl 0 (hb hbytes d2) (by decide) ?_
    refine XS.aloadN X0.here hexec rfl (hb hbytes d3) rfl rfl ?_
    refine X0.alen hexec (hA.1.mv X0.warmed.alike hh0) rfl rfl (hb hbytes d4) ?_
    refine XS.aconstNull X0.here hexec rfl (hb hbytes d5) ?_
    exact Steps.refl _)
  obtain ⟨v3, T3, X3, E3, g3⟩ := X0.callN hexec (New4.law l a D fV fC b A z 0 A.slots.size) rfl hown (wks W (initW "java/lang/String" 27 New4.yN)) (W New4.tab (by simp only [site, List.mem_cons, List.mem_append, true_or, or_true])) (W := 0) (Nat.le_of_ble_eq_true rfl) (Nat.le_of_ble_eq_true rfl) (Nat.le_refl _) (by show 0 + A.slots.size ≤ A.slots.size; omega) (g := (mkF m 6 #[.val (.ref a), .val (.ref b)] [.null, .int (Int32.ofNat A.slots.size), .int (Int32.ofNat 0), .ref b, .ref a])) rfl (by rw [hml]; rfl) c2 (argsL := [.ref b, .int (Int32.ofNat 0), .int (Int32.ofNat A.slots.size), .null]) (rest := []) rfl rfl (by show 2 * 0 + 0 ≤ _; decide) (hb hbytes d6) (⟨rfl, hB.mv X0.warmed.alike hh0, f1.al X0.warmed.alike, f2.al X0.warmed.alike, hA.mv X0.warmed.alike hh0, s1.there X0.warmed.alike hh0, hz, l0, by omega, l2, fun i hi => by rw [Nat.zero_add]; exact hp i hi⟩)
  have e0 := Got.mv _ s₁ s _ _ hh0.symm (Vm.Alike.refl _) rfl E3
  obtain rfl := e0.1
  have c4 : Steps p.tables e below (s₁.setTop (entryFrame m #[.ref a, .ref b] 2)) (T3.setTop (mkF m 9 #[.val (.ref a), .val (.ref b)] [])) := g3
  exact ⟨T3, none, _, _, _, X3, by simp, rfl, by omega, (fun _ => rfl), e0, fun fs hl => c4.trans (X3.returnOut hexec hret (hb hbytes d9) hl)⟩
theorem pays {l : Launch} {R : Room} {p : Program} {e : Env} {below : List Frame} {s : State} {sargs : Array Value} {len W : Nat} (a : Addr) (D : Cell) (fV fC : Field) (b : Addr) (A : Cell) (z : Int32) (htab : tab.before sargs s = true) (hfr : 4 ≤ R.frames) (hlo : W + 65 ≤ R.locals) :
    Back l R p e below s sargs yN len W (fun A₁ a₁ => A₁.cells + 1 ≤ R.cells ∧ A₁.slots + A.slots.size ≤ R.slots ∧ P a D fV fC b A z a₁ A₁.U) (fun A₁ _ v₁ B₁ => E a D fV fC A v₁ A₁.U B₁.U ∧ B₁.locs = A₁.locs ++ [⟨a, fC.slot⟩, ⟨a, fV.slot⟩] ∧ B₁.cells = A₁.cells + 1 ∧ B₁.slots = A₁.slots + A.slots.size) :=
  (law l a D fV fC b A z).pays htab hfr (by omega)
end New1
/-- the byte, read back as charAt reads it, is the char -/
theorem lo8_mask {x : Int32} (h0 : ¬ x < 0) (h1 : ¬ 255 < x) : lo8 x &&& 255 = x := by
  have t : ∀ k : Fin 256, lo8 (Int32.ofNat k.val) &&& 255 = Int32.ofNat k.val := by decide +kernel
  rw [Int32.lt_iff_toInt_lt] at h0 h1
  have e0 : (0 : Int32).toInt = 0 := rfl
  have e1 : (255 : Int32).toInt = 255 := rfl
  obtain ⟨k, hk⟩ : ∃ k : Nat, x.toInt = k := ⟨x.toInt.toNat, by omega⟩
  have hx : x = Int32.ofNat k := Int32.toInt_inj.mp (by rw [hk, Int32.toInt_ofNat_small (by omega)])
  rw [hx]
  exact t ⟨k, by omega⟩
end StrChars
namespace StrChars.Road
open Jvm Sem ClassFile Op Lib Jvm.Stand Jvm.Free Jvm.Free.XT
open Jvm.Lib.Cold (StaticIs)
abbrev ST : String := "java/lang/String"
/-- every table word that New1's law asks, flat -/
abbrev words : List Jvm.Cond := [.code New1.yN New1.yB 2 none, .initialized ST, .methodLink ST 27 New4.yN, .instanceMethod New4.yN,
  .code New4.yN New4.yB 6 none, .fieldLink ST 38 ST "COMPACT_STRINGS" "Z", .laysFinal ST ST "value" "[B", .fieldLink ST 9 ST "value" "[B", .laysFinal ST ST "coder" "B", .fieldLink ST 15 ST "coder" "B",
  .methodLink ST 1 Lib.objectInit, .instanceMethod Lib.objectInit, .code Lib.objectInit ⟨#[0xb1]⟩ 1 none, .methodLink ST 177 Cmp3.yN, .static Cmp3.yN, .methodLink ST 47 CodL.yN, .static CodL.yN,
  .code Cmp3.yN Cmp3.yB 6 (some (.array .byte)), .initialized U16, .arrayClass .byte, .methodLink U16 115 Cmp5.yN, .static Cmp5.yN, .code Cmp5.yN Cmp5.yB 7 (some .int), .code CodL.yN CodL.yB 2 (some .byte)]
theorem tab_of {a : Array Value} {s : State} (h : ∀ w ∈ words, w.before a s = true) : New1.tab.before a s = true := by
  have h5 : Cmp5.tab.before a s = true := unparts (wk h (.code Cmp5.yN Cmp5.yB 7 (some .int))) (wks h (.initialized Cmp5.yN.cls :: Cmp5.site))
  have hc : CodL.tab.before a s = true := unparts (wk h (.code CodL.yN CodL.yB 2 (some .byte))) (wks h (.initialized CodL.yN.cls :: CodL.site))
  have q5 : ∀ w ∈ Cmp5.tab :: words, w.before a s = true := fun w hw => (List.mem_cons.mp hw).elim (fun e => e ▸ h5) (h w)
  have h3 : Cmp3.tab.before a s = true := unparts (wk q5 (.code Cmp3.yN Cmp3.yB 6 (some (.array .byte)))) (wks q5 (.initialized Cmp3.yN.cls :: Cmp3.site))
  have q3 : ∀ w ∈ Cmp3.tab :: CodL.tab :: words, w.before a s = true := fun w hw => (List.mem_cons.mp hw).elim (fun e => e ▸ h3) fun hw => (List.mem_cons.mp hw).elim (fun e => e ▸ hc) (h w)
  have h4 : New4.tab.before a s = true := unparts (wk q3 (.code New4.yN New4.yB 6 none)) (wks q3 (.initialized New4.yN.cls :: New4.site))
  have q4 : ∀ w ∈ New4.tab :: words, w.before a s = true := fun w hw => (List.mem_cons.mp hw).elim (fun e => e ▸ h4) (h w)
  exact unparts (wk q4 (.code New1.yN New1.yB 2 none)) (wks q4 (.initialized New1.yN.cls :: New1.site))
/-- the words ride from the start Z to the walk's own state -/
theorem moved {Z s : State} {a0 args : Array Value} (hZ : Z.Warmed39 s.vm) (hw : ∀ d ∈ words, d.before a0 Z = true) : ∀ d ∈ words, d.before args s = true := fun d hd => by
  have q := hw d hd
  have t : ∀ d ∈ words, d = .arrayClass .byte ∨ (d.onTables && d.keepsFace) = true := by decide +kernel
  rcases t d hd with rfl | t
  · exact RoadKit.mvA hZ q
  · exact RoadKit.mv hZ q t
/-- WHAT COMES BACK, over the tables of the start Z: h the heap at the call, h' behind it -/
def Q (Z : State) (x : Addr) (A : Cell) (h : Heap) (v : Option Value) (h' : Heap) (L : List Loc) : Prop := v = none ∧ (∀ y ∈ L, y.base = x) ∧ RoadKit.Keep h h' [x] ∧ h'.size = h.size + 1 ∧ RoadKit.Exa Z h' x ST ∧ RoadKit.Fld Z h' x ST "value" "[B" (.ref h.size) ∧ RoadKit.Fld Z h' x ST "coder" "B" (.int 0) ∧
  (∃ V : Cell, RoadKit.Arr Z h' h.size V .byte ∧ V.vm = .none ∧ Z.vm.findClass "[B" = some V.cls ∧ V.slots.size = A.slots.size ∧ ∀ j, j < A.slots.size → V.slots[j]? = some (.int (lo8 (cv A j)))) ∧
  ∀ (O n d : String) (w : Value), RoadKit.Fld Z h x O n d w → RoadKit.slotOf Z O n d ≠ RoadKit.slotOf Z ST "value" "[B" → RoadKit.slotOf Z O n d ≠ RoadKit.slotOf Z ST "coder" "B" → RoadKit.Fld Z h' x O n d w
/-- **new String(chars) AT A CALL, IN THE ROAD'S FORM**: for specialBack behind newO: x the fresh String, b the char[] with the cell A -/
theorem back {p : Program} {l : Launch} {e : Env} {R : Room} {s : State} {args : Array Value} {below : List Frame} {len W : Nat} {Z : State} {a0 : Array Value} {h : Heap} (hZ : Z.Warmed39 s.vm) (hw : ∀ d ∈ words, d.before a0 Z = true) {kI : Nat} (wi : (Jvm.Cond.instantiable ST kI).before a0 Z = true)
    {x b : Addr} {A : Cell} {z : Int32} {v0 c0 : Value} (E : RoadKit.Exa Z h x ST) (V : RoadKit.Fld Z h x ST "value" "[B" v0) (C : RoadKit.Fld Z h x ST "coder" "B" c0) (K : RoadKit.Arr Z h b A .char) (hty : Typed .char A) (S : RoadKit.Sta Z h ST "COMPACT_STRINGS" "Z" (.int z)) (hz : ¬ z = 0)
    (l0 : 0 < A.slots.size) (l2 : A.slots.size ≤ 536870912) (hp : ∀ i, i < A.slots.size → ¬ 255 < cv A i) (hfr : 4 ≤ R.frames) (hlo : W + 65 ≤ R.locals) :
    Back l R p e below s args New1.yN len W (fun P a => a = #[.ref x, .ref b] ∧ P.U.heap = h ∧ P.cells + 1 ≤ R.cells ∧ P.slots + A.slots.size ≤ R.slots)
      (fun P _ v B => ∃ L, Q Z x A h v B.U.heap L ∧ B.locs = P.locs ++ L ∧ B.cells = P.cells + 1 ∧ B.slots = P.slots + A.slots.size) := by
  intro m meth c P g ig mk a X hg hsize hdg hW hn hp'
  obtain ⟨rfl, rfl, r1, r2⟩ := hp'
  have al : Z.vm.Alike P.U.vm := hZ.alike.trans X.warmed.alike
  obtain ⟨D, cfV, kV, iV, fV, hD, gV, stV, knV, obV, asV, slV⟩ := id V
  obtain ⟨D', cfC, kC, iC, fC, hD', gC, stC, -, -, asC, slC⟩ := id C
  cases hD.symm.trans hD'
  obtain ⟨D2, kD, e1, e2, e3, e4, e5⟩ := id E
  cases hD.symm.trans e1
  obtain ⟨c2, k2, i1, i2, i3, -⟩ := Cond.instantiable_spec wi
  cases e2.symm.trans i1
  cases e3.symm.trans i2
  obtain ⟨kU, u1, u2⟩ := al.2.2 _ _ e3
  have hB : Blank ST x D P.U := ⟨hD, ⟨knV, fun q hq => by rw [hq] at obV; cases obV⟩, by rw [al.findClass]; exact e2, kU, u1, by rw [u2]; exact i3, by rw [u2]; exact e5 i3⟩
  have F1 : Found ST "value" "[B" fV P.U := ⟨SBG.found_only al ⟨cfV, kV, iV, gV⟩, stV⟩
  have F2 : Found ST "coder" "B" fC P.U := ⟨SBG.found_only al ⟨cfC, kC, iC, gC⟩, stC⟩
  have hA : Ch b A P.U := ⟨⟨K.1, State.isArrayOf_alike al K.2.1, K.2.2, by omega⟩, hty⟩
  have hS : StaticIs P.U ST "COMPACT_STRINGS" "Z" (.int z) := by
    obtain ⟨cfS, iS, kS, fS, st, cS, t1, t2, t3, t4, t5, t6, t7⟩ := S
    exact StaticIs.there (s := { Z with heap := P.U.heap }) ⟨cfS, iS, kS, fS, st, cS, t1, t2, t3, t4, t5, (fun q => by rw [q] at t6; cases t6), t7⟩ al rfl
  obtain ⟨v, B, X', ⟨⟨hv, E', V', q1, q2, q3, q4, q5, q6, q7, q8, q9, q10, q11⟩, hl, hc, hs⟩, st⟩ := New1.pays x D fV fC b A z (tab_of (moved hZ hw)) hfr hlo m meth c P g ig mk _ X hg hsize hdg hW hn ⟨r1, r2, rfl, hB, F1, F2, hA, hS, hz, l0, l2, hp⟩
  have al' : Z.vm.Alike B.U.vm := hZ.alike.trans X'.warmed.alike
  have hsz : E'.slots.size = D.slots.size := by
    obtain ⟨-, -, -, kB, w1, w2, w3⟩ := q1
    obtain ⟨kB', y1, y2⟩ := al'.2.2 _ _ e3
    rw [q2.2.1] at w1
    cases w1.symm.trans y1
    rw [w3, e5 i3, y2]
  refine ⟨v, B, X', ⟨_, ⟨hv, ?_, ⟨by omega, fun y cy hy hn' => q10 y cy (by simpa using hn') hy, fun y cy hy => ?_⟩, q11, ⟨E', _, q1.1, by rw [q2.2.1]; exact e2, by rw [q2.2.1]; exact e3, by rw [q2.1]; exact obV, fun _ => by rw [hsz]; exact e5 i3⟩,
    ⟨E', cfV, kV, iV, fV, q1.1, gV, stV, by rw [q2.1]; exact knV, by rw [q2.1]; exact obV, by rw [q2.2.1]; exact asV, q3⟩, ⟨E', cfC, kC, iC, fC, q1.1, gC, stC, by rw [q2.1]; exact knV, by rw [q2.1]; exact obV, by rw [q2.2.1]; exact asC, q4⟩,
    ⟨V', ⟨q5.1, State.isArrayOf_alike al'.symm q5.2.1, q5.2.2.1⟩, q6, by rw [← al'.findClass]; exact q7, q8, fun j hj => by have := q9 j hj; rwa [Nat.zero_add] at this⟩, fun O n d w F n1 n2 => ?_⟩, hl, hc, hs⟩, st⟩
  · intro y hy
    simp only [List.mem_cons, List.not_mem_nil, or_false] at hy
    rcases hy with rfl | rfl <;> rfl
  · by_cases q : y = x
    · subst q
      cases hD.symm.trans hy
      exact ⟨E', q1.1, q2.2.1, q2.1, hsz⟩
    · exact ⟨cy, q10 y cy q hy, rfl, rfl, rfl⟩
  · obtain ⟨D3, cf, k, i, f, g1, g2, g3, g4, g5, g6, g7⟩ := F
    cases hD.symm.trans g1
    simp only [RoadKit.slotOf, g2, gV, gC, Option.map_some, Option.getD_some] at n1 n2
    exact ⟨E', cf, k, i, f, q1.1, g2, g3, by rw [q2.1]; exact g4, by rw [q2.1]; exact g5, by rw [q2.2.1]; exact g6, by rw [q2.2.2 f.slot (by simp [n1, n2])]; exact g7⟩
end StrChars.Road
namespace StrChars.Road
open Jvm Sem ClassFile Op Lib Jvm.Stand Jvm.Free Jvm.Free.XT
/-- WHAT COMES BACK, the byte[] as a list of values -/
def QA (Z : State) (x : Addr) (zn : Int32) (cs : List Int32) (h : Heap) (v : Option Value) (h' : Heap) (L : List Loc) : Prop := v = none ∧ (∀ y ∈ L, y.base = x) ∧ RoadKit.Keep h h' [x] ∧ h'.size = h.size + 1 ∧ RoadKit.Exa Z h' x ST ∧ RoadKit.Fld Z h' x ST "value" "[B" (.ref h.size) ∧ RoadKit.Fld Z h' x ST "coder" "B" (.int 0) ∧
  (∃ kb, Z.vm.findClass "[B" = some kb ∧ RoadKit.Arv Z h' h.size kb .byte zn (cs.map fun c => .int (lo8 c)) (.int 0)) ∧
  ∀ (O n d : String) (w : Value), RoadKit.Fld Z h x O n d w → RoadKit.slotOf Z O n d ≠ RoadKit.slotOf Z ST "value" "[B" → RoadKit.slotOf Z O n d ≠ RoadKit.slotOf Z ST "coder" "B" → RoadKit.Fld Z h' x O n d w
/-- **new String(chars) AT A CALL, THE ARRAYS AS LISTS**: the char[] at b holds cs, not empty, no char above 255 -/
theorem backArv {p : Program} {l : Launch} {e : Env} {R : Room} {s : State} {args : Array Value} {below : List Frame} {len W : Nat} {Z : State} {a0 : Array Value} {h : Heap} (hZ : Z.Warmed39 s.vm) (hw : ∀ d ∈ words, d.before a0 Z = true) {kI : Nat} (wi : (Jvm.Cond.instantiable ST kI).before a0 Z = true)
    {x b : Addr} {k : ClassId} {zn z : Int32} {cs : List Int32} {dv v0 c0 : Value} (E : RoadKit.Exa Z h x ST) (V : RoadKit.Fld Z h x ST "value" "[B" v0) (C : RoadKit.Fld Z h x ST "coder" "B" c0) (K : RoadKit.Arv Z h b k .char zn (cs.map Value.int) dv) (S : RoadKit.Sta Z h ST "COMPACT_STRINGS" "Z" (.int z)) (hz : ¬ z = 0)
    (hlen : zn.toNatClampNeg = cs.length) (h0 : 0 < cs.length) (hbig : cs.length ≤ 536870912) (hall : ∀ c ∈ cs, ¬ 255 < c) (hfr : 4 ≤ R.frames) (hlo : W + 65 ≤ R.locals) :
    Back l R p e below s args New1.yN len W (fun P a => a = #[.ref x, .ref b] ∧ P.U.heap = h ∧ P.cells + 1 ≤ R.cells ∧ P.slots + cs.length ≤ R.slots)
      (fun P _ v B => ∃ L, QA Z x zn cs h v B.U.heap L ∧ B.locs = P.locs ++ L ∧ B.cells = P.cells + 1 ∧ B.slots = P.slots + cs.length) := by
  obtain ⟨A, K1, K2, K3, K4, K5, K6⟩ := K
  have e : A.slots.size = cs.length := K3.trans hlen
  have hat : ∀ (i : Nat) (hi : i < cs.length), A.slots[i]? = some (.int cs[i]) := fun i hi => by rw [K5 i (by omega)]; simp [List.getD_eq_getElem?_getD, hi]
  have hcv : ∀ (i : Nat) (hi : i < cs.length), cv A i = cs[i] := fun i hi => by unfold cv; rw [hat i hi]
  have hty : Typed .char A := fun i v hv => by
    have hi : i < A.slots.size := (Array.getElem?_eq_some_iff.mp hv).1
    have q := K5 i hi
    rw [hv] at q
    rw [Option.some.inj q]
    exact K6 i hi
  refine Back.mono (back hZ hw wi E V C K1 hty S hz (by omega) (by omega) (fun i hi => by rw [hcv i (by omega)]; exact hall _ (List.getElem_mem _)) hfr hlo) (fun P a hp => ⟨hp.1, hp.2.1, hp.2.2.1, by rw [e]; exact hp.2.2.2⟩) (fun P a v B hp hq => ?_)
  obtain ⟨L, ⟨q1, q2, q3, q4, q5, q6, q7, ⟨V', v1, v2, v3, v4, v5⟩, q9⟩, hl, hc, hs⟩ := hq
  refine ⟨L, ⟨q1, q2, q3, q4, q5, q6, q7, ⟨V'.cls, v3, V', v1, rfl, by rw [v4, e, hlen], K4, fun i hi => ?_, fun i hi => ?_⟩, q9⟩, hl, hc, by rw [hs, e]⟩
  · have hi' : i < cs.length := by omega
    rw [v5 i (by omega), hcv i hi']; simp [List.getD_eq_getElem?_getD, hi']
  · have hi' : i < cs.length := by omega
    simp only [List.getD_eq_getElem?_getD, List.getElem?_map, List.getElem?_eq_getElem hi', Option.map_some, Option.getD_some]
    exact fits_lo8 _
end StrChars.Road
namespace StrChars.Road
open Jvm Sem ClassFile Op Lib Jvm.Stand Jvm.Free Jvm.Free.XT
/-- WHAT COMES BACK, in the writer's own shape -/
def QV (Z : State) (x : Addr) (N : Int32) (bs : List Int32) (h : Heap) (n0 : Nat) (v : Option Value) (h' : Heap) (L : List Loc) : Prop := v = none ∧ RoadKit.Fr n0 L ∧ RoadKit.Keep h h' [x] ∧ RoadKit.Exa Z h' x ST ∧ RoadKit.Fld Z h' x ST "coder" "B" (.int 0) ∧
  ∃ (t : Addr) (kb : ClassId), n0 ≤ t ∧ h.size ≤ t ∧ ¬ t = x ∧ RoadKit.Fld Z h' x ST "value" "[B" (.ref t) ∧ RoadKit.Arv Z h' t kb .byte N (bs.map Value.int) (.int 0)
/-- **new String(chars) AT A CALL, FOR THE WRITER**: a char[] of n known ints, each 0 to 255 -/
theorem backV {p : Program} {l : Launch} {e : Env} {R : Room} {s : State} {args : Array Value} {below : List Frame} {len W : Nat} {Z : State} {a0 : Array Value} {h : Heap} (hZ : Z.Warmed39 s.vm) (hw : ∀ d ∈ words, d.before a0 Z = true) {kI : Nat} (wi : (Jvm.Cond.instantiable ST kI).before a0 Z = true)
    {x b : Addr} {kC : ClassId} {cs bs : List Int32} {d v0 c0 : Value} {z N : Int32} {n n0 : Nat} (hx0 : n0 ≤ x) (hh0 : n0 ≤ h.size) (E : RoadKit.Exa Z h x ST) (V : RoadKit.Fld Z h x ST "value" "[B" v0) (C : RoadKit.Fld Z h x ST "coder" "B" c0) (K : RoadKit.Arv Z h b kC .char N (cs.map Value.int) d) (S : RoadKit.Sta Z h ST "COMPACT_STRINGS" "Z" (.int z)) (hz : ¬ z = 0)
    (hn : cs.length = n) (hN : N = Int32.ofNat n) (l0 : 0 < n) (l2 : n ≤ 4000) (hp : ∀ c ∈ cs, ¬ c < 0 ∧ ¬ (255 : Int32) < c) (hb : bs = cs.map (fun c => c.toInt8.toInt32)) (hfr : 4 ≤ R.frames) (hlo : W + 65 ≤ R.locals) :
    Back l R p e below s args (⟨"java/lang/String", "<init>", "([C)V"⟩ : MethodName) len W (fun P a => a = #[.ref x, .ref b] ∧ P.U.heap = h ∧ P.cells + 1 ≤ R.cells ∧ P.slots + n ≤ R.slots)
      (fun P _ v B => ∃ L, QV Z x N bs h n0 v B.U.heap L ∧ B.locs = P.locs ++ L ∧ B.cells = P.cells + 1 ∧ B.slots = P.slots + n) := by
  subst hn hN hb
  refine Back.mono (backArv hZ hw wi E V C K S hz (n32 (by omega)) l0 (by omega) (fun c hc => (hp c hc).2) hfr hlo) (fun P a hp => hp) (fun P a v B hp hq => ?_)
  obtain ⟨L, ⟨q1, q2, q3, q4, q5, q6, q7, ⟨kb, v1, v2⟩, q9⟩, hl, hc, hs⟩ := hq
  exact ⟨L, ⟨q1, fun y hy => by rw [q2 y hy]; exact hx0, q3, q5, q7, h.size, kb, hh0, Nat.le_refl _, Nat.ne_of_gt E.lt, q6, by rw [List.map_map]; exact v2⟩, hl, hc, hs⟩
end StrChars.Road
namespace StrChars
open Jvm Sem ClassFile Op Lib Jvm.Stand Jvm.Free.XT Jvm.Free.ALB Jvm.Free.JM Jvm.Free
open Jvm.Lib.Cold (StaticIs)
def hi8 (x : Int32) : Int32 := lo8 (x >>> ((8 : Int32) &&& 31))
/-- what StringUTF16.getChar makes of two bytes -/
def pairCh (u v : Int32) : Int32 := (((u &&& 255) <<< ((0 : Int32) &&& 31)) ||| ((v &&& 255) <<< ((8 : Int32) &&& 31))).toUInt32.toUInt16.toUInt32.toInt32
theorem lo8_and (x : Int32) : (lo8 x &&& 255).toBitVec.toNat = x.toBitVec.toNat % 256 := by
  have h : (lo8 x).toBitVec = (x.toBitVec.signExtend 8).signExtend 32 := by rw [lo8, Int8.toBitVec_toInt32, Int32.toBitVec_toInt8]
  rw [Int32.toBitVec_and, BitVec.toNat_and, h]
  have e : ((x.toBitVec.signExtend 8).signExtend 32).toNat % 256 = x.toBitVec.toNat % 256 := by
    rw [BitVec.toNat_signExtend]
    have hlt := x.toBitVec.isLt
    simp only [BitVec.toNat_setWidth, BitVec.toNat_signExtend]
    split <;> split <;> omega
  rw [← e]
  exact Nat.and_two_pow_sub_one_eq_mod _ 8
theorem pair_says {c : Int32} (h0 : ¬ c < 0) (h1 : ¬ 65535 < c) : pairCh (lo8 c) (hi8 c) = c := by
  rw [Int32.lt_iff_toInt_lt] at h0 h1
  have e0 : (0 : Int32).toInt = 0 := rfl
  have e1 : (65535 : Int32).toInt = 65535 := rfl
  have hc : c.toInt = c.toBitVec.toNat := by
    have := c.toBitVec.isLt
    have e : c.toInt = c.toBitVec.toInt := rfl
    rw [e] at h0 h1
    rw [e]
    rw [BitVec.toInt_eq_toNat_cond] at h0 h1 ⊢
    split at h0 <;> split <;> omega
  have hn : c.toBitVec.toNat < 65536 := by omega
  have a1 := lo8_and c
  have a2 : (hi8 c &&& 255).toBitVec.toNat = c.toBitVec.toNat / 256 := by
    rw [hi8, lo8_and]
    have e : ((8 : Int32) &&& 31) = 8 := by decide
    rw [e, Int32.toBitVec_shiftRight]
    have e2 : ((8 : Int32).toBitVec.smod 32) = 8#32 := by decide
    rw [e2, BitVec.sshiftRight_eq', BitVec.toNat_sshiftRight_of_msb_false (by rw [BitVec.msb_eq_false_iff_two_mul_lt]; omega)]
    show c.toBitVec.toNat >>> 8 % 256 = _
    rw [Nat.shiftRight_eq_div_pow]
    omega
  unfold pairCh
  apply Int32.toBitVec_inj.mp
  apply BitVec.eq_of_toNat_eq
  have f0 : ((0 : Int32) &&& 31) = 0 := by decide
  have f8 : ((8 : Int32) &&& 31) = 8 := by decide
  rw [f0, f8]
  have g : (((lo8 c &&& 255) <<< (0 : Int32)) ||| ((hi8 c &&& 255) <<< (8 : Int32))).toBitVec.toNat = c.toBitVec.toNat := by
    rw [Int32.toBitVec_or, Int32.toBitVec_shiftLeft, Int32.toBitVec_shiftLeft]
    have s0 : ((0 : Int32).toBitVec.smod 32) = 0#32 := by decide
    have s8 : ((8 : Int32).toBitVec.smod 32) = 8#32 := by decide
    rw [s0, s8, BitVec.toNat_or]
    simp only [BitVec.shiftLeft_eq', BitVec.toNat_shiftLeft, a1, a2]
    show (c.toBitVec.toNat % 256) <<< 0 % 2 ^ 32 ||| (c.toBitVec.toNat / 256) <<< 8 % 2 ^ 32 = _
    rw [Nat.shiftLeft_zero, Nat.mod_eq_of_lt (show c.toBitVec.toNat % 256 < 2 ^ 32 by omega), Nat.mod_eq_of_lt (show (c.toBitVec.toNat / 256) <<< 8 < 2 ^ 32 by rw [Nat.shiftLeft_eq]; omega), Nat.or_comm, ← Nat.shiftLeft_add_eq_or_of_lt (by omega), Nat.shiftLeft_eq]
    omega
  show BitVec.toNat (((((lo8 c &&& 255) <<< (0 : Int32)) ||| ((hi8 c &&& 255) <<< (8 : Int32))).toBitVec.setWidth 16).setWidth 32) = _
  rw [BitVec.toNat_setWidth, BitVec.toNat_setWidth, g]
  omega
end StrChars
namespace StrChars
open Jvm Sem ClassFile Op Lib Jvm.Stand Jvm.Free.XT Jvm.Free.ALB Jvm.Free.JM Jvm.Free
open Jvm.Lib.Cold (StaticIs)
/-- the array's cell V codes the n chars f 0 .. f (n - 1) by the coder cd, as the JDK does: coder 1 just where some char is above 255 -/
def Cod (cd : Int32) (n : Nat) (f : Nat → Int32) (V : Cell) : Prop := (cd = 0 ∧ V.slots.size = n ∧ ∀ j, j < n → V.slots[j]? = some (.int (lo8 (f j))) ∧ ¬ 255 < f j) ∨ (cd = 1 ∧ V.slots.size = 2 * n ∧ (∀ j, j < n → V.slots[2 * j]? = some (.int (lo8 (f j))) ∧ V.slots[2 * j + 1]? = some (.int (hi8 (f j)))) ∧ ∃ j, j < n ∧ 255 < f j)
/-- **x is a String of the n chars f 0 .. f (n - 1)**, Latin-1 or UTF-16; its array at t has the cell V -/
def Txt (x t : Addr) (V : Cell) (cd : Int32) (n : Nat) (f : Nat → Int32) (U : State) : Prop := Exact "java/lang/String" x U ∧ Has x "java/lang/String" "value" "[B" (.ref t) U ∧ Has x "java/lang/String" "coder" "B" (.int cd) U ∧ XT.Arr .byte t V U ∧ Cod cd n f V ∧ ∀ j, j < n → ¬ f j < 0 ∧ ¬ 65535 < f j
theorem Txt.mv {x t : Addr} {V : Cell} {cd : Int32} {n : Nat} {f : Nat → Int32} {U U' : State} (h : Txt x t V cd n f U) (hal : U.vm.Alike U'.vm) (hh : U'.heap = U.heap) : Txt x t V cd n f U' := ⟨h.1.mv hal hh, h.2.1.mv hal hh, h.2.2.1.mv hal hh, h.2.2.2.1.mv hal hh, h.2.2.2.2⟩
end StrChars
namespace StrChars.Road
open Jvm Sem ClassFile Op Lib Jvm.Stand Jvm.Free Jvm.Free.XT
open Jvm.Lib.Cold (StaticIs)
theorem consq {a : Array Value} {s : State} {c : Jvm.Cond} {L : List Jvm.Cond} (h0 : c.before a s = true) (h : ∀ w ∈ L, w.before a s = true) : ∀ w ∈ c :: L, w.before a s = true := fun w hw => (List.mem_cons.mp hw).elim (fun e => e ▸ h0) (h w)
/-- the bytes of the chars cs, low before high -/
def wideBytes : List Int32 → List Value
  | [] => []
  | c :: cs => .int (lo8 c) :: .int (hi8 c) :: wideBytes cs
theorem wide_lo (d : Value) : ∀ (cs : List Int32) (j : Nat), j < cs.length → (wideBytes cs).getD (2 * j) d = .int (lo8 (cs.getD j 0))
  | [], j, h => absurd h (Nat.not_lt_zero j)
  | c :: cs, 0, _ => rfl
  | c :: cs, j + 1, h => by
    have q := wide_lo d cs j (by simpa using h)
    rw [show 2 * (j + 1) = 2 * j + 1 + 1 from by omega]
    simpa [wideBytes] using q
theorem wide_hi (d : Value) : ∀ (cs : List Int32) (j : Nat), j < cs.length → (wideBytes cs).getD (2 * j + 1) d = .int (hi8 (cs.getD j 0))
  | [], j, h => absurd h (Nat.not_lt_zero j)
  | c :: cs, 0, _ => rfl
  | c :: cs, j + 1, h => by
    have q := wide_hi d cs j (by simpa using h)
    rw [show 2 * (j + 1) + 1 = 2 * j + 1 + 1 + 1 from by omega]
    simpa [wideBytes] using q
theorem low_at (d : Value) (cs : List Int32) (j : Nat) (h : j < cs.length) : (cs.map fun c => Value.int (lo8 c)).getD j d = .int (lo8 (cs.getD j 0)) := by
  simp [List.getD_eq_getElem?_getD, h]
/-- an array of N2 bytes vs codes the chars cs by the coder cd -/
def CodA (cs : List Int32) (cd N2 : Int32) (vs : List Value) : Prop := (cd = 0 ∧ N2 = Int32.ofNat cs.length ∧ vs = (cs.map fun c => Value.int (lo8 c)) ∧ ∀ c ∈ cs, ¬ 255 < c) ∨ (cd = 1 ∧ N2 = Int32.ofNat (2 * cs.length) ∧ vs = wideBytes cs ∧ ∃ c ∈ cs, 255 < c)
theorem CodA.cod {cs : List Int32} {cd N2 : Int32} {vs : List Value} {V : Cell} (h : CodA cs cd N2 vs) (hn : 2 * cs.length < 2 ^ 31) (hs : V.slots.size = N2.toNatClampNeg) (hv : RoadKit.Has V vs (.int 0)) : Cod cd cs.length (fun j => cs.getD j 0) V := by
  rcases h with ⟨rfl, rfl, rfl, h⟩ | ⟨rfl, rfl, rfl, c, hc, hw⟩
  · rw [n32 (by omega)] at hs
    exact Or.inl ⟨rfl, hs, fun j hj => ⟨by rw [hv j (by omega), low_at _ _ _ hj], by
      have e : cs.getD j 0 = cs[j] := by simp [List.getD_eq_getElem?_getD, hj]
      show ¬ 255 < cs.getD j 0
      rw [e]; exact h _ (List.getElem_mem _)⟩⟩
  · rw [n32 (by omega)] at hs
    obtain ⟨j, hj, rfl⟩ := List.getElem_of_mem hc
    exact Or.inr ⟨rfl, hs, fun j hj => ⟨by rw [hv _ (by omega), wide_lo _ _ _ hj], by rw [hv _ (by omega), wide_hi _ _ _ hj]⟩, j, hj, by
      have e : cs.getD j 0 = cs[j] := by simp [List.getD_eq_getElem?_getD, hj]
      show 255 < cs.getD j 0
      rw [e]; exact hw⟩
/-- an object of exactly java/lang/String, its two fields found: as the laws ask it -/
theorem strObj {Z U : State} {a0 : Array Value} {kI : Nat} (wi : (Jvm.Cond.instantiable ST kI).before a0 Z = true) (al : Z.vm.Alike U.vm) {x : Addr} {v0 c0 : Value} (E : RoadKit.Exa Z U.heap x ST) (V : RoadKit.Fld Z U.heap x ST "value" "[B" v0) (C : RoadKit.Fld Z U.heap x ST "coder" "B" c0) :
    ∃ (D : Cell) (fV fC : Field), Blank ST x D U ∧ Found ST "value" "[B" fV U ∧ Found ST "coder" "B" fC U ∧ D.slots[fV.slot]? = some v0 ∧ D.slots[fC.slot]? = some c0 ∧ RoadKit.slotOf Z ST "value" "[B" = fV.slot ∧ RoadKit.slotOf Z ST "coder" "B" = fC.slot := by
  obtain ⟨D, cfV, kV, iV, fV, hD, gV, stV, knV, obV, asV, slV⟩ := V
  obtain ⟨D', cfC, kC, iC, fC, hD', gC, stC, -, -, asC, slC⟩ := C
  cases hD.symm.trans hD'
  obtain ⟨D2, kD, e1, e2, e3, e4, e5⟩ := E
  cases hD.symm.trans e1
  obtain ⟨c2, k2, i1, i2, i3, -⟩ := Cond.instantiable_spec wi
  cases e2.symm.trans i1
  cases e3.symm.trans i2
  obtain ⟨kU, u1, u2⟩ := al.2.2 _ _ e3
  exact ⟨D, fV, fC, ⟨hD, ⟨knV, fun q hq => by rw [hq] at obV; cases obV⟩, by rw [al.findClass]; exact e2, kU, u1, by rw [u2]; exact i3, by rw [u2]; exact e5 i3⟩, ⟨SBG.found_only al ⟨cfV, kV, iV, gV⟩, stV⟩, ⟨SBG.found_only al ⟨cfC, kC, iC, gC⟩, stC⟩, slV, slC, by simp [RoadKit.slotOf, gV], by simp [RoadKit.slotOf, gC]⟩
theorem sta_is {Z U : State} (al : Z.vm.Alike U.vm) {C n d : String} {v : Value} (S : RoadKit.Sta Z U.heap C n d v) : StaticIs U C n d v := by
  obtain ⟨cfS, iS, kS, fS, st, cS, t1, t2, t3, t4, t5, t6, t7⟩ := S
  exact StaticIs.there (s := { Z with heap := U.heap }) ⟨cfS, iS, kS, fS, st, cS, t1, t2, t3, t4, t5, (fun q => by rw [q] at t6; cases t6), t7⟩ al rfl
end StrChars.Road
namespace StrChars
open Jvm Sem ClassFile Op Lib Jvm.Stand Jvm.Free.XT Jvm.Free.ALB Jvm.Free.JM Jvm.Free
open Jvm.Lib.Cold (StaticIs)
/-- what place i of a byte[]'s cell holds -/
def yv (A : Cell) (i : Nat) : Int32 := match A.slots[i]? with | some (.int x) => x | _ => 0
theorem yv_get {a : Addr} {A : Cell} {U : State} (h : XT.Arr .byte a A U) (ht : Typed .byte A) {i : Nat} (hi : i < A.slots.size) : A.slots[i]? = some (.int (yv A i)) := by
  have e := Array.getElem?_eq_getElem hi
  have f := ht i _ e
  unfold yv; rw [e]
  generalize A.slots[i] = v at f
  cases v <;> simp [fits] at f ⊢
/-- the two arrays are equal, place for place -/
def EqC (A B : Cell) : Prop := A.slots.size = B.slots.size ∧ ∀ i, i < A.slots.size → yv A i = yv B i
/-- a boolean that says whether p -/
def Says01 (q : Prop) (r : Option Value) (s u : State) : Prop := ∃ v : Int32, r = some (.int v) ∧ u.heap = s.heap ∧ ((v = 1 ∧ q) ∨ (v = 0 ∧ ¬ q))
theorem Says01.mv {q : Prop} : ∀ r (U U' V V' : State), U'.heap = U.heap → V.vm.Alike V'.vm → V'.heap = V.heap → Says01 q r U V → Says01 q r U' V' :=
  fun r U U' V V' h1 _ h2 ⟨v, a, b, c⟩ => ⟨v, a, by rw [h1, h2]; exact b, c⟩
namespace LEq
def yN : MethodName := ⟨"java/lang/StringLatin1", "equals", "([B[B)Z"⟩
abbrev yB : ByteArray := jdk_43_method_13_code
theorem d0 : decode yB 0 = .ok (.aload_n 0, 1) := by decide +kernel
theorem d1 : decode yB 1 = .ok (.arraylength, 1) := by decide +kernel
theorem d2 : decode yB 2 = .ok (.aload_n 1, 1) := by decide +kernel
theorem d3 : decode yB 3 = .ok (.arraylength, 1) := by decide +kernel
theorem d4 : decode yB 4 = .ok (.if_icmp (.ne) 30, 3) := by decide +kernel
theorem d7 : decode yB 7 = .ok (.iconst 0, 1) := by decide +kernel
theorem d8 : decode yB 8 = .ok (.istore_n 2, 1) := by decide +kernel
theorem d9 : decode yB 9 = .ok (.iload_n 2, 1) := by decide +kernel
theorem d10 : decode yB 10 = .ok (.aload_n 0, 1) := by decide +kernel
theorem d11 : decode yB 11 = .ok (.arraylength, 1) := by decide +kernel
theorem d12 : decode yB 12 = .ok (.if_icmp (.ge) 20, 3) := by decide +kernel
theorem d15 : decode yB 15 = .ok (.aload_n 0, 1) := by decide +kernel
theorem d16 : decode yB 16 = .ok (.iload_n 2, 1) := by decide +kernel
theorem d17 : decode yB 17 = .ok (.baload, 1) := by decide +kernel
theorem d18 : decode yB 18 = .ok (.aload_n 1, 1) := by decide +kernel
theorem d19 : decode yB 19 = .ok (.iload_n 2, 1) := by decide +kernel
theorem d20 : decode yB 20 = .ok (.baload, 1) := by decide +kernel
theorem d21 : decode yB 21 = .ok (.if_icmp (.eq) 5, 3) := by decide +kernel
theorem d24 : decode yB 24 = .ok (.iconst 0, 1) := by decide +kernel
theorem d25 : decode yB 25 = .ok (.ireturn, 1) := by decide +kernel
theorem d26 : decode yB 26 = .ok (.iinc 2 1, 3) := by decide +kernel
theorem d29 : decode yB 29 = .ok (.goto (-20), 3) := by decide +kernel
theorem d32 : decode yB 32 = .ok (.iconst 1, 1) := by decide +kernel
theorem d33 : decode yB 33 = .ok (.ireturn, 1) := by decide +kernel
theorem d34 : decode yB 34 = .ok (.iconst 0, 1) := by decide +kernel
theorem d35 : decode yB 35 = .ok (.ireturn, 1) := by decide +kernel
def site : List Cond := []
def tab : Cond := tabOf yN yB 3 (some .boolean) site
def P (a : Addr) (A : Cell) (b : Addr) (B : Cell) (args : Array Value) (s : State) : Prop := args = #[.ref a, .ref b] ∧ XT.Arr .byte a A s ∧ Typed .byte A ∧ XT.Arr .byte b B s ∧ Typed .byte B
/-- whether two byte[] are equal, place for place -/
theorem law (l : Launch) (a : Addr) (A : Cell) (b : Addr) (B : Cell) : Law l yN 2 2 0 0 yB 3 (some .boolean) site (P a A b B) (Says01 (EqC A B)) [] 0 0 := by
  refine Law.of_walk (plainFor_of_name (by decide +kernel)) (by decide +kernel) (by decide +kernel) (by decide) (fun _ _ h => by rw [h.1]; rfl) (fun _ U U' hal hh h => ⟨h.1, h.2.1.mv hal hh, h.2.2.1, h.2.2.2.1.mv hal hh, h.2.2.2.2⟩) (fun r U U' V V' h1 hal h2 h => Says01.mv r U U' V V' h1 hal h2 h) ?_
  intro p e s m args below meth c s₁ X0 hexec hbytes hml hret hlk hnm hown hh0 W hP
  obtain ⟨rfl, hA, tA, hB, tB⟩ := hP
  have a31 := hA.2.2.2
  have b31 := hB.2.2.2
  have hA0 := hA.mv X0.warmed.alike hh0
  have hB0 := hB.mv X0.warmed.alike hh0
  have c1 : Steps p.tables e below (s₁.setTop (entryFrame m #[.ref a, .ref b] 3)) (s₁.setTop (mkF m 0 #[.val (.ref a), .val (.ref b), .unset] [])) := entry rfl
  have c2 : Steps p.tables e below (s₁.setTop (entryFrame m #[.ref a, .ref b] 3)) (s₁.setTop (mkF m 4 #[.val (.ref a), .val (.ref b), .unset] [.int (Int32.ofNat B.slots.size), .int (Int32.ofNat A.slots.size)])) := c1.trans (by
    refine XS.aloadN X0.here hexec rfl (hb hbytes d0) rfl rfl ?_
    refine X0.alen hexec hA0 rfl rfl (hb hbytes d1) ?_
    refine XS.aloadN X0.here hexec rfl (hb hbytes d2) rfl rfl ?_
    refine X0.alen hexec hB0 rfl rfl (hb hbytes d3) ?_
    exact Steps.refl _)
  by_cases hs : A.slots.size = B.slots.size
  · have c3 : Steps p.tables e below (s₁.setTop (entryFrame m #[.ref a, .ref b] 3)) (s₁.setTop (mkF m 9 #[.val (.ref a), .val (.ref b), .val (.int 0)] [])) := c2.trans (by
      refine XS.icmpNo X0.here hexec rfl (hb hbytes d4) rfl (ii_ne_f (by rw [hs])) ?_
      refine iconstV X0.here hexec rfl 0 (hb hbytes d7) (by decide) ?_
      refine XS.istoreN X0.here hexec rfl (hb hbytes d8) rfl rfl ?_
      exact Steps.refl _)
    have loop : ∀ (r i : Nat), i + r = A.slots.size → (∀ j, j < i → yv A j = yv B j) → Steps p.tables e below (s₁.setTop (entryFrame m #[.ref a, .ref b] 3)) (s₁.setTop (mkF m 9 #[.val (.ref a), .val (.ref b), .val (.int (Int32.ofNat i))] [])) → ∃ (pc : Nat) (Ls : Array Slot) (v : Int32), (pc = 25 ∨ pc = 33) ∧ ((v = 1 ∧ EqC A B) ∨ (v = 0 ∧ ¬ EqC A B)) ∧ Steps p.tables e below (s₁.setTop (entryFrame m #[.ref a, .ref b] 3)) (s₁.setTop (mkF m pc Ls [.int v])) := by
      intro r
      induction r with
      | zero =>
        intro i hi he cl
        exact ⟨33, _, 1, Or.inr rfl, Or.inl ⟨rfl, hs, fun j hj => he j (by omega)⟩, cl.trans (by
          refine XS.iloadN X0.here hexec rfl (hb hbytes d9) rfl ?_
          refine XS.aloadN X0.here hexec rfl (hb hbytes d10) rfl rfl ?_
          refine X0.alen hexec hA0 rfl rfl (hb hbytes d11) ?_
          refine XS.icmpYes X0.here hexec rfl (pc0 := 12) rfl (hb hbytes d12) rfl (ii_ge_t (nlt32 (by omega) (by omega))) (by decide) rfl ?_
          refine iconstV X0.here hexec rfl 1 (hb hbytes d32) (by decide) ?_
          exact Steps.refl _)⟩
      | succ r ih =>
        intro i hi he cl
        have c4 : Steps p.tables e below (s₁.setTop (entryFrame m #[.ref a, .ref b] 3)) (s₁.setTop (mkF m 21 #[.val (.ref a), .val (.ref b), .val (.int (Int32.ofNat i))] [.int (yv B i), .int (yv A i)])) := cl.trans (by
          refine XS.iloadN X0.here hexec rfl (hb hbytes d9) rfl ?_
          refine XS.aloadN X0.here hexec rfl (hb hbytes d10) rfl rfl ?_
          refine X0.alen hexec hA0 rfl rfl (hb hbytes d11) ?_
          refine XS.icmpNo X0.here hexec rfl (hb hbytes d12) rfl (ii_ge_f (lt32 (by omega) (by omega))) ?_
          refine XS.aloadN X0.here hexec rfl (hb hbytes d15) rfl rfl ?_
          refine XS.iloadN X0.here hexec rfl (hb hbytes d16) rfl ?_
          refine X0.aget hexec hA0 rfl (yv_get hA tA (i := i) (by omega)) rfl rfl (hb hbytes d17) ?_
          refine XS.aloadN X0.here hexec rfl (hb hbytes d18) rfl rfl ?_
          refine XS.iloadN X0.here hexec rfl (hb hbytes d19) rfl ?_
          refine X0.aget hexec hB0 rfl (yv_get hB tB (i := i) (by omega)) rfl rfl (hb hbytes d20) ?_
          exact Steps.refl _)
        by_cases hv : yv A i = yv B i
        · have c5 : Steps p.tables e below (s₁.setTop (entryFrame m #[.ref a, .ref b] 3)) (s₁.setTop (mkF m 9 #[.val (.ref a), .val (.ref b), .val (.int (Int32.ofNat i + 1))] [])) := c4.trans (by
            refine XS.icmpYes X0.here hexec rfl (pc0 := 21) rfl (hb hbytes d21) rfl (ii_eq_t hv) (by decide) rfl ?_
            refine iincV X0.here hexec rfl 1 (hb hbytes d26) (by decide) rfl rfl ?_
            refine XS.goto X0.here hexec rfl (pc0 := 29) rfl (hb hbytes d29) (by decide) rfl ?_
            exact Steps.refl _)
          rw [succ32] at c5
          exact ih (i + 1) (by omega) (fun j hj => by
            by_cases e : j = i
            · rw [e]; exact hv
            · exact he j (by omega)) c5
        · exact ⟨25, _, 0, Or.inl rfl, Or.inr ⟨rfl, fun q => hv (q.2 i (by omega))⟩, c4.trans (by
            refine XS.icmpNo X0.here hexec rfl (hb hbytes d21) rfl (ii_eq_f hv) ?_
            refine iconstV X0.here hexec rfl 0 (hb hbytes d24) (by decide) ?_
            exact Steps.refl _)⟩
    obtain ⟨pc, Ls, v, hpc, hv, cz⟩ := loop A.slots.size 0 (by omega) (fun j hj => absurd hj (Nat.not_lt_zero j)) c3
    have nv : narrow .boolean (.int v) = .int v := by rcases hv with ⟨rfl, -⟩ | ⟨rfl, -⟩ <;> rfl
    rcases hpc with rfl | rfl
    · exact ⟨s₁, some (.int v), _, _, _, X0, rfl, rfl, rfl, (fun h => by cases h), ⟨v, rfl, hh0, hv⟩, fun fs hl => cz.trans (X0.ireturnOut hexec hret nv (Or.inr (Or.inl rfl)) (hb hbytes d25) hl)⟩
    · exact ⟨s₁, some (.int v), _, _, _, X0, rfl, rfl, rfl, (fun h => by cases h), ⟨v, rfl, hh0, hv⟩, fun fs hl => cz.trans (X0.ireturnOut hexec hret nv (Or.inr (Or.inl rfl)) (hb hbytes d33) hl)⟩
  · have c3 : Steps p.tables e below (s₁.setTop (entryFrame m #[.ref a, .ref b] 3)) (s₁.setTop (mkF m 35 #[.val (.ref a), .val (.ref b), .unset] [.int 0])) := c2.trans (by
      refine XS.icmpYes X0.here hexec rfl (pc0 := 4) rfl (hb hbytes d4) rfl (ii_ne_t (ne32 a31 b31 hs)) (by decide) rfl ?_
      refine iconstV X0.here hexec rfl 0 (hb hbytes d34) (by decide) ?_
      exact Steps.refl _)
    exact ⟨s₁, some (.int 0), _, _, _, X0, rfl, rfl, rfl, (fun h => by cases h), ⟨0, rfl, hh0, Or.inr ⟨rfl, fun q => hs q.1⟩⟩, fun fs hl => c3.trans (X0.ireturnOut hexec hret rfl (Or.inr (Or.inl rfl)) (hb hbytes d35) hl)⟩
end LEq
theorem Cod.ty {cd : Int32} {n : Nat} {f : Nat → Int32} {V : Cell} (h : Cod cd n f V) : Typed .byte V := fun i v hv => by
  have hi : i < V.slots.size := (Array.getElem?_eq_some_iff.mp hv).1
  rcases h with ⟨-, k1, k2⟩ | ⟨-, k1, k2, -⟩
  · rw [(k2 i (by omega)).1] at hv; cases hv; exact fits_lo8 _
  · rcases Nat.mod_two_eq_zero_or_one i with e | e
    · obtain ⟨j, rfl⟩ : ∃ j, i = 2 * j := ⟨i / 2, by omega⟩
      rw [(k2 j (by omega)).1] at hv; cases hv; exact fits_lo8 _
    · obtain ⟨j, rfl⟩ : ∃ j, i = 2 * j + 1 := ⟨i / 2, by omega⟩
      rw [(k2 j (by omega)).2] at hv; cases hv; exact fits_lo8 _
/-- the same text -/
def SameT (n : Nat) (f : Nat → Int32) (k : Nat) (g : Nat → Int32) : Prop := n = k ∧ ∀ j, j < n → f j = g j
theorem lo8_inj {x y : Int32} (h0 : ¬ x < 0) (h1 : ¬ 255 < x) (k0 : ¬ y < 0) (k1 : ¬ 255 < y) (h : lo8 x = lo8 y) : x = y := by
  rw [← lo8_mask h0 h1, ← lo8_mask k0 k1, h]
/-- arrays coded by one coder are equal just where the texts are -/
theorem Cod.eqv {cd : Int32} {n k : Nat} {f g : Nat → Int32} {V V' : Cell} (h : Cod cd n f V) (h' : Cod cd k g V') (hf : ∀ j, j < n → ¬ f j < 0 ∧ ¬ 65535 < f j) (hg : ∀ j, j < k → ¬ g j < 0 ∧ ¬ 65535 < g j) : EqC V V' ↔ SameT n f k g := by
  have yvv : ∀ {W : Cell} {i : Nat} {x : Int32}, W.slots[i]? = some (.int x) → yv W i = x := fun q => by unfold yv; rw [q]
  rcases h with ⟨rfl, k1, k2⟩ | ⟨rfl, k1, k2, -⟩
  · rcases h' with ⟨-, m1, m2⟩ | ⟨e, -⟩
    · constructor
      · rintro ⟨e1, e2⟩
        refine ⟨by omega, fun j hj => ?_⟩
        have q := e2 j (by omega)
        rw [yvv (k2 j hj).1, yvv (m2 j (by omega)).1] at q
        exact lo8_inj (hf j hj).1 (k2 j hj).2 (hg j (by omega)).1 (m2 j (by omega)).2 q
      · rintro ⟨rfl, e2⟩
        refine ⟨by omega, fun j hj => ?_⟩
        rw [yvv (k2 j (by omega)).1, yvv (m2 j (by omega)).1, e2 j (by omega)]
    · exact absurd e (by decide)
  · rcases h' with ⟨e, -⟩ | ⟨-, m1, m2, -⟩
    · exact absurd e (by decide)
    · constructor
      · rintro ⟨e1, e2⟩
        refine ⟨by omega, fun j hj => ?_⟩
        have q1 := e2 (2 * j) (by omega)
        have q2 := e2 (2 * j + 1) (by omega)
        rw [yvv (k2 j hj).1, yvv (m2 j (by omega)).1] at q1
        rw [yvv (k2 j hj).2, yvv (m2 j (by omega)).2] at q2
        rw [← pair_says (hf j hj).1 (hf j hj).2, ← pair_says (hg j (by omega)).1 (hg j (by omega)).2, q1, q2]
      · rintro ⟨rfl, e2⟩
        refine ⟨by omega, fun i hi => ?_⟩
        rcases Nat.mod_two_eq_zero_or_one i with e | e
        · obtain ⟨j, rfl⟩ : ∃ j, i = 2 * j := ⟨i / 2, by omega⟩
          rw [yvv (k2 j (by omega)).1, yvv (m2 j (by omega)).1, e2 j (by omega)]
        · obtain ⟨j, rfl⟩ : ∃ j, i = 2 * j + 1 := ⟨i / 2, by omega⟩
          rw [yvv (k2 j (by omega)).2, yvv (m2 j (by omega)).2, e2 j (by omega)]
/-- two codings differ: so do the texts -/
theorem Cod.dif {cd cd' : Int32} {n k : Nat} {f g : Nat → Int32} {V V' : Cell} (h : Cod cd n f V) (h' : Cod cd' k g V') (hne : ¬ cd = cd') : ¬ SameT n f k g := by
  rintro ⟨rfl, e⟩
  rcases h with ⟨rfl, -, k2⟩ | ⟨rfl, -, -, j, hj, hw⟩
  · rcases h' with ⟨rfl, -⟩ | ⟨-, -, -, j, hj, hw⟩
    · exact hne rfl
    · exact (k2 j hj).2 (by rw [e j hj]; exact hw)
  · rcases h' with ⟨-, -, m2⟩ | ⟨rfl, -⟩
    · exact (m2 j hj).2 (by rw [← e j hj]; exact hw)
    · exact hne rfl
/-- an object of exactly C is an instance of C -/
theorem cinst {p : Program} {l : Launch} {e : Env} {R : Room} {s : State} {m : MethodId} {args : Array Value} {below : List Frame} {meth : Method} {c : Code} {T : State} {locs : List Loc} {cells slots : Nat} (X : Stand p l e R s m args below meth c T locs cells slots) (hexec : p.tables.exec = Jvm.exec) {own C : String} {index : Nat} (hown : s.vm.findClass own = some m.cls) (hlink : (Cond.classLink own index C).before args s = true) {a : Addr} (hE : Exact C a T)
    {g : JFrame} (hg : g.method = m) {rest : List Value} (hstack : g.stack = .ref a :: rest) (hdg : decode c.code g.pc = .ok (.instanceof index, 3)) :
    ∃ T', Stand p l e R s m args below meth c T' locs cells slots ∧ T'.heap = T.heap ∧ ∀ target, Steps p.tables e below (T'.setTop { g with pc := g.pc + 3, stack := .int 1 :: rest }) target → Steps p.tables e below (T.setTop g) target := by
  obtain ⟨cB, h1, D, h2, h3, h4⟩ := hE
  have h1' : s.vm.findClass C = some cB := by rw [← X.warmed.alike.findClass]; exact h1
  obtain ⟨vm', X', st⟩ := X.instanceofYes hexec hown hlink h2 h4 h1' (by rw [h3]; exact Jvm.Free.SB.assignable_self _ _) hg hstack hdg
  exact ⟨_, X', rfl, st⟩
theorem cself {p : Program} {l : Launch} {e : Env} {R : Room} {s : State} {m : MethodId} {args : Array Value} {below : List Frame} {meth : Method} {c : Code} {T : State} {locs : List Loc} {cells slots : Nat} (X : Stand p l e R s m args below meth c T locs cells slots) (hexec : p.tables.exec = Jvm.exec) {own C : String} {index : Nat} (hown : s.vm.findClass own = some m.cls) (hlink : (Cond.classLink own index C).before args s = true) {a : Addr} (hE : Exact C a T)
    {g : JFrame} (hg : g.method = m) {rest : List Value} (hstack : g.stack = .ref a :: rest) (hdg : decode c.code g.pc = .ok (.checkcast index, 3)) :
    ∃ T', Stand p l e R s m args below meth c T' locs cells slots ∧ T'.heap = T.heap ∧ ∀ target, Steps p.tables e below (T'.setTop { g with pc := g.pc + 3, stack := .ref a :: rest }) target → Steps p.tables e below (T.setTop g) target := by
  obtain ⟨cB, h1, D, h2, h3, h4⟩ := hE
  have h1' : s.vm.findClass C = some cB := by rw [← X.warmed.alike.findClass]; exact h1
  obtain ⟨vm', X', st⟩ := X.checkcastYes hexec hown hlink h2 h4 h1' (by rw [h3]; exact Jvm.Free.SB.assignable_self _ _) hg hstack hdg
  exact ⟨_, X', rfl, fun t h => st t (by rw [← hstack] at h; exact h)⟩
namespace SEq
def yN : MethodName := ⟨"java/lang/String", "equals", "(Ljava/lang/Object;)Z"⟩
abbrev yB : ByteArray := jdk_42_method_66_code
theorem d0 : decode yB 0 = .ok (.aload_n 0, 1) := by decide +kernel
theorem d1 : decode yB 1 = .ok (.aload_n 1, 1) := by decide +kernel
theorem d2 : decode yB 2 = .ok (.if_acmp (.ne) 5, 3) := by decide +kernel
theorem d5 : decode yB 5 = .ok (.iconst 1, 1) := by decide +kernel
theorem d6 : decode yB 6 = .ok (.ireturn, 1) := by decide +kernel
theorem d7 : decode yB 7 = .ok (.aload_n 1, 1) := by decide +kernel
theorem d8 : decode yB 8 = .ok (.instanceof 10, 3) := by decide +kernel
theorem d11 : decode yB 11 = .ok (.ifCond (.eq) 43, 3) := by decide +kernel
theorem d14 : decode yB 14 = .ok (.aload_n 1, 1) := by decide +kernel
theorem d15 : decode yB 15 = .ok (.checkcast 10, 3) := by decide +kernel
theorem d18 : decode yB 18 = .ok (.astore_n 2, 1) := by decide +kernel
theorem d19 : decode yB 19 = .ok (.getstatic 38, 3) := by decide +kernel
theorem d22 : decode yB 22 = .ok (.ifCond (.eq) 14, 3) := by decide +kernel
theorem d25 : decode yB 25 = .ok (.aload_n 0, 1) := by decide +kernel
theorem d26 : decode yB 26 = .ok (.getfield 15, 3) := by decide +kernel
theorem d29 : decode yB 29 = .ok (.aload_n 2, 1) := by decide +kernel
theorem d30 : decode yB 30 = .ok (.getfield 15, 3) := by decide +kernel
theorem d33 : decode yB 33 = .ok (.if_icmp (.ne) 21, 3) := by decide +kernel
theorem d36 : decode yB 36 = .ok (.aload_n 0, 1) := by decide +kernel
theorem d37 : decode yB 37 = .ok (.getfield 9, 3) := by decide +kernel
theorem d40 : decode yB 40 = .ok (.aload_n 2, 1) := by decide +kernel
theorem d41 : decode yB 41 = .ok (.getfield 9, 3) := by decide +kernel
theorem d44 : decode yB 44 = .ok (.invokestatic 541, 3) := by decide +kernel
theorem d47 : decode yB 47 = .ok (.ifCond (.eq) 7, 3) := by decide +kernel
theorem d50 : decode yB 50 = .ok (.iconst 1, 1) := by decide +kernel
theorem d51 : decode yB 51 = .ok (.goto 4, 3) := by decide +kernel
theorem d54 : decode yB 54 = .ok (.iconst 0, 1) := by decide +kernel
theorem d55 : decode yB 55 = .ok (.ireturn, 1) := by decide +kernel
def site : List Cond := [.classLink "java/lang/String" 10 "java/lang/String", .fieldLink "java/lang/String" 38 "java/lang/String" "COMPACT_STRINGS" "Z", .fieldLink "java/lang/String" 15 "java/lang/String" "coder" "B", .fieldLink "java/lang/String" 9 "java/lang/String" "value" "[B", LEq.tab] ++ staticW "java/lang/String" 541 LEq.yN
def tab : Cond := tabOf yN yB 3 (some .boolean) site
def P (x t : Addr) (V : Cell) (cd : Int32) (n : Nat) (f : Nat → Int32) (y t' : Addr) (V' : Cell) (cd' : Int32) (k : Nat) (g : Nat → Int32) (z : Int32) (args : Array Value) (s : State) : Prop := args = #[.ref x, .ref y] ∧ Txt x t V cd n f s ∧ Txt y t' V' cd' k g s ∧ StaticIs s "java/lang/String" "COMPACT_STRINGS" "Z" (.int z) ∧ ¬ z = 0
/-- equals(Object) of two Strings: whether the texts are the same -/
theorem law (l : Launch) (x t : Addr) (V : Cell) (cd : Int32) (n : Nat) (f : Nat → Int32) (y t' : Addr) (V' : Cell) (cd' : Int32) (k : Nat) (g : Nat → Int32) (z : Int32) : Law l yN 2 1 1 14 yB 3 (some .boolean) site (P x t V cd n f y t' V' cd' k g z) (Says01 (SameT n f k g)) [] 0 0 := by
  refine Law.of_walk (plainFor_of_name (by decide +kernel)) (by decide +kernel) (by decide +kernel) (by decide) (fun _ _ h => by rw [h.1]; rfl) (fun _ U U' hal hh h => ⟨h.1, h.2.1.mv hal hh, h.2.2.1.mv hal hh, h.2.2.2.1.there hal hh, h.2.2.2.2⟩) (fun r U U' V V' h1 hal h2 h => Says01.mv r U U' V V' h1 hal h2 h) ?_
  intro p e s m args below meth c s₁ X0 hexec hbytes hml hret hlk hnm hown hh0 W hP
  obtain ⟨rfl, hx, hy, s1, hz⟩ := hP
  have c1 : Steps p.tables e below (s₁.setTop (entryFrame m #[.ref x, .ref y] 3)) (s₁.setTop (mkF m 2 #[.val (.ref x), .val (.ref y), .unset] [.ref y, .ref x])) := Steps.trans (entry rfl) (by
    show Steps p.tables e below (s₁.setTop (mkF m 0 #[.val (.ref x), .val (.ref y), .unset] [])) _
    refine XS.aloadN X0.here hexec rfl (hb hbytes d0) rfl rfl ?_
    refine XS.aloadN X0.here hexec rfl (hb hbytes d1) rfl rfl ?_
    exact Steps.refl _)
  by_cases hxy : x = y
  · have c2 : Steps p.tables e below (s₁.setTop (entryFrame m #[.ref x, .ref y] 3)) (s₁.setTop (mkF m 6 #[.val (.ref x), .val (.ref y), .unset] [.int 1])) := c1.trans (by
      refine acmpNo X0.here hexec rfl (hb hbytes d2) rfl rfl rfl (by simp [acmp, hxy]) ?_
      refine iconstV X0.here hexec rfl 1 (hb hbytes d5) (by decide) ?_
      exact Steps.refl _)
    subst hxy
    have ec : cd = cd' := by
      obtain ⟨D, fd, a1, a2, a3⟩ := hx.2.2.1
      obtain ⟨D', fd', b1, b2, b3⟩ := hy.2.2.1
      cases a1.symm.trans b1
      obtain ⟨q1, q2, q3, q4⟩ := a2.1
      obtain ⟨r1, r2, r3, r4⟩ := b2.1
      cases q4.symm.trans r4
      cases a3.symm.trans b3; rfl
    have et : t = t' := by
      obtain ⟨D, fd, a1, a2, a3⟩ := hx.2.1
      obtain ⟨D', fd', b1, b2, b3⟩ := hy.2.1
      cases a1.symm.trans b1
      obtain ⟨q1, q2, q3, q4⟩ := a2.1
      obtain ⟨r1, r2, r3, r4⟩ := b2.1
      cases q4.symm.trans r4
      cases a3.symm.trans b3; rfl
    subst ec et
    have ev : V = V' := by cases hx.2.2.2.1.1.symm.trans hy.2.2.2.1.1; rfl
    subst ev
    have hs : SameT n f k g := (Cod.eqv hx.2.2.2.2.1 hy.2.2.2.2.1 hx.2.2.2.2.2 hy.2.2.2.2.2).mp ⟨rfl, fun _ _ => rfl⟩
    exact ⟨s₁, some (.int 1), _, _, _, X0, rfl, rfl, rfl, (fun h => by cases h), ⟨1, rfl, hh0, Or.inl ⟨rfl, hs⟩⟩, fun fs hl => c2.trans (X0.ireturnOut hexec hret rfl (Or.inr (Or.inl rfl)) (hb hbytes d6) hl)⟩
  · have c2 : Steps p.tables e below (s₁.setTop (entryFrame m #[.ref x, .ref y] 3)) (s₁.setTop (mkF m 8 #[.val (.ref x), .val (.ref y), .unset] [.ref y])) := c1.trans (by
      refine acmpYes X0.here hexec rfl (pc0 := 2) rfl (hb hbytes d2) rfl rfl rfl (by simp [acmp, hxy]) (by decide) rfl ?_
      refine XS.aloadN X0.here hexec rfl (hb hbytes d7) rfl rfl ?_
      exact Steps.refl _)
    obtain ⟨T3, X3, q3, st3⟩ := cinst X0 hexec hown (wk W (.classLink "java/lang/String" 10 "java/lang/String")) (hy.mv X0.warmed.alike hh0).1 (g := (mkF m 8 #[.val (.ref x), .val (.ref y), .unset] [.ref y])) rfl (rest := []) rfl (hb hbytes d8)
    have hh3 := q3.trans hh0
    have c4 : Steps p.tables e below (s₁.setTop (entryFrame m #[.ref x, .ref y] 3)) (T3.setTop (mkF m 15 #[.val (.ref x), .val (.ref y), .unset] [.ref y])) := (c2.trans (st3 _ (Steps.refl _))).trans (by
      refine XS.ifNo X3.here hexec rfl (hb hbytes d11) rfl (i0_eq_f (by decide)) ?_
      refine XS.aloadN X3.here hexec rfl (hb hbytes d14) rfl rfl ?_
      exact Steps.refl _)
    obtain ⟨T5, X5, q5, st5⟩ := cself X3 hexec hown (wk W (.classLink "java/lang/String" 10 "java/lang/String")) (hy.mv X3.warmed.alike hh3).1 (g := (mkF m 15 #[.val (.ref x), .val (.ref y), .unset] [.ref y])) rfl (rest := []) rfl (hb hbytes d15)
    have hh5 := q5.trans hh3
    have c6 : Steps p.tables e below (s₁.setTop (entryFrame m #[.ref x, .ref y] 3)) (T5.setTop (mkF m 19 #[.val (.ref x), .val (.ref y), .val (.ref y)] [])) := (c4.trans (st5 _ (Steps.refl _))).trans (by
      refine XS.astoreN X5.here hexec rfl (hb hbytes d18) rfl rfl rfl ?_
      exact Steps.refl _)
    obtain ⟨T7, X7, q7, st7⟩ := X5.sget hexec hown (wk W (.fieldLink "java/lang/String" 38 "java/lang/String" "COMPACT_STRINGS" "Z")) s1 (fun _ _ h => by rw [hh5]; exact h) (g := (mkF m 19 #[.val (.ref x), .val (.ref y), .val (.ref y)] [])) rfl (hb hbytes d19)
    have hh7 := q7.trans hh5
    have c8 : Steps p.tables e below (s₁.setTop (entryFrame m #[.ref x, .ref y] 3)) (T7.setTop (mkF m 26 #[.val (.ref x), .val (.ref y), .val (.ref y)] [.ref x])) := (c6.trans (st7 _ (Steps.refl _))).trans (by
      refine XS.ifNo X7.here hexec rfl (hb hbytes d22) rfl (i0_eq_f hz) ?_
      refine XS.aloadN X7.here hexec rfl (hb hbytes d25) rfl rfl ?_
      exact Steps.refl _)
    obtain ⟨T9, X9, q9, st9⟩ := X7.hget hexec hown (wk W (.fieldLink "java/lang/String" 15 "java/lang/String" "coder" "B")) (hx.mv X7.warmed.alike hh7).2.2.1 (g := (mkF m 26 #[.val (.ref x), .val (.ref y), .val (.ref y)] [.ref x])) rfl (rest := []) rfl (hb hbytes d26)
    have hh9 := q9.trans hh7
    have c10 : Steps p.tables e below (s₁.setTop (entryFrame m #[.ref x, .ref y] 3)) (T9.setTop (mkF m 30 #[.val (.ref x), .val (.ref y), .val (.ref y)] [.ref y, .int cd])) := (c8.trans (st9 _ (Steps.refl _))).trans (by
      refine XS.aloadN X9.here hexec rfl (hb hbytes d29) rfl rfl ?_
      exact Steps.refl _)
    obtain ⟨T11, X11, q11, st11⟩ := X9.hget hexec hown (wk W (.fieldLink "java/lang/String" 15 "java/lang/String" "coder" "B")) (hy.mv X9.warmed.alike hh9).2.2.1 (g := (mkF m 30 #[.val (.ref x), .val (.ref y), .val (.ref y)] [.ref y, .int cd])) rfl (rest := [.int cd]) rfl (hb hbytes d30)
    have hh11 := q11.trans hh9
    have c12 : Steps p.tables e below (s₁.setTop (entryFrame m #[.ref x, .ref y] 3)) (T11.setTop (mkF m 33 #[.val (.ref x), .val (.ref y), .val (.ref y)] [.int cd', .int cd])) := c10.trans (st11 _ (Steps.refl _))
    by_cases hcd : cd = cd'
    · subst hcd
      have c13 : Steps p.tables e below (s₁.setTop (entryFrame m #[.ref x, .ref y] 3)) (T11.setTop (mkF m 37 #[.val (.ref x), .val (.ref y), .val (.ref y)] [.ref x])) := c12.trans (by
        refine XS.icmpNo X11.here hexec rfl (hb hbytes d33) rfl (ii_ne_f rfl) ?_
        refine XS.aloadN X11.here hexec rfl (hb hbytes d36) rfl rfl ?_
        exact Steps.refl _)
      obtain ⟨T14, X14, q14, st14⟩ := X11.hget hexec hown (wk W (.fieldLink "java/lang/String" 9 "java/lang/String" "value" "[B")) (hx.mv X11.warmed.alike hh11).2.1 (g := (mkF m 37 #[.val (.ref x), .val (.ref y), .val (.ref y)] [.ref x])) rfl (rest := []) rfl (hb hbytes d37)
      have hh14 := q14.trans hh11
      have c15 : Steps p.tables e below (s₁.setTop (entryFrame m #[.ref x, .ref y] 3)) (T14.setTop (mkF m 41 #[.val (.ref x), .val (.ref y), .val (.ref y)] [.ref y, .ref t])) := (c13.trans (st14 _ (Steps.refl _))).trans (by
        refine XS.aloadN X14.here hexec rfl (hb hbytes d40) rfl rfl ?_
        exact Steps.refl _)
      obtain ⟨T16, X16, q16, st16⟩ := X14.hget hexec hown (wk W (.fieldLink "java/lang/String" 9 "java/lang/String" "value" "[B")) (hy.mv X14.warmed.alike hh14).2.1 (g := (mkF m 41 #[.val (.ref x), .val (.ref y), .val (.ref y)] [.ref y, .ref t])) rfl (rest := [.ref t]) rfl (hb hbytes d41)
      have hh16 := q16.trans hh14
      have c17 : Steps p.tables e below (s₁.setTop (entryFrame m #[.ref x, .ref y] 3)) (T16.setTop (mkF m 44 #[.val (.ref x), .val (.ref y), .val (.ref y)] [.ref t', .ref t])) := c15.trans (st16 _ (Steps.refl _))
      obtain ⟨v18, T18, X18, E18, g18⟩ := X16.callS hexec (LEq.law l t V t' V') hown (wks W (staticW "java/lang/String" 541 LEq.yN)) (wk W LEq.tab) (W := 0) (Nat.le_of_ble_eq_true rfl) (Nat.le_of_ble_eq_true rfl) (Nat.le_refl _) (Nat.le_refl _) (g := (mkF m 44 #[.val (.ref x), .val (.ref y), .val (.ref y)] [.ref t', .ref t])) rfl (by rw [hml]; rfl) c17 (argsL := [.ref t, .ref t']) (rest := []) rfl rfl (by show 2 * 0 + 0 ≤ _; decide) (hb hbytes d44) (⟨rfl, hx.2.2.2.1.mv X16.warmed.alike hh16, hx.2.2.2.2.1.ty, hy.2.2.2.1.mv X16.warmed.alike hh16, hy.2.2.2.2.1.ty⟩)
      obtain ⟨v, rfl, q18, hv⟩ := E18
      have iff := Cod.eqv hx.2.2.2.2.1 hy.2.2.2.2.1 hx.2.2.2.2.2 hy.2.2.2.2.2
      rcases hv with ⟨rfl, he⟩ | ⟨rfl, he⟩
      · have c19 : Steps p.tables e below (s₁.setTop (entryFrame m #[.ref x, .ref y] 3)) (T18.setTop (mkF m 55 #[.val (.ref x), .val (.ref y), .val (.ref y)] [.int 1])) := Steps.trans g18 (by
          refine XS.ifNo X18.here hexec rfl (hb hbytes d47) rfl (i0_eq_f (by decide)) ?_
          refine iconstV X18.here hexec rfl 1 (hb hbytes d50) (by decide) ?_
          refine XS.goto X18.here hexec rfl (pc0 := 51) rfl (hb hbytes d51) (by decide) rfl ?_
          exact Steps.refl _)
        exact ⟨T18, some (.int 1), _, _, _, X18, rfl, rfl, rfl, (fun h => by cases h), ⟨1, rfl, q18.trans hh16, Or.inl ⟨rfl, iff.mp he⟩⟩, fun fs hl => c19.trans (X18.ireturnOut hexec hret rfl (Or.inr (Or.inl rfl)) (hb hbytes d55) hl)⟩
      · have c19 : Steps p.tables e below (s₁.setTop (entryFrame m #[.ref x, .ref y] 3)) (T18.setTop (mkF m 55 #[.val (.ref x), .val (.ref y), .val (.ref y)] [.int 0])) := Steps.trans g18 (by
          refine XS.ifYes X18.here hexec rfl (pc0 := 47) rfl (hb hbytes d47) rfl (i0_eq_t rfl) (by decide) rfl ?_
          refine iconstV X18.here hexec rfl 0 (hb hbytes d54) (by decide) ?_
          exact Steps.refl _)
        exact ⟨T18, some (.int 0), _, _, _, X18, rfl, rfl, rfl, (fun h => by cases h), ⟨0, rfl, q18.trans hh16, Or.inr ⟨rfl, fun q => he (iff.mpr q)⟩⟩, fun fs hl => c19.trans (X18.ireturnOut hexec hret rfl (Or.inr (Or.inl rfl)) (hb hbytes d55) hl)⟩
    · have c13 : Steps p.tables e below (s₁.setTop (entryFrame m #[.ref x, .ref y] 3)) (T11.setTop (mkF m 55 #[.val (.ref x), .val (.ref y), .val (.ref y)] [.int 0])) := c12.trans (by
        refine XS.icmpYes X11.here hexec rfl (pc0 := 33) rfl (hb hbytes d33) rfl (ii_ne_t hcd) (by decide) rfl ?_
        refine iconstV X11.here hexec rfl 0 (hb hbytes d54) (by decide) ?_
        exact Steps.refl _)
      exact ⟨T11, some (.int 0), _, _, _, X11, rfl, rfl, rfl, (fun h => by cases h), ⟨0, rfl, hh11, Or.inr ⟨rfl, Cod.dif hx.2.2.2.2.1 hy.2.2.2.2.1 hcd⟩⟩, fun fs hl => c13.trans (X11.ireturnOut hexec hret rfl (Or.inr (Or.inl rfl)) (hb hbytes d55) hl)⟩
theorem pays {l : Launch} {R : Room} {p : Program} {e : Env} {below : List Frame} {s : State} {sargs : Array Value} {len W : Nat} (x t : Addr) (V : Cell) (cd : Int32) (n : Nat) (f : Nat → Int32) (y t' : Addr) (V' : Cell) (cd' : Int32) (k : Nat) (g : Nat → Int32) (z : Int32) (htab : tab.before sargs s = true) (hfr : 2 ≤ R.frames) (hlo : W + 28 ≤ R.locals) :
    Back l R p e below s sargs yN len W (fun A₁ a₁ => A₁.cells + 0 ≤ R.cells ∧ A₁.slots + 0 ≤ R.slots ∧ P x t V cd n f y t' V' cd' k g z a₁ A₁.U) (fun A₁ _ v₁ B₁ => Says01 (SameT n f k g) v₁ A₁.U B₁.U ∧ B₁.locs = A₁.locs ++ [] ∧ B₁.cells = A₁.cells + 0 ∧ B₁.slots = A₁.slots + 0) :=
  (law l x t V cd n f y t' V' cd' k g z).pays htab hfr (by omega)
end SEq
end StrChars
namespace StrChars.Road
open Jvm Sem ClassFile Op Lib Jvm.Stand Jvm.Free Jvm.Free.XT
open Jvm.Lib.Cold (StaticIs)
/-- the words of String.equals(Object) -/
abbrev wordsEq : List Jvm.Cond := [.code SEq.yN SEq.yB 3 (some .boolean), .initialized ST, .classLink ST 10 ST, .fieldLink ST 38 ST "COMPACT_STRINGS" "Z", .fieldLink ST 15 ST "coder" "B", .fieldLink ST 9 ST "value" "[B", .methodLink ST 541 LEq.yN, .static LEq.yN, .code LEq.yN LEq.yB 3 (some .boolean), .initialized "java/lang/StringLatin1"]
theorem tabEq_of {a : Array Value} {s : State} (h : ∀ w ∈ wordsEq, w.before a s = true) : SEq.tab.before a s = true := by
  have hl : LEq.tab.before a s = true := unparts (wk h (.code LEq.yN LEq.yB 3 (some .boolean))) (wks h (.initialized LEq.yN.cls :: LEq.site))
  have q := consq hl h
  exact unparts (wk q (.code SEq.yN SEq.yB 3 (some .boolean))) (wks q (.initialized SEq.yN.cls :: SEq.site))
theorem movedEq {Z s : State} {a0 args : Array Value} (hZ : Z.Warmed39 s.vm) (hw : ∀ d ∈ wordsEq, d.before a0 Z = true) : ∀ d ∈ wordsEq, d.before args s = true := fun d hd => by
  have t : ∀ d ∈ wordsEq, (d.onTables && d.keepsFace) = true := by decide +kernel
  exact RoadKit.mv hZ (hw d hd) (t d hd)
/-- the road's facts of a String, as the laws ask it -/
theorem txt_of {Z U : State} {a0 : Array Value} {kI : Nat} (wi : (Jvm.Cond.instantiable ST kI).before a0 Z = true) (al : Z.vm.Alike U.vm) {x t : Addr} {kb : ClassId} {cs : List Int32} {cd N2 : Int32} {vs : List Value} (E : RoadKit.Exa Z U.heap x ST) (V : RoadKit.Fld Z U.heap x ST "value" "[B" (.ref t)) (C : RoadKit.Fld Z U.heap x ST "coder" "B" (.int cd)) (K : RoadKit.Arv Z U.heap t kb .byte N2 vs (.int 0)) (hc : CodA cs cd N2 vs) (hb : ∀ c ∈ cs, ¬ c < 0 ∧ ¬ (65535 : Int32) < c) (l2 : cs.length ≤ 4000) :
    ∃ A, Txt x t A cd cs.length (fun j => cs.getD j 0) U := by
  obtain ⟨A, K1, K2, K3, K4, K5, K6⟩ := K
  have hcod := hc.cod (by omega) K3 K5
  obtain ⟨D, fV, fC, hB, F1, F2, g1, g2, -, -⟩ := strObj wi al E V C
  exact ⟨A, ⟨_, hB.2.2.1, D, hB.1, rfl, by cases q : D.vm <;> first | rfl | exact absurd q (hB.2.1.2 _)⟩, Has.of hB F1 g1, Has.of hB F2 g2, ⟨K1.1, State.isArrayOf_alike al K1.2.1, K1.2.2, by rcases hcod with ⟨-, q, -⟩ | ⟨-, q, -⟩ <;> omega⟩, hcod, fun j hj => by
    have e : cs.getD j 0 = cs[j] := by simp [List.getD_eq_getElem?_getD, hj]
    show ¬ cs.getD j 0 < 0 ∧ ¬ 65535 < cs.getD j 0
    rw [e]; exact hb _ (List.getElem_mem _)⟩
theorem same_list (cs ds : List Int32) : SameT cs.length (fun j => cs.getD j 0) ds.length (fun j => ds.getD j 0) ↔ cs = ds := by
  constructor
  · rintro ⟨e, q⟩
    refine List.ext_getElem e fun j h1 h2 => ?_
    have := q j h1
    simpa [List.getD_eq_getElem?_getD, h1, h2] using this
  · rintro rfl
    exact ⟨rfl, fun _ _ => rfl⟩
/-- **equals(Object) OF TWO SUCH STRINGS**: 1 just where the chars are the same -/
theorem eqW {p : Program} {l : Launch} {e : Env} {R : Room} {s : State} {args : Array Value} {below : List Frame} {len W : Nat} {Z : State} {a0 : Array Value} {h : Heap} (hZ : Z.Warmed39 s.vm) (hw : ∀ d ∈ wordsEq, d.before a0 Z = true) {kI : Nat} (wi : (Jvm.Cond.instantiable ST kI).before a0 Z = true)
    {x t : Addr} {kb : ClassId} {cs : List Int32} {cd N2 : Int32} {vs : List Value} (E : RoadKit.Exa Z h x ST) (V : RoadKit.Fld Z h x ST "value" "[B" (.ref t)) (C : RoadKit.Fld Z h x ST "coder" "B" (.int cd)) (K : RoadKit.Arv Z h t kb .byte N2 vs (.int 0)) (hc : CodA cs cd N2 vs) (hb : ∀ c ∈ cs, ¬ c < 0 ∧ ¬ (65535 : Int32) < c) (l2 : cs.length ≤ 4000)
    {y t' : Addr} {kb' : ClassId} {ds : List Int32} {cd' N2' : Int32} {vs' : List Value} (E' : RoadKit.Exa Z h y ST) (V' : RoadKit.Fld Z h y ST "value" "[B" (.ref t')) (C' : RoadKit.Fld Z h y ST "coder" "B" (.int cd')) (K' : RoadKit.Arv Z h t' kb' .byte N2' vs' (.int 0)) (hc' : CodA ds cd' N2' vs') (hb' : ∀ c ∈ ds, ¬ c < 0 ∧ ¬ (65535 : Int32) < c) (l2' : ds.length ≤ 4000)
    {z : Int32} (S : RoadKit.Sta Z h ST "COMPACT_STRINGS" "Z" (.int z)) (hz : ¬ z = 0) (hfr : 2 ≤ R.frames) (hlo : W + 28 ≤ R.locals) :
    Back l R p e below s args (⟨"java/lang/String", "equals", "(Ljava/lang/Object;)Z"⟩ : MethodName) len W (fun P a => a = #[.ref x, .ref y] ∧ P.U.heap = h ∧ P.cells + 0 ≤ R.cells ∧ P.slots + 0 ≤ R.slots)
      (fun P _ v B => ∃ L, (((v = some (.int 1) ∧ cs = ds) ∨ (v = some (.int 0) ∧ ¬ cs = ds)) ∧ L = [] ∧ B.U.heap = h) ∧ B.locs = P.locs ++ L ∧ B.cells = P.cells + 0 ∧ B.slots = P.slots + 0) := by
  intro m meth c P g ig mk a X hg hsize hdg hW hn hp'
  obtain ⟨rfl, rfl, r1, r2⟩ := hp'
  have al : Z.vm.Alike P.U.vm := hZ.alike.trans X.warmed.alike
  obtain ⟨A, hx⟩ := txt_of wi al E V C K hc hb l2
  obtain ⟨A', hy⟩ := txt_of wi al E' V' C' K' hc' hb' l2'
  obtain ⟨v, B, X', ⟨⟨w, hv, hh, hq⟩, hl, hk, hs⟩, st⟩ := SEq.pays x t A cd cs.length (fun j => cs.getD j 0) y t' A' cd' ds.length (fun j => ds.getD j 0) z (tabEq_of (movedEq hZ hw)) hfr hlo m meth c P g ig mk _ X hg hsize hdg hW hn ⟨r1, r2, rfl, hx, hy, sta_is al S, hz⟩
  refine ⟨v, B, X', ⟨[], ⟨?_, rfl, hh⟩, hl, hk, hs⟩, st⟩
  rcases hq with ⟨rfl, q⟩ | ⟨rfl, q⟩
  · exact Or.inl ⟨hv, (same_list cs ds).mp q⟩
  · exact Or.inr ⟨hv, fun e => q ((same_list cs ds).mpr e)⟩
end StrChars.Road
namespace StrChars.Road
open Jvm Sem ClassFile Op Lib Jvm.Stand Jvm.Free Jvm.Free.XT
open Jvm.Lib.Cold (StaticIs)
/-- what backV says of its String, as the contracts of this text ask it: cs's low bytes, coder 0 -/
theorem codOf {cs : List Int32} {n : Nat} (hn : cs.length = n) (hb : ∀ c ∈ cs, ¬ 255 < c) : CodA cs 0 (Int32.ofNat n) ((cs.map lo8).map Value.int) := Or.inl ⟨rfl, by rw [hn], by simp [List.map_map, Function.comp_def], hb⟩
end StrChars.Road
end Jvm.Pilot.@@N@@

namespace Jvm.RoadKit
open Sem ClassFile Op Lib Jvm.Stand Jvm.Free Jvm.LawKit
section New
variable {p : Program} {l : Launch} {e : Env} {R : Room} {s : State} {m : MethodId} {args : Array Value} {below : List Frame} {meth : Method} {c : Code} {T : State} {locs : List Loc} {cells slots : Nat}
theorem retI (X : Stand p l e R s m args below meth c T locs cells slots) (hx : p.tables.exec = Jvm.exec) {pc : Nat} {Ls : Array Slot} {z : Int32} {rest : List Value} (hret : meth.sig.returnType = some .int) (hd : decode c.code pc = .ok (.ireturn, 1)) {fs : List Frame}
    (hl : ∀ (f : JFrame) (acts : List Action), f.method = m → f.locked = none → f.entered = [] → (doReturn e (T.setTop f) acts (some (.int z))).1 = T.setFrames fs) : Steps p.tables e below (T.setTop (mkF m pc Ls (.int z :: rest))) (T.setFrames fs) := by
  have hm' : T.vm.method? m = some meth := X.method'
  have hn : narrow .int (.int z) = .int z := rfl
  show Steps p.tables e below (T.setTop { method := m, pc := pc, locals := Ls, stack := _ :: rest, locked := none }) _
  jvm_step X.here [X.here.top, hx, hd, hm', hret, hn]
  first | (intro acts; rw [hl _ acts rfl rfl rfl]) | rw [hl _ _ rfl rfl rfl]
  exact Steps.refl _
end New
/-- from the state A the run comes to an end of which G speaks -/
def own_R (tb : Tables) (e : Env) (below : List Frame) (G : State → Outcome → Prop) (A : State) : Prop := ∃ s₂ o, Steps tb e below A s₂ ∧ G s₂ o
theorem own_go {tb : Tables} {e : Env} {below : List Frame} {G : State → Outcome → Prop} {A B : State} (k : ∀ t, Steps tb e below B t → Steps tb e below A t) (h : own_R tb e below G B) : own_R tb e below G A := by
  obtain ⟨s₂, o, hs, hp⟩ := h
  exact ⟨s₂, o, k _ hs, hp⟩
theorem own_open {tb : Tables} {e : Env} {below : List Frame} {A : State} {P : State → Outcome → Prop} (h : ∀ G : State → Outcome → Prop, (∀ s₂ o, P s₂ o → G s₂ o) → own_R tb e below G A) : ∃ s₂ o, Steps tb e below A s₂ ∧ P s₂ o := h P fun _ _ q => q
theorem own_at {tb : Tables} {e : Env} {below : List Frame} {G : State → Outcome → Prop} {A : State} {s₂ : State} {o : Outcome} (h : Steps tb e below A s₂) (g : G s₂ o) : own_R tb e below G A := ⟨s₂, o, h, g⟩
end Jvm.RoadKit
namespace Jvm.Pilot.@@N@@
open Jvm Jvm.ClassFile Sem Op Lib Jvm.Free Jvm.Stand Jvm.LawKit Jvm.RoadKit Bundle Jvm.Pilot.@@N@@.Jvm.D
theorem pd__28__5b_CIILjava_2f_lang_2f_Void_3b__29_V : parseMethodDescriptor "([CIILjava/lang/Void;)V" = some ⟨[(.array .char), .int, .int, (.object "java/lang/Void")], none⟩ := by decide +kernel
theorem pd__28_I_29_I : parseMethodDescriptor "(I)I" = some ⟨[.int], some .int⟩ := by decide +kernel
theorem pd__28__5b_C_29_V : parseMethodDescriptor "([C)V" = some ⟨[(.array .char)], none⟩ := by decide +kernel
theorem pd__28_I_29_C : parseMethodDescriptor "(I)C" = some ⟨[.int], some .char⟩ := by decide +kernel
theorem pd__28_Ljava_2f_lang_2f_Object_3b_Ljava_2f_lang_2f_String_3b__29_Ljava_2f_lang_2f_Object_3b_ : parseMethodDescriptor "(Ljava/lang/Object;Ljava/lang/String;)Ljava/lang/Object;" = some ⟨[(.object "java/lang/Object"), (.object "java/lang/String")], some (.object "java/lang/Object")⟩ := by decide +kernel
theorem pd__28_Ljava_2f_lang_2f_Object_3b__29_Z : parseMethodDescriptor "(Ljava/lang/Object;)Z" = some ⟨[(.object "java/lang/Object")], some .boolean⟩ := by decide +kernel
theorem pd__28_I_29_Ljava_2f_lang_2f_String_3b_ : parseMethodDescriptor "(I)Ljava/lang/String;" = some ⟨[.int], some (.object "java/lang/String")⟩ := by decide +kernel
theorem pd__28_Ljava_2f_lang_2f_String_3b_Ljava_2f_lang_2f_String_3b__29_V : parseMethodDescriptor "(Ljava/lang/String;Ljava/lang/String;)V" = some ⟨[(.object "java/lang/String"), (.object "java/lang/String")], none⟩ := by decide +kernel
theorem pd__28_II_29_Z : parseMethodDescriptor "(II)Z" = some ⟨[.int, .int], some .boolean⟩ := by decide +kernel
def own_EL : List (String × Nat) := [("java/lang/String", 7)]
theorem own_safeV {Z : State} {EL : List (String × Nat)} {vm : Vm} {h : Heap} {a : Addr} {k : ClassId} {ty : FieldType} {z : Int32} {vs : List Value} {d : Value} (hal : Z.vm.Alike vm) (V : Arv Z h a k ty z vs d) (ht : ty ≠ .byte) : Safe Z EL vm h a := by
  obtain ⟨c, A, -⟩ := V
  exact Safe.arr hal A ht
theorem own_safeN {Z : State} {EL : List (String × Nat)} {vm : Vm} {h : Heap} {x : Addr} (hal : Z.vm.Alike vm) (E : Exa Z h x "java/lang/String") (F : Fld Z h x "java/lang/String" "value" "[B" .null) : Safe Z EL vm h x := fun B => by
  obtain ⟨p, -, u, a, -, q, -, F1, rfl | rfl⟩ := B
  · obtain ⟨cS, ⟨⟨s1, s2, s3, ⟨cv, kv, iv, s4, s4'⟩, s5, s6, s7, s8, s9⟩, -⟩, -⟩ := F1
    obtain ⟨cell, cf, k, i, f, e1, e2, e3, e4, e5, e6, e7⟩ := F
    cases e1.symm.trans (show h[q.sa]? = some q.sC from s1)
    obtain ⟨kv', z4⟩ := ff_back (U := Wst Z vm h) hal s4
    cases e2.symm.trans z4
    cases e7.symm.trans s8
  · obtain ⟨cell, k, e1, e2, e3, -, -⟩ := E
    cases e1.symm.trans (show h[q.sd]? = some q.SA from F1.hd)
    obtain ⟨cS, -, -, f, -⟩ := F1
    have f : vm.findClass "[B" = some q.SA.cls := f
    rw [hal.findClass] at f
    obtain ⟨k1, q1, q2⟩ := Vm.findClass_spec f
    obtain ⟨k2, q3, q4⟩ := Vm.findClass_spec e2
    cases q1.symm.trans q3
    exact absurd (q2.symm.trans q4) (by decide)
def own_len (x : Int32) : Int32 := (x &&& (3 : Int32)) - ((x &&& (3 : Int32)) / (3 : Int32)) * (3 : Int32)
def own_c0 (x : Int32) : Int32 := ((x.toUInt32 >>> ((8 : Int32) &&& 31).toUInt32).toInt32) &&& (255 : Int32)
def own_c1 (x : Int32) : Int32 := ((x.toUInt32 >>> ((16 : Int32) &&& 31).toUInt32).toInt32) &&& (255 : Int32)
def own_cs (x : Int32) : List Int32 := if own_len x = 0 then [] else if own_len x = 1 then [own_c0 x] else [own_c0 x, own_c1 x]
theorem own_z32 : (0 : Int32).toInt = 0 := by decide
theorem own_m255 (y : Int32) : ¬ (y &&& (255 : Int32)) < 0 ∧ ¬ (255 : Int32) < (y &&& (255 : Int32)) := by
  have a := c_and y 255 (by decide)
  have z2 : (255 : Int32).toInt = 255 := by decide
  rw [Int32.lt_iff_toInt_lt, Int32.lt_iff_toInt_lt, own_z32, z2]
  omega
theorem own_nar (y : Int32) : nar .char (y &&& (255 : Int32)) = y &&& 255 := by
  show (y &&& (255 : Int32)).toUInt32.toUInt16.toUInt32.toInt32 = _
  rw [i2c_mask]
theorem own_nar2 (y : Int32) : nar .char ((y &&& (255 : Int32)).toUInt32.toUInt16.toUInt32.toInt32) = y &&& 255 := by
  rw [i2c_mask, own_nar]
theorem own_n0 (x : Int32) : nar .char (own_c0 x) = own_c0 x := own_nar _
theorem own_n1 (x : Int32) : nar .char (own_c1 x) = own_c1 x := own_nar _
theorem own_len3 (x : Int32) : own_len x = 0 ∨ own_len x = 1 ∨ own_len x = 2 := by
  have a := c_and x 3 (by decide)
  have t := rem_toInt (x &&& 3) 3
  have f : (3 : Int32).toInt = 3 := by decide
  have o : (1 : Int32).toInt = 1 := by decide
  have w : (2 : Int32).toInt = 2 := by decide
  rw [f, Int.tmod_eq_emod_of_nonneg a.1] at t
  have h : (own_len x).toInt = (x &&& 3).toInt % 3 := t
  rw [← Int32.toInt_inj, ← Int32.toInt_inj, ← Int32.toInt_inj, own_z32, o, w, h]
  omega
theorem own_cs0 {x : Int32} (h : own_len x = 0) : own_cs x = [] := by unfold own_cs; rw [if_pos h]
theorem own_cs1 {x : Int32} (h : own_len x = 1) : own_cs x = [own_c0 x] := by
  unfold own_cs
  rw [if_neg (by rw [h]; decide), if_pos h]
theorem own_cs2 {x : Int32} (h : own_len x = 2) : own_cs x = [own_c0 x, own_c1 x] := by
  unfold own_cs
  rw [if_neg (by rw [h]; decide), if_neg (by rw [h]; decide)]
theorem own_csp (x : Int32) : ∀ c ∈ own_cs x, ¬ c < 0 ∧ ¬ (255 : Int32) < c := by
  intro c hc
  rcases own_len3 x with h | h | h
  · rw [own_cs0 h] at hc; cases hc
  · rw [own_cs1 h] at hc
    simp only [List.mem_cons, List.not_mem_nil, or_false] at hc
    subst hc; exact own_m255 _
  · rw [own_cs2 h] at hc
    simp only [List.mem_cons, List.not_mem_nil, or_false] at hc
    rcases hc with rfl | rfl <;> exact own_m255 _
theorem own_csb (x : Int32) : ∀ c ∈ own_cs x, ¬ c < 0 ∧ ¬ (65535 : Int32) < c := by
  intro c hc
  have h := own_csp x c hc
  refine ⟨h.1, fun q => h.2 ?_⟩
  rw [Int32.lt_iff_toInt_lt] at q ⊢
  have a : (255 : Int32).toInt = 255 := by decide
  have b : (65535 : Int32).toInt = 65535 := by decide
  omega
theorem own_csl (x : Int32) : (own_cs x).length ≤ 4000 := by
  rcases own_len3 x with h | h | h
  · rw [own_cs0 h]; decide
  · rw [own_cs1 h]; exact Nat.le_of_ble_eq_true rfl
  · rw [own_cs2 h]; exact Nat.le_of_ble_eq_true rfl
abbrev own_bv (x : Int32) : List Value := ((own_cs x).map (fun c => c.toInt8.toInt32)).map Value.int
theorem own_cod (x : Int32) : StrChars.Road.CodA (own_cs x) 0 (Int32.ofNat (own_cs x).length) (own_bv x) := StrChars.Road.codOf rfl (fun c hc => (own_csp x c hc).2)
def own_same (x y : Int32) : Int32 := if own_cs x = own_cs y then 1 else 0
theorem own_sy {x y : Int32} (h : own_cs x = own_cs y) : own_same x y = 1 := if_pos h
theorem own_sn {x y : Int32} (h : ¬ own_cs x = own_cs y) : own_same x y = 0 := if_neg h
theorem own_slen {x y : Int32} (h : ¬ own_len x = own_len y) : ¬ own_cs x = own_cs y := by
  intro q
  apply h
  have l : ∀ z : Int32, own_len z = Int32.ofNat (own_cs z).length := by
    intro z
    rcases own_len3 z with a | a | a
    · rw [own_cs0 a, a]; rfl
    · rw [own_cs1 a, a]; rfl
    · rw [own_cs2 a, a]; rfl
  rw [l x, l y, q]
theorem own_s0 {x y : Int32} (h : own_len x = own_len y) (h1 : own_len x < 1) : own_cs x = own_cs y := by
  have e : own_len x = 0 := by
    rcases own_len3 x with a | a | a
    · exact a
    · rw [a] at h1; exact absurd h1 (by decide)
    · rw [a] at h1; exact absurd h1 (by decide)
  rw [own_cs0 e, own_cs0 (h.symm.trans e)]
theorem own_sc0 {x y : Int32} (h : own_len x = own_len y) (h1 : ¬ own_len x < 1) (h2 : ¬ own_c0 x = own_c0 y) : ¬ own_cs x = own_cs y := by
  intro q
  rcases own_len3 x with a | a | a
  · rw [a] at h1; exact h1 (by decide)
  · rw [own_cs1 a, own_cs1 (h.symm.trans a)] at q; exact h2 (by simpa using q)
  · rw [own_cs2 a, own_cs2 (h.symm.trans a)] at q; simp at q; exact h2 q.1
theorem own_s1 {x y : Int32} (h : own_len x = own_len y) (h1 : ¬ own_len x < 1) (h2 : own_c0 x = own_c0 y) (h3 : ¬ own_len x = 2) : own_cs x = own_cs y := by
  have e : own_len x = 1 := by
    rcases own_len3 x with a | a | a
    · rw [a] at h1; exact absurd (by decide) h1
    · exact a
    · exact absurd a h3
  rw [own_cs1 e, own_cs1 (h.symm.trans e), h2]
theorem own_s2 {x y : Int32} (h : own_len x = own_len y) (h2 : own_c0 x = own_c0 y) (h3 : own_len x = 2) (h4 : own_c1 x = own_c1 y) : own_cs x = own_cs y := by
  rw [own_cs2 h3, own_cs2 (h.symm.trans h3), h2, h4]
theorem own_sc1 {x y : Int32} (h : own_len x = own_len y) (h3 : own_len x = 2) (h4 : ¬ own_c1 x = own_c1 y) : ¬ own_cs x = own_cs y := by
  intro q
  rw [own_cs2 h3, own_cs2 (h.symm.trans h3)] at q; simp at q; exact h4 q.2
theorem d2_0 : decode method_2_code 0 = .ok (.iload_n 0, 1) := by decide +kernel
theorem d2_1 : decode method_2_code 1 = .ok (.iconst 3, 1) := by decide +kernel
theorem d2_2 : decode method_2_code 2 = .ok (.iand, 1) := by decide +kernel
theorem d2_3 : decode method_2_code 3 = .ok (.iconst 3, 1) := by decide +kernel
theorem d2_4 : decode method_2_code 4 = .ok (.irem, 1) := by decide +kernel
theorem d2_5 : decode method_2_code 5 = .ok (.ireturn, 1) := by decide +kernel
theorem pn_2 : plainName "com/example/prudent_annotator/prudentannotator/profile/FileChecksumEqualsPinLaw" = true := by first | (simp [plainName, overriddenIn]; done) | decide +kernel
theorem ef_rm2 (m : MethodId) (x0 : Int32) : entryFrame m #[(.int x0)] 1 = mkF m 0 #[.val (.int x0)] [] := by first | (simp [entryFrame, mkF, argsToLocals, Value.category]; done) | rfl
def Q2 (Z : State) (p0 : Int32) (h0 : Heap) (n0 : Nat) (v : Option Value) (h : Heap) (L : List Loc) : Prop := v = some (.int (own_len p0)) ∧ Fr n0 L ∧ h = h0
set_option maxRecDepth 65536 in
set_option maxHeartbeats 40000000 in
theorem rm2 (l : Launch) (Z : State) (a0 : Array Value) (hw : ∀ d ∈ tables_1, d.before a0 Z = true) (ws : List Jvm.Cond) (p0 : Int32) (h0 : Heap) (n0 : Nat) (Z0 : n0 ≤ h0.size) :
    MetFree l (⟨"com/example/prudent_annotator/prudentannotator/profile/FileChecksumEqualsPinLaw", "len", "(I)I"⟩ : MethodName) (head1 (Jvm.Cond.code (⟨"com/example/prudent_annotator/prudentannotator/profile/FileChecksumEqualsPinLaw", "len", "(I)I"⟩ : MethodName) method_2_code 1 (some .int) :: ws) ({ frames := 0, cells := 0, slots := 0, locals := 0 } : Room)) (fun a U => a = #[(.int p0)] ∧ Z.Warmed39 U.vm ∧ U.heap = h0) (fun _ _ _ _ _ => True) (fun _ U o U' => ∃ v L, o = .returned v ∧ Q2 Z p0 h0 n0 v U'.heap L ∧ FrameEnd U o U' L ({ frames := 0, cells := 0, slots := 0, locals := 0 } : Room).cells ({ frames := 0, cells := 0, slots := 0, locals := 0 } : Room).slots) := by
  refine MetFree.of_bodySF (plainFor_of_name pn_2) hisR ?_
  intro p e s m args below meth c s₁ Bd hml0 hP hK
  obtain ⟨rfl, hZ, hh⟩ := hP
  have hx := Bd.exec
  have hby := Bd.bytes
  have hml : c.maxLocals = 1 := hml0
  have hown : s.vm.findClass "com/example/prudent_annotator/prudentannotator/profile/FileChecksumEqualsPinLaw" = some m.cls := findClass_of_methodNamed Bd.named
  have hnm := (name_of_methodNamed Bd.named Bd.method).1
  have X0 : Stand p l e ({ frames := 0, cells := 0, slots := 0, locals := 0 } : Room) s m #[(.int p0)] below meth c s₁ [] 0 0 := Stand.of_body Bd
  have e0 : s₁.heap = h0 := by rw [← hh, Bd.state]; rfl
  have N0 := Fr.nil n0
  refine own_open fun G hG => ?_
  refine own_go (B := s₁.setTop (mkF m 0 #[.val (.int p0)] [])) (fun t_ k_ => castTop (ef_rm2 m p0) k_) ?_
  refine own_go (B := s₁.setTop (mkF m 5 #[.val (.int p0)] [(.int ((p0 &&& (3 : Int32)) - ((p0 &&& (3 : Int32)) / (3 : Int32)) * (3 : Int32)))])) (fun t_ k_ => ?_) ?_
  · show Steps p.tables e below (s₁.setTop (mkF m 0 #[.val (.int p0)] [])) _
    refine XS.iloadN X0.here hx rfl (hb hby d2_0) rfl ?_
    show Steps p.tables e below (s₁.setTop (mkF m 1 #[.val (.int p0)] [(.int p0)])) _
    refine XS.iconst X0.here hx rfl (hb hby d2_1) ?_
    show Steps p.tables e below (s₁.setTop (mkF m 2 #[.val (.int p0)] [(.int (3 : Int32)), (.int p0)])) _
    refine XS.iand X0.here hx rfl (hb hby d2_2) rfl ?_
    show Steps p.tables e below (s₁.setTop (mkF m 3 #[.val (.int p0)] [(.int (p0 &&& (3 : Int32)))])) _
    refine XS.iconst X0.here hx rfl (hb hby d2_3) ?_
    show Steps p.tables e below (s₁.setTop (mkF m 4 #[.val (.int p0)] [(.int (3 : Int32)), (.int (p0 &&& (3 : Int32)))])) _
    refine XS.irem X0.here hx rfl (hb hby d2_4) rfl (by decide) ?_
    show Steps p.tables e below (s₁.setTop (mkF m 5 #[.val (.int p0)] [(.int ((p0 &&& (3 : Int32)) - ((p0 &&& (3 : Int32)) / (3 : Int32)) * (3 : Int32)))])) _
    exact k_
  obtain ⟨fs, hr, hrun, hended, hW, hsame⟩ := X0.leave (v := some (.int ((p0 &&& (3 : Int32)) - ((p0 &&& (3 : Int32)) / (3 : Int32)) * (3 : Int32)))) (fun h => by rw [Bd.returns] at h; cases h)
  refine own_at ?_ (hG _ _ ⟨hrun, hended, _, _, rfl, ?_, ⟨_, rfl⟩, hW, hsame.mono (by decide) (by decide)⟩)
  · show Steps p.tables e below (s₁.setTop (mkF m 5 #[.val (.int p0)] [(.int ((p0 &&& (3 : Int32)) - ((p0 &&& (3 : Int32)) / (3 : Int32)) * (3 : Int32)))])) _
    exact retI X0 hx Bd.returns (hb hby d2_5) hr
  · show Q2 Z p0 h0 n0 _ s₁.heap _
    rw [e0]
    exact ⟨rfl, N0, rfl⟩
theorem d6_0 : decode method_3_code 0 = .ok (.iload_n 0, 1) := by decide +kernel
theorem d6_1 : decode method_3_code 1 = .ok (.bipush 8, 2) := by decide +kernel
theorem d6_3 : decode method_3_code 3 = .ok (.iushr, 1) := by decide +kernel
theorem d6_4 : decode method_3_code 4 = .ok (.sipush 255, 3) := by decide +kernel
theorem d6_7 : decode method_3_code 7 = .ok (.iand, 1) := by decide +kernel
theorem d6_8 : decode method_3_code 8 = .ok (.i2c, 1) := by decide +kernel
theorem d6_9 : decode method_3_code 9 = .ok (.ireturn, 1) := by decide +kernel
theorem pn_6 : plainName "com/example/prudent_annotator/prudentannotator/profile/FileChecksumEqualsPinLaw" = true := by first | (simp [plainName, overriddenIn]; done) | decide +kernel
theorem ef_rm6 (m : MethodId) (x0 : Int32) : entryFrame m #[(.int x0)] 1 = mkF m 0 #[.val (.int x0)] [] := by first | (simp [entryFrame, mkF, argsToLocals, Value.category]; done) | rfl
def Q6 (Z : State) (p0 : Int32) (h0 : Heap) (n0 : Nat) (v : Option Value) (h : Heap) (L : List Loc) : Prop := v = some (.int (own_c0 p0)) ∧ Fr n0 L ∧ h = h0
set_option maxRecDepth 65536 in
set_option maxHeartbeats 40000000 in
theorem rm6 (l : Launch) (Z : State) (a0 : Array Value) (hw : ∀ d ∈ tables_1, d.before a0 Z = true) (ws : List Jvm.Cond) (p0 : Int32) (h0 : Heap) (n0 : Nat) (Z0 : n0 ≤ h0.size) :
    MetFree l (⟨"com/example/prudent_annotator/prudentannotator/profile/FileChecksumEqualsPinLaw", "c0", "(I)C"⟩ : MethodName) (head1 (Jvm.Cond.code (⟨"com/example/prudent_annotator/prudentannotator/profile/FileChecksumEqualsPinLaw", "c0", "(I)C"⟩ : MethodName) method_3_code 1 (some .char) :: ws) ({ frames := 0, cells := 0, slots := 0, locals := 0 } : Room)) (fun a U => a = #[(.int p0)] ∧ Z.Warmed39 U.vm ∧ U.heap = h0) (fun _ _ _ _ _ => True) (fun _ U o U' => ∃ v L, o = .returned v ∧ Q6 Z p0 h0 n0 v U'.heap L ∧ FrameEnd U o U' L ({ frames := 0, cells := 0, slots := 0, locals := 0 } : Room).cells ({ frames := 0, cells := 0, slots := 0, locals := 0 } : Room).slots) := by
  refine MetFree.of_bodySF (plainFor_of_name pn_6) hisR ?_
  intro p e s m args below meth c s₁ Bd hml0 hP hK
  obtain ⟨rfl, hZ, hh⟩ := hP
  have hx := Bd.exec
  have hby := Bd.bytes
  have hml : c.maxLocals = 1 := hml0
  have hown : s.vm.findClass "com/example/prudent_annotator/prudentannotator/profile/FileChecksumEqualsPinLaw" = some m.cls := findClass_of_methodNamed Bd.named
  have hnm := (name_of_methodNamed Bd.named Bd.method).1
  have X0 : Stand p l e ({ frames := 0, cells := 0, slots := 0, locals := 0 } : Room) s m #[(.int p0)] below meth c s₁ [] 0 0 := Stand.of_body Bd
  have e0 : s₁.heap = h0 := by rw [← hh, Bd.state]; rfl
  have N0 := Fr.nil n0
  refine own_open fun G hG => ?_
  refine own_go (B := s₁.setTop (mkF m 0 #[.val (.int p0)] [])) (fun t_ k_ => castTop (ef_rm6 m p0) k_) ?_
  refine own_go (B := s₁.setTop (mkF m 9 #[.val (.int p0)] [(.int ((((p0.toUInt32 >>> ((8 : Int32) &&& 31).toUInt32).toInt32) &&& (255 : Int32)).toUInt32.toUInt16.toUInt32.toInt32))])) (fun t_ k_ => ?_) ?_
  · show Steps p.tables e below (s₁.setTop (mkF m 0 #[.val (.int p0)] [])) _
    refine XS.iloadN X0.here hx rfl (hb hby d6_0) rfl ?_
    show Steps p.tables e below (s₁.setTop (mkF m 1 #[.val (.int p0)] [(.int p0)])) _
    refine XS.bipush X0.here hx rfl (hb hby d6_1) ?_
    show Steps p.tables e below (s₁.setTop (mkF m 3 #[.val (.int p0)] [(.int (8 : Int32)), (.int p0)])) _
    refine XS.iushr X0.here hx rfl (hb hby d6_3) rfl ?_
    show Steps p.tables e below (s₁.setTop (mkF m 4 #[.val (.int p0)] [(.int ((p0.toUInt32 >>> ((8 : Int32) &&& 31).toUInt32).toInt32))])) _
    refine XS.sipush X0.here hx rfl (hb hby d6_4) ?_
    show Steps p.tables e below (s₁.setTop (mkF m 7 #[.val (.int p0)] [(.int (255 : Int32)), (.int ((p0.toUInt32 >>> ((8 : Int32) &&& 31).toUInt32).toInt32))])) _
    refine XS.iand X0.here hx rfl (hb hby d6_7) rfl ?_
    show Steps p.tables e below (s₁.setTop (mkF m 8 #[.val (.int p0)] [(.int (((p0.toUInt32 >>> ((8 : Int32) &&& 31).toUInt32).toInt32) &&& (255 : Int32)))])) _
    refine XS.i2c X0.here hx rfl (hb hby d6_8) rfl ?_
    show Steps p.tables e below (s₁.setTop (mkF m 9 #[.val (.int p0)] [(.int ((((p0.toUInt32 >>> ((8 : Int32) &&& 31).toUInt32).toInt32) &&& (255 : Int32)).toUInt32.toUInt16.toUInt32.toInt32))])) _
    exact k_
  obtain ⟨fs, hr, hrun, hended, hW, hsame⟩ := X0.leave (v := some (.int (nar .char ((((p0.toUInt32 >>> ((8 : Int32) &&& 31).toUInt32).toInt32) &&& (255 : Int32)).toUInt32.toUInt16.toUInt32.toInt32)))) (fun h => by rw [Bd.returns] at h; cases h)
  refine own_at ?_ (hG _ _ ⟨hrun, hended, _, _, rfl, ?_, ⟨_, rfl⟩, hW, hsame.mono (by decide) (by decide)⟩)
  · show Steps p.tables e below (s₁.setTop (mkF m 9 #[.val (.int p0)] [(.int ((((p0.toUInt32 >>> ((8 : Int32) &&& 31).toUInt32).toInt32) &&& (255 : Int32)).toUInt32.toUInt16.toUInt32.toInt32))])) _
    exact retN X0 hx (t := .char) Bd.returns (by simp) (hb hby d6_9) hr
  · show Q6 Z p0 h0 n0 _ s₁.heap _
    rw [e0]
    exact ⟨by rw [own_nar2]; rfl, N0, rfl⟩
theorem d7_0 : decode method_4_code 0 = .ok (.iload_n 0, 1) := by decide +kernel
theorem d7_1 : decode method_4_code 1 = .ok (.bipush 16, 2) := by decide +kernel
theorem d7_3 : decode method_4_code 3 = .ok (.iushr, 1) := by decide +kernel
theorem d7_4 : decode method_4_code 4 = .ok (.sipush 255, 3) := by decide +kernel
theorem d7_7 : decode method_4_code 7 = .ok (.iand, 1) := by decide +kernel
theorem d7_8 : decode method_4_code 8 = .ok (.i2c, 1) := by decide +kernel
theorem d7_9 : decode method_4_code 9 = .ok (.ireturn, 1) := by decide +kernel
theorem pn_7 : plainName "com/example/prudent_annotator/prudentannotator/profile/FileChecksumEqualsPinLaw" = true := by first | (simp [plainName, overriddenIn]; done) | decide +kernel
theorem ef_rm7 (m : MethodId) (x0 : Int32) : entryFrame m #[(.int x0)] 1 = mkF m 0 #[.val (.int x0)] [] := by first | (simp [entryFrame, mkF, argsToLocals, Value.category]; done) | rfl
def Q7 (Z : State) (p0 : Int32) (h0 : Heap) (n0 : Nat) (v : Option Value) (h : Heap) (L : List Loc) : Prop := v = some (.int (own_c1 p0)) ∧ Fr n0 L ∧ h = h0
set_option maxRecDepth 65536 in
set_option maxHeartbeats 40000000 in
theorem rm7 (l : Launch) (Z : State) (a0 : Array Value) (hw : ∀ d ∈ tables_1, d.before a0 Z = true) (ws : List Jvm.Cond) (p0 : Int32) (h0 : Heap) (n0 : Nat) (Z0 : n0 ≤ h0.size) :
    MetFree l (⟨"com/example/prudent_annotator/prudentannotator/profile/FileChecksumEqualsPinLaw", "c1", "(I)C"⟩ : MethodName) (head1 (Jvm.Cond.code (⟨"com/example/prudent_annotator/prudentannotator/profile/FileChecksumEqualsPinLaw", "c1", "(I)C"⟩ : MethodName) method_4_code 1 (some .char) :: ws) ({ frames := 0, cells := 0, slots := 0, locals := 0 } : Room)) (fun a U => a = #[(.int p0)] ∧ Z.Warmed39 U.vm ∧ U.heap = h0) (fun _ _ _ _ _ => True) (fun _ U o U' => ∃ v L, o = .returned v ∧ Q7 Z p0 h0 n0 v U'.heap L ∧ FrameEnd U o U' L ({ frames := 0, cells := 0, slots := 0, locals := 0 } : Room).cells ({ frames := 0, cells := 0, slots := 0, locals := 0 } : Room).slots) := by
  refine MetFree.of_bodySF (plainFor_of_name pn_7) hisR ?_
  intro p e s m args below meth c s₁ Bd hml0 hP hK
  obtain ⟨rfl, hZ, hh⟩ := hP
  have hx := Bd.exec
  have hby := Bd.bytes
  have hml : c.maxLocals = 1 := hml0
  have hown : s.vm.findClass "com/example/prudent_annotator/prudentannotator/profile/FileChecksumEqualsPinLaw" = some m.cls := findClass_of_methodNamed Bd.named
  have hnm := (name_of_methodNamed Bd.named Bd.method).1
  have X0 : Stand p l e ({ frames := 0, cells := 0, slots := 0, locals := 0 } : Room) s m #[(.int p0)] below meth c s₁ [] 0 0 := Stand.of_body Bd
  have e0 : s₁.heap = h0 := by rw [← hh, Bd.state]; rfl
  have N0 := Fr.nil n0
  refine own_open fun G hG => ?_
  refine own_go (B := s₁.setTop (mkF m 0 #[.val (.int p0)] [])) (fun t_ k_ => castTop (ef_rm7 m p0) k_) ?_
  refine own_go (B := s₁.setTop (mkF m 9 #[.val (.int p0)] [(.int ((((p0.toUInt32 >>> ((16 : Int32) &&& 31).toUInt32).toInt32) &&& (255 : Int32)).toUInt32.toUInt16.toUInt32.toInt32))])) (fun t_ k_ => ?_) ?_
  · show Steps p.tables e below (s₁.setTop (mkF m 0 #[.val (.int p0)] [])) _
    refine XS.iloadN X0.here hx rfl (hb hby d7_0) rfl ?_
    show Steps p.tables e below (s₁.setTop (mkF m 1 #[.val (.int p0)] [(.int p0)])) _
    refine XS.bipush X0.here hx rfl (hb hby d7_1) ?_
    show Steps p.tables e below (s₁.setTop (mkF m 3 #[.val (.int p0)] [(.int (16 : Int32)), (.int p0)])) _
    refine XS.iushr X0.here hx rfl (hb hby d7_3) rfl ?_
    show Steps p.tables e below (s₁.setTop (mkF m 4 #[.val (.int p0)] [(.int ((p0.toUInt32 >>> ((16 : Int32) &&& 31).toUInt32).toInt32))])) _
    refine XS.sipush X0.here hx rfl (hb hby d7_4) ?_
    show Steps p.tables e below (s₁.setTop (mkF m 7 #[.val (.int p0)] [(.int (255 : Int32)), (.int ((p0.toUInt32 >>> ((16 : Int32) &&& 31).toUInt32).toInt32))])) _
    refine XS.iand X0.here hx rfl (hb hby d7_7) rfl ?_
    show Steps p.tables e below (s₁.setTop (mkF m 8 #[.val (.int p0)] [(.int (((p0.toUInt32 >>> ((16 : Int32) &&& 31).toUInt32).toInt32) &&& (255 : Int32)))])) _
    refine XS.i2c X0.here hx rfl (hb hby d7_8) rfl ?_
    show Steps p.tables e below (s₁.setTop (mkF m 9 #[.val (.int p0)] [(.int ((((p0.toUInt32 >>> ((16 : Int32) &&& 31).toUInt32).toInt32) &&& (255 : Int32)).toUInt32.toUInt16.toUInt32.toInt32))])) _
    exact k_
  obtain ⟨fs, hr, hrun, hended, hW, hsame⟩ := X0.leave (v := some (.int (nar .char ((((p0.toUInt32 >>> ((16 : Int32) &&& 31).toUInt32).toInt32) &&& (255 : Int32)).toUInt32.toUInt16.toUInt32.toInt32)))) (fun h => by rw [Bd.returns] at h; cases h)
  refine own_at ?_ (hG _ _ ⟨hrun, hended, _, _, rfl, ?_, ⟨_, rfl⟩, hW, hsame.mono (by decide) (by decide)⟩)
  · show Steps p.tables e below (s₁.setTop (mkF m 9 #[.val (.int p0)] [(.int ((((p0.toUInt32 >>> ((16 : Int32) &&& 31).toUInt32).toInt32) &&& (255 : Int32)).toUInt32.toUInt16.toUInt32.toInt32))])) _
    exact retN X0 hx (t := .char) Bd.returns (by simp) (hb hby d7_9) hr
  · show Q7 Z p0 h0 n0 _ s₁.heap _
    rw [e0]
    exact ⟨by rw [own_nar2]; rfl, N0, rfl⟩
theorem d4_0 : decode jdk_42_method_149_code 0 = .ok (.aload_n 0, 1) := by decide +kernel
theorem d4_1 : decode jdk_42_method_149_code 1 = .ok (.invokespecial 1, 3) := by decide +kernel
theorem d4_4 : decode jdk_42_method_149_code 4 = .ok (.iload_n 3, 1) := by decide +kernel
theorem d4_5 : decode jdk_42_method_149_code 5 = .ok (.ifCond .ne 22, 3) := by decide +kernel
theorem d4_8 : decode jdk_42_method_149_code 8 = .ok (.aload_n 0, 1) := by decide +kernel
theorem d4_9 : decode jdk_42_method_149_code 9 = .ok (.ldc 7, 2) := by decide +kernel
theorem d4_11 : decode jdk_42_method_149_code 11 = .ok (.getfield 9, 3) := by decide +kernel
theorem d4_14 : decode jdk_42_method_149_code 14 = .ok (.putfield 9, 3) := by decide +kernel
theorem d4_17 : decode jdk_42_method_149_code 17 = .ok (.aload_n 0, 1) := by decide +kernel
theorem d4_18 : decode jdk_42_method_149_code 18 = .ok (.ldc 7, 2) := by decide +kernel
theorem d4_20 : decode jdk_42_method_149_code 20 = .ok (.getfield 15, 3) := by decide +kernel
theorem d4_23 : decode jdk_42_method_149_code 23 = .ok (.putfield 15, 3) := by decide +kernel
theorem d4_26 : decode jdk_42_method_149_code 26 = .ok (.return_, 1) := by decide +kernel
theorem d4_27 : decode jdk_42_method_149_code 27 = .ok (.getstatic 38, 3) := by decide +kernel
theorem d4_30 : decode jdk_42_method_149_code 30 = .ok (.ifCond .eq 28, 3) := by decide +kernel
theorem d4_33 : decode jdk_42_method_149_code 33 = .ok (.aload_n 1, 1) := by decide +kernel
theorem d4_34 : decode jdk_42_method_149_code 34 = .ok (.iload_n 2, 1) := by decide +kernel
theorem d4_35 : decode jdk_42_method_149_code 35 = .ok (.iload_n 3, 1) := by decide +kernel
theorem d4_36 : decode jdk_42_method_149_code 36 = .ok (.invokestatic 177, 3) := by decide +kernel
theorem d4_39 : decode jdk_42_method_149_code 39 = .ok (.astore 5, 2) := by decide +kernel
theorem d4_41 : decode jdk_42_method_149_code 41 = .ok (.aload_n 0, 1) := by decide +kernel
theorem d4_42 : decode jdk_42_method_149_code 42 = .ok (.aload 5, 2) := by decide +kernel
theorem d4_44 : decode jdk_42_method_149_code 44 = .ok (.iload_n 3, 1) := by decide +kernel
theorem d4_45 : decode jdk_42_method_149_code 45 = .ok (.invokestatic 47, 3) := by decide +kernel
theorem d4_48 : decode jdk_42_method_149_code 48 = .ok (.putfield 15, 3) := by decide +kernel
theorem d4_51 : decode jdk_42_method_149_code 51 = .ok (.aload_n 0, 1) := by decide +kernel
theorem d4_52 : decode jdk_42_method_149_code 52 = .ok (.aload 5, 2) := by decide +kernel
theorem d4_54 : decode jdk_42_method_149_code 54 = .ok (.putfield 9, 3) := by decide +kernel
theorem d4_57 : decode jdk_42_method_149_code 57 = .ok (.return_, 1) := by decide +kernel
theorem d4_58 : decode jdk_42_method_149_code 58 = .ok (.aload_n 0, 1) := by decide +kernel
theorem d4_59 : decode jdk_42_method_149_code 59 = .ok (.iconst 1, 1) := by decide +kernel
theorem d4_60 : decode jdk_42_method_149_code 60 = .ok (.putfield 15, 3) := by decide +kernel
theorem d4_63 : decode jdk_42_method_149_code 63 = .ok (.aload_n 0, 1) := by decide +kernel
theorem d4_64 : decode jdk_42_method_149_code 64 = .ok (.aload_n 1, 1) := by decide +kernel
theorem d4_65 : decode jdk_42_method_149_code 65 = .ok (.iload_n 2, 1) := by decide +kernel
theorem d4_66 : decode jdk_42_method_149_code 66 = .ok (.iload_n 3, 1) := by decide +kernel
theorem d4_67 : decode jdk_42_method_149_code 67 = .ok (.invokestatic 180, 3) := by decide +kernel
theorem d4_70 : decode jdk_42_method_149_code 70 = .ok (.putfield 9, 3) := by decide +kernel
theorem d4_73 : decode jdk_42_method_149_code 73 = .ok (.return_, 1) := by decide +kernel
theorem pn_4 : plainName "java/lang/String" = true := by first | (simp [plainName, overriddenIn]; done) | decide +kernel
theorem ef_rm4 (m : MethodId) (x0 : Addr) (x1 : Addr) (x2 : Int32) (x3 : Int32) : entryFrame m #[(.ref x0), (.ref x1), (.int x2), (.int x3), .null] 6 = mkF m 0 #[.val (.ref x0), .val (.ref x1), .val (.int x2), .val (.int x3), .val .null, .unset] [] := by first | (simp [entryFrame, mkF, argsToLocals, Value.category]; done) | rfl
def Q4 (Z : State) (r0 : Addr) (r1 : Addr) (h0 : Heap) (n0 : Nat) (v : Option Value) (h : Heap) (L : List Loc) : Prop := v = none ∧ Fr n0 L ∧ Keep h0 h [r0] ∧ ∃ (t : Addr) (kb : ClassId), Fld Z h r0 "java/lang/String" "coder" "B" (.int 0) ∧ Fld Z h r0 "java/lang/String" "value" "[B" (.ref t) ∧ Arv Z h t kb .byte (0 : Int32) [] (.int 0)
set_option maxRecDepth 65536 in
set_option maxHeartbeats 40000000 in
theorem rm4 (l : Launch) (Z : State) (a0 : Array Value) (hw : ∀ d ∈ tables_1, d.before a0 Z = true) (ws : List Jvm.Cond) (r0 : Addr) (r1 : Addr) (h0 : Heap) (n0 : Nat) (Z0 : n0 ≤ h0.size) (hEL : EW Z a0 own_EL) (F1 : Fld Z h0 r0 "java/lang/String" "value" "[B" .null) (F2 : Fld Z h0 r0 "java/lang/String" "coder" "B" (.int (0 : Int32))) (E1 : Exa Z h0 r0 "java/lang/String") (g_r0 : n0 ≤ r0) :
    MetFree l (⟨"java/lang/String", "<init>", "([CIILjava/lang/Void;)V"⟩ : MethodName) (head1 (Jvm.Cond.code (⟨"java/lang/String", "<init>", "([CIILjava/lang/Void;)V"⟩ : MethodName) jdk_42_method_149_code 6 none :: ws) ({ frames := 1, cells := 4, slots := 8, locals := 13 } : Room)) (fun a U => a = #[(.ref r0), (.ref r1), (.int (0 : Int32)), (.int (0 : Int32)), .null] ∧ Z.Warmed39 U.vm ∧ U.heap = h0 ∧ CHv Z own_EL U.vm h0) (fun _ _ _ _ _ => True) (fun _ U o U' => ∃ v L, o = .returned v ∧ Q4 Z r0 r1 h0 n0 v U'.heap L ∧ CHr Z own_EL U.vm U.heap U'.vm U'.heap ∧ ReturnedEndW U o U' L ({ frames := 1, cells := 4, slots := 8, locals := 13 } : Room).cells ({ frames := 1, cells := 4, slots := 8, locals := 13 } : Room).slots) := by
  refine MetFree.of_bodySF (plainFor_of_name pn_4) hisR ?_
  intro p e s m args below meth c s₁ Bd hml0 hP hK
  obtain ⟨rfl, hZ, hh, hCH⟩ := hP
  have hx := Bd.exec
  have hby := Bd.bytes
  have hml : c.maxLocals = 6 := hml0
  have hown : s.vm.findClass "java/lang/String" = some m.cls := findClass_of_methodNamed Bd.named
  have hnm := (name_of_methodNamed Bd.named Bd.method).1
  have X0 : Stand p l e ({ frames := 1, cells := 4, slots := 8, locals := 13 } : Room) (s.setVm s.vm) m #[(.ref r0), (.ref r1), (.int (0 : Int32)), (.int (0 : Int32)), .null] below meth c s₁ [] 0 0 := Stand.of_body Bd
  have e0 : s₁.heap = h0 := by rw [← hh, Bd.state]; rfl
  have N0 := Fr.nil n0
  refine own_open fun G hG => ?_
  refine own_go (B := s₁.setTop (mkF m 0 #[.val (.ref r0), .val (.ref r1), .val (.int (0 : Int32)), .val (.int (0 : Int32)), .val .null, .unset] [])) (fun t_ k_ => castTop (ef_rm4 m r0 r1 (0 : Int32) (0 : Int32)) k_) ?_
  have wS : ∀ d ∈ Bundle.stringAtoms, d.before a0 Z = true := fun d hd => hw d ((by decide +kernel : ∀ d ∈ Bundle.stringAtoms, d ∈ tables_1) d hd)
  have CR0 : CHr Z own_EL s.vm h0 s.vm h0 := CHr.refl hCH
  have K0 : Keep h0 h0 [r0] := Keep.refl h0 _
  have Sf0 : Safe Z own_EL s.vm h0 r0 := own_safeN hZ.alike E1 F1
  refine own_go (B := s₁.setTop (mkF m 1 #[.val (.ref r0), .val (.ref r1), .val (.int (0 : Int32)), .val (.int (0 : Int32)), .val .null, .unset] [(.ref r0)])) (fun t_ k_ => ?_) ?_
  · show Steps p.tables e below (s₁.setTop (mkF m 0 #[.val (.ref r0), .val (.ref r1), .val (.int (0 : Int32)), .val (.int (0 : Int32)), .val .null, .unset] [])) _
    refine XS.aloadN X0.here hx rfl (hb hby d4_0) rfl rfl ?_
    show Steps p.tables e below (s₁.setTop (mkF m 1 #[.val (.ref r0), .val (.ref r1), .val (.int (0 : Int32)), .val (.int (0 : Int32)), .val .null, .unset] [(.ref r0)])) _
    exact k_
  obtain ⟨T4, X4, e4, st4⟩ := initO X0 hx hZ hown (hw _ (List.mem_of_getElem? (i := 18) rfl)) (hw _ (List.mem_of_getElem? (i := 19) rfl)) (hw _ (List.mem_of_getElem? (i := 20) rfl)) e0 (g := (mkF m 1 #[.val (.ref r0), .val (.ref r1), .val (.int (0 : Int32)), .val (.int (0 : Int32)), .val .null, .unset] [(.ref r0)])) rfl (by rw [hml]; rfl) rfl (hb hby d4_1) (by decide) (W := 0) (by show 2 * 0 + _ ≤ _; exact Nat.le_of_eq rfl) (by decide)
  refine own_go (B := T4.setTop (mkF m 4 #[.val (.ref r0), .val (.ref r1), .val (.int (0 : Int32)), .val (.int (0 : Int32)), .val .null, .unset] [])) (fun t_ k_ => st4 _ k_) ?_
  refine own_go (B := T4.setTop (mkF m 9 #[.val (.ref r0), .val (.ref r1), .val (.int (0 : Int32)), .val (.int (0 : Int32)), .val .null, .unset] [(.ref r0)])) (fun t_ k_ => ?_) ?_
  · show Steps p.tables e below (T4.setTop (mkF m 4 #[.val (.ref r0), .val (.ref r1), .val (.int (0 : Int32)), .val (.int (0 : Int32)), .val .null, .unset] [])) _
    refine XS.iloadN X4.here hx rfl (hb hby d4_4) rfl ?_
    show Steps p.tables e below (T4.setTop (mkF m 5 #[.val (.ref r0), .val (.ref r1), .val (.int (0 : Int32)), .val (.int (0 : Int32)), .val .null, .unset] [(.int (0 : Int32))])) _
    refine XS.ifNo X4.here hx rfl (hb hby d4_5) rfl ((if0 _ _).trans (teq (by decide : (0 : Int32) = (0 : Int32))).2) ?_
    show Steps p.tables e below (T4.setTop (mkF m 8 #[.val (.ref r0), .val (.ref r1), .val (.int (0 : Int32)), .val (.int (0 : Int32)), .val .null, .unset] [])) _
    refine XS.aloadN X4.here hx rfl (hb hby d4_8) rfl rfl ?_
    show Steps p.tables e below (T4.setTop (mkF m 9 #[.val (.ref r0), .val (.ref r1), .val (.int (0 : Int32)), .val (.int (0 : Int32)), .val .null, .unset] [(.ref r0)])) _
    exact k_
  obtain ⟨a5, T5, h5, kk5, b5, k5, X5, e5, E5, hS5, hk5, hZ5, hown5, Ea5, Fc5, Fv5, Va5, -, -, C5, -, ns5, st5⟩ := ldcCH (s := s) (vm0 := s.vm) X4 hx hZ hown (hw _ (List.mem_of_getElem? (i := 21) rfl)) wS e4 (State.WarmedH.since (State.WarmedH.refl s) 0) (Nat.zero_le _) hEL (List.mem_of_getElem? (i := 0) rfl) CR0.1 (vs := []) (z := (0 : Int32)) ⟨by decide, rfl⟩ (by decide) (by decide) (g := (mkF m 9 #[.val (.ref r0), .val (.ref r1), .val (.int (0 : Int32)), .val (.int (0 : Int32)), .val .null, .unset] [(.ref r0)])) rfl (hb hby d4_9) (n := 0) (by decide) (by decide) (by decide) (by decide)
  have f6 : CHr Z own_EL s.vm h0 T5.vm h5 := CR0.trans C5
  have f7 : Safe Z own_EL T5.vm h5 r0 := CHr.safe C5 F1.lt Sf0
  have hk8 : _ ≤ h5.size := Nat.le_trans (Nat.zero_le _) E5.1
  have f9 : Fld Z h5 r0 "java/lang/String" "value" "[B" .null := F1.ext E5
  have f10 : Fld Z h5 r0 "java/lang/String" "coder" "B" (.int (0 : Int32)) := F2.ext E5
  have f11 : Exa Z h5 r0 "java/lang/String" := E1.ext E5
  have f12 : Keep h0 h5 [r0] := K0.ext E5
  have Z5 : n0 ≤ h5.size := Nat.le_trans Z0 E5.1
  have ne_r0_a5 : r0 ≠ a5 := (ns5 _ f7).1
  have ne_r0_b5 : r0 ≠ b5 := (ns5 _ f7).2
  refine own_go (B := T5.setTop (mkF m 11 #[.val (.ref r0), .val (.ref r1), .val (.int (0 : Int32)), .val (.int (0 : Int32)), .val .null, .unset] [(.ref a5), (.ref r0)])) (fun t_ k_ => st5 _ k_) ?_
  obtain ⟨T13, X13, e13, st13⟩ := getF X5 hx hZ5 hown5 (host := "") (Or.inl (hw _ (List.mem_of_getElem? (i := 27) rfl))) Via.refl e5 Fv5 (g := (mkF m 11 #[.val (.ref r0), .val (.ref r1), .val (.int (0 : Int32)), .val (.int (0 : Int32)), .val .null, .unset] [(.ref a5), (.ref r0)])) rfl rfl (hb hby d4_11)
  refine own_go (B := T13.setTop (mkF m 14 #[.val (.ref r0), .val (.ref r1), .val (.int (0 : Int32)), .val (.int (0 : Int32)), .val .null, .unset] [(.ref b5), (.ref r0)])) (fun t_ k_ => st13 _ k_) ?_
  obtain ⟨T14, h14, X14, e14, W14, st14⟩ := putF X13 hx hZ5 hown5 (host := "") (Or.inl (hw _ (List.mem_of_getElem? (i := 27) rfl))) Via.refl e13 f9 f11 (Or.inr ⟨(hw _ (List.mem_of_getElem? (i := 23) rfl)), rfl, hnm⟩) (hw _ (List.mem_of_getElem? (i := 9) rfl)) (ty := (.array .byte)) (by decide) rfl rfl (g := (mkF m 14 #[.val (.ref r0), .val (.ref r1), .val (.int (0 : Int32)), .val (.int (0 : Int32)), .val .null, .unset] [(.ref b5), (.ref r0)])) rfl rfl (hb hby d4_14)
  have f15 : CHr Z own_EL s.vm h0 T5.vm h14 := f6.trans (CHr.wr W14 f7 f6.1)
  have f16 : Safe Z own_EL T5.vm h14 r0 := Safe.wr W14 f7 f6.1 f7
  have hk17 : _ ≤ h14.size := Nat.le_trans hk5 (Keep.of_wr W14).1
  have f18 : Fld Z h14 r0 "java/lang/String" "value" "[B" (.ref b5) := f9.same W14
  have f19 : Fld Z h14 r0 "java/lang/String" "coder" "B" (.int (0 : Int32)) := f10.other W14 (Or.inr (slot_ne (Or.inr (hw _ (List.mem_of_getElem? (i := 24) rfl))) (Or.inr (hw _ (List.mem_of_getElem? (i := 23) rfl))) (by decide) (t := .byte) (t' := (.array .byte)) (by decide) (by decide)))
  have f20 : Exa Z h14 r0 "java/lang/String" := f11.wr W14
  have f21 : Keep h0 h14 [r0] := f12.wr W14 (Or.inl (List.mem_of_getElem? (i := 0) rfl))
  have f22 : Exa Z h14 a5 "java/lang/String" := Ea5.wr W14
  have f23 : Fld Z h14 a5 "java/lang/String" "coder" "B" (.int 0) := Fc5.other W14 (Or.inl (Ne.symm ne_r0_a5))
  have f24 : Fld Z h14 a5 "java/lang/String" "value" "[B" (.ref b5) := Fv5.other W14 (Or.inl (Ne.symm ne_r0_a5))
  have f25 : Arv Z h14 b5 k5 .byte (0 : Int32) [] (.int 0) := Va5.other W14 (Ne.symm ne_r0_b5)
  have Z14 : n0 ≤ h14.size := Nat.le_trans Z5 (Keep.of_wr W14).1
  have N14 := Fr.snoc X14 N0 g_r0
  refine own_go (B := T14.setTop (mkF m 17 #[.val (.ref r0), .val (.ref r1), .val (.int (0 : Int32)), .val (.int (0 : Int32)), .val .null, .unset] [])) (fun t_ k_ => st14 _ k_) ?_
  refine own_go (B := T14.setTop (mkF m 18 #[.val (.ref r0), .val (.ref r1), .val (.int (0 : Int32)), .val (.int (0 : Int32)), .val .null, .unset] [(.ref r0)])) (fun t_ k_ => ?_) ?_
  · show Steps p.tables e below (T14.setTop (mkF m 17 #[.val (.ref r0), .val (.ref r1), .val (.int (0 : Int32)), .val (.int (0 : Int32)), .val .null, .unset] [])) _
    refine XS.aloadN X14.here hx rfl (hb hby d4_17) rfl rfl ?_
    show Steps p.tables e below (T14.setTop (mkF m 18 #[.val (.ref r0), .val (.ref r1), .val (.int (0 : Int32)), .val (.int (0 : Int32)), .val .null, .unset] [(.ref r0)])) _
    exact k_
  obtain ⟨a26, T26, h26, kk26, b26, k26, X26, e26, E26, hS26, hk26, hZ26, hown26, Ea26, Fc26, Fv26, Va26, -, -, C26, -, ns26, st26⟩ := ldcCH (s := s) (vm0 := T5.vm) X14 hx hZ5 hown5 (hw _ (List.mem_of_getElem? (i := 21) rfl)) wS e14 hS5 hk17 hEL (List.mem_of_getElem? (i := 0) rfl) f15.1 (vs := []) (z := (0 : Int32)) ⟨by decide, rfl⟩ (by decide) (by decide) (g := (mkF m 18 #[.val (.ref r0), .val (.ref r1), .val (.int (0 : Int32)), .val (.int (0 : Int32)), .val .null, .unset] [(.ref r0)])) rfl (hb hby d4_18) (n := 0) (by decide) (by decide) (by decide) (by decide)
  have f27 : CHr Z own_EL s.vm h0 T26.vm h26 := f15.trans C26
  have f28 : Safe Z own_EL T26.vm h26 r0 := CHr.safe C26 f18.lt f16
  have hk29 : _ ≤ h26.size := Nat.le_trans hk17 E26.1
  have f30 : Fld Z h26 r0 "java/lang/String" "value" "[B" (.ref b5) := f18.ext E26
  have f31 : Fld Z h26 r0 "java/lang/String" "coder" "B" (.int (0 : Int32)) := f19.ext E26
  have f32 : Exa Z h26 r0 "java/lang/String" := f20.ext E26
  have f33 : Keep h0 h26 [r0] := f21.ext E26
  have f34 : Exa Z h26 a5 "java/lang/String" := f22.ext E26
  have f35 : Fld Z h26 a5 "java/lang/String" "coder" "B" (.int 0) := f23.ext E26
  have f36 : Fld Z h26 a5 "java/lang/String" "value" "[B" (.ref b5) := f24.ext E26
  have f37 : Arv Z h26 b5 k5 .byte (0 : Int32) [] (.int 0) := f25.ext E26
  have Z26 : n0 ≤ h26.size := Nat.le_trans Z14 E26.1
  have ne_r0_a26 : r0 ≠ a26 := (ns26 _ f28).1
  have ne_r0_b26 : r0 ≠ b26 := (ns26 _ f28).2
  refine own_go (B := T26.setTop (mkF m 20 #[.val (.ref r0), .val (.ref r1), .val (.int (0 : Int32)), .val (.int (0 : Int32)), .val .null, .unset] [(.ref a26), (.ref r0)])) (fun t_ k_ => st26 _ k_) ?_
  obtain ⟨T38, X38, e38, st38⟩ := getF X26 hx hZ26 hown26 (host := "") (Or.inl (hw _ (List.mem_of_getElem? (i := 28) rfl))) Via.refl e26 Fc26 (g := (mkF m 20 #[.val (.ref r0), .val (.ref r1), .val (.int (0 : Int32)), .val (.int (0 : Int32)), .val .null, .unset] [(.ref a26), (.ref r0)])) rfl rfl (hb hby d4_20)
  refine own_go (B := T38.setTop (mkF m 23 #[.val (.ref r0), .val (.ref r1), .val (.int (0 : Int32)), .val (.int (0 : Int32)), .val .null, .unset] [(.int 0), (.ref r0)])) (fun t_ k_ => st38 _ k_) ?_
  obtain ⟨T39, h39, X39, e39, W39, st39⟩ := putFN X38 hx hZ26 hown26 (hw _ (List.mem_of_getElem? (i := 28) rfl)) Via.refl e38 f31 f32 (Or.inr ⟨(hw _ (List.mem_of_getElem? (i := 24) rfl)), rfl, hnm⟩) (hw _ (List.mem_of_getElem? (i := 9) rfl)) (ty := .byte) (v' := (.int (nar .byte 0))) (by decide) rfl (fits_nar_byte _) (g := (mkF m 23 #[.val (.ref r0), .val (.ref r1), .val (.int (0 : Int32)), .val (.int (0 : Int32)), .val .null, .unset] [(.int 0), (.ref r0)])) rfl rfl (hb hby d4_23)
  have f40 : CHr Z own_EL s.vm h0 T26.vm h39 := f27.trans (CHr.wr W39 f28 f27.1)
  have f41 : Safe Z own_EL T26.vm h39 r0 := Safe.wr W39 f28 f27.1 f28
  have hk42 : _ ≤ h39.size := Nat.le_trans hk26 (Keep.of_wr W39).1
  have f43 : Fld Z h39 r0 "java/lang/String" "value" "[B" (.ref b5) := f30.other W39 (Or.inr (slot_ne (Or.inr (hw _ (List.mem_of_getElem? (i := 23) rfl))) (Or.inr (hw _ (List.mem_of_getElem? (i := 24) rfl))) (by decide) (t := (.array .byte)) (t' := .byte) (by decide) (by decide)))
  have f44 : Fld Z h39 r0 "java/lang/String" "coder" "B" (.int (nar .byte 0)) := f31.same W39
  have f45 : Exa Z h39 r0 "java/lang/String" := f32.wr W39
  have f46 : Keep h0 h39 [r0] := f33.wr W39 (Or.inl (List.mem_of_getElem? (i := 0) rfl))
  have f47 : Exa Z h39 a5 "java/lang/String" := f34.wr W39
  have f48 : Fld Z h39 a5 "java/lang/String" "coder" "B" (.int 0) := f35.other W39 (Or.inl (Ne.symm ne_r0_a5))
  have f49 : Fld Z h39 a5 "java/lang/String" "value" "[B" (.ref b5) := f36.other W39 (Or.inl (Ne.symm ne_r0_a5))
  have f50 : Arv Z h39 b5 k5 .byte (0 : Int32) [] (.int 0) := f37.other W39 (Ne.symm ne_r0_b5)
  have f51 : Exa Z h39 a26 "java/lang/String" := Ea26.wr W39
  have f52 : Fld Z h39 a26 "java/lang/String" "coder" "B" (.int 0) := Fc26.other W39 (Or.inl (Ne.symm ne_r0_a26))
  have f53 : Fld Z h39 a26 "java/lang/String" "value" "[B" (.ref b26) := Fv26.other W39 (Or.inl (Ne.symm ne_r0_a26))
  have f54 : Arv Z h39 b26 k26 .byte (0 : Int32) [] (.int 0) := Va26.other W39 (Ne.symm ne_r0_b26)
  have Z39 : n0 ≤ h39.size := Nat.le_trans Z26 (Keep.of_wr W39).1
  have N39 := Fr.snoc X39 N14 g_r0
  refine own_go (B := T39.setTop (mkF m 26 #[.val (.ref r0), .val (.ref r1), .val (.int (0 : Int32)), .val (.int (0 : Int32)), .val .null, .unset] [])) (fun t_ k_ => st39 _ k_) ?_
  obtain ⟨fs, hr, hrun, hended, hRW⟩ := Jvm.Stand.leaveW (s := s) (vm₁ := T26.vm) X39 hS26 (by rw [e39]; exact hk42) (v := none) (fun _ => rfl)
  have CRf : CHr Z own_EL s.vm s.heap (T39.setFrames fs).vm (T39.setFrames fs).heap := by
    show CHr Z own_EL s.vm s.heap T39.vm T39.heap
    rw [hh, e39]
    exact f40.trans (CHv.at (s := s) (vm0 := T26.vm) X39 hZ26 hEL f40.1)
  refine own_at ?_ (hG _ _ ⟨hrun, hended, _, _, rfl, ?_, CRf, hRW.1, hRW.2.1, hRW.2.2.1, hRW.2.2.2.mono (by decide) (by decide)⟩)
  · show Steps p.tables e below (T39.setTop (mkF m 26 #[.val (.ref r0), .val (.ref r1), .val (.int (0 : Int32)), .val (.int (0 : Int32)), .val .null, .unset] [])) _
    exact X39.returnOut hx Bd.returns (hb hby d4_26) hr
  · show Q4 Z r0 r1 h0 n0 _ T39.heap _
    rw [e39]
    exact ⟨rfl, N39, f46, b5, k5, f44, f43, f50⟩
theorem d3_0 : decode jdk_42_method_3_code 0 = .ok (.aload_n 0, 1) := by decide +kernel
theorem d3_1 : decode jdk_42_method_3_code 1 = .ok (.aload_n 1, 1) := by decide +kernel
theorem d3_2 : decode jdk_42_method_3_code 2 = .ok (.iconst 0, 1) := by decide +kernel
theorem d3_3 : decode jdk_42_method_3_code 3 = .ok (.aload_n 1, 1) := by decide +kernel
theorem d3_4 : decode jdk_42_method_3_code 4 = .ok (.arraylength, 1) := by decide +kernel
theorem d3_5 : decode jdk_42_method_3_code 5 = .ok (.aconst_null, 1) := by decide +kernel
theorem d3_6 : decode jdk_42_method_3_code 6 = .ok (.invokespecial 27, 3) := by decide +kernel
theorem d3_9 : decode jdk_42_method_3_code 9 = .ok (.return_, 1) := by decide +kernel
theorem pn_3 : plainName "java/lang/String" = true := by first | (simp [plainName, overriddenIn]; done) | decide +kernel
theorem ef_rm3 (m : MethodId) (x0 : Addr) (x1 : Addr) : entryFrame m #[(.ref x0), (.ref x1)] 2 = mkF m 0 #[.val (.ref x0), .val (.ref x1)] [] := by first | (simp [entryFrame, mkF, argsToLocals, Value.category]; done) | rfl
def Q3 (Z : State) (r0 : Addr) (r1 : Addr) (kc : ClassId) (h0 : Heap) (n0 : Nat) (v : Option Value) (h : Heap) (L : List Loc) : Prop := v = none ∧ Fr n0 L ∧ Keep h0 h [r0] ∧ ∃ (t : Addr) (kb : ClassId), Fld Z h r0 "java/lang/String" "coder" "B" (.int 0) ∧ Fld Z h r0 "java/lang/String" "value" "[B" (.ref t) ∧ Arv Z h t kb .byte (0 : Int32) [] (.int 0)
set_option maxRecDepth 65536 in
set_option maxHeartbeats 40000000 in
theorem rm3 (l : Launch) (Z : State) (a0 : Array Value) (hw : ∀ d ∈ tables_1, d.before a0 Z = true) (ws : List Jvm.Cond) (r0 : Addr) (r1 : Addr) (kc : ClassId) (h0 : Heap) (n0 : Nat) (Z0 : n0 ≤ h0.size) (hEL : EW Z a0 own_EL) (F1 : Fld Z h0 r0 "java/lang/String" "value" "[B" .null) (F2 : Fld Z h0 r0 "java/lang/String" "coder" "B" (.int (0 : Int32))) (E1 : Exa Z h0 r0 "java/lang/String") (g_r0 : n0 ≤ r0) (V1 : Arv Z h0 r1 kc .char (0 : Int32) [] (.int (0 : Int32))) :
    MetFree l (⟨"java/lang/String", "<init>", "([C)V"⟩ : MethodName) (head1 (Jvm.Cond.code (⟨"java/lang/String", "<init>", "([C)V"⟩ : MethodName) jdk_42_method_3_code 2 none :: ws) ({ frames := 2, cells := 4, slots := 8, locals := 30 } : Room)) (fun a U => a = #[(.ref r0), (.ref r1)] ∧ Z.Warmed39 U.vm ∧ U.heap = h0 ∧ CHv Z own_EL U.vm h0) (fun _ _ _ _ _ => True) (fun _ U o U' => ∃ v L, o = .returned v ∧ Q3 Z r0 r1 kc h0 n0 v U'.heap L ∧ CHr Z own_EL U.vm U.heap U'.vm U'.heap ∧ ReturnedEndW U o U' L ({ frames := 2, cells := 4, slots := 8, locals := 30 } : Room).cells ({ frames := 2, cells := 4, slots := 8, locals := 30 } : Room).slots) := by
  refine MetFree.of_bodySF (plainFor_of_name pn_3) hisR ?_
  intro p e s m args below meth c s₁ Bd hml0 hP hK
  obtain ⟨rfl, hZ, hh, hCH⟩ := hP
  have hx := Bd.exec
  have hby := Bd.bytes
  have hml : c.maxLocals = 2 := hml0
  have hown : s.vm.findClass "java/lang/String" = some m.cls := findClass_of_methodNamed Bd.named
  have hnm := (name_of_methodNamed Bd.named Bd.method).1
  have X0 : Stand p l e ({ frames := 2, cells := 4, slots := 8, locals := 30 } : Room) (s.setVm s.vm) m #[(.ref r0), (.ref r1)] below meth c s₁ [] 0 0 := Stand.of_body Bd
  have e0 : s₁.heap = h0 := by rw [← hh, Bd.state]; rfl
  have N0 := Fr.nil n0
  refine own_open fun G hG => ?_
  refine own_go (B := s₁.setTop (mkF m 0 #[.val (.ref r0), .val (.ref r1)] [])) (fun t_ k_ => castTop (ef_rm3 m r0 r1) k_) ?_
  have wS : ∀ d ∈ Bundle.stringAtoms, d.before a0 Z = true := fun d hd => hw d ((by decide +kernel : ∀ d ∈ Bundle.stringAtoms, d ∈ tables_1) d hd)
  have CR0 : CHr Z own_EL s.vm h0 s.vm h0 := CHr.refl hCH
  have K0 : Keep h0 h0 [r0] := Keep.refl h0 _
  have Sf0 : Safe Z own_EL s.vm h0 r0 := own_safeN hZ.alike E1 F1
  have ne_r0_r1 : r0 ≠ r1 := E1.neArv V1 (hw _ (List.mem_of_getElem? (i := 9) rfl))
  refine own_go (B := s₁.setTop (mkF m 4 #[.val (.ref r0), .val (.ref r1)] [(.ref r1), (.int (0 : Int32)), (.ref r1), (.ref r0)])) (fun t_ k_ => ?_) ?_
  · show Steps p.tables e below (s₁.setTop (mkF m 0 #[.val (.ref r0), .val (.ref r1)] [])) _
    refine XS.aloadN X0.here hx rfl (hb hby d3_0) rfl rfl ?_
    show Steps p.tables e below (s₁.setTop (mkF m 1 #[.val (.ref r0), .val (.ref r1)] [(.ref r0)])) _
    refine XS.aloadN X0.here hx rfl (hb hby d3_1) rfl rfl ?_
    show Steps p.tables e below (s₁.setTop (mkF m 2 #[.val (.ref r0), .val (.ref r1)] [(.ref r1), (.ref r0)])) _
    refine XS.iconst X0.here hx rfl (hb hby d3_2) ?_
    show Steps p.tables e below (s₁.setTop (mkF m 3 #[.val (.ref r0), .val (.ref r1)] [(.int (0 : Int32)), (.ref r1), (.ref r0)])) _
    refine XS.aloadN X0.here hx rfl (hb hby d3_3) rfl rfl ?_
    show Steps p.tables e below (s₁.setTop (mkF m 4 #[.val (.ref r0), .val (.ref r1)] [(.ref r1), (.int (0 : Int32)), (.ref r1), (.ref r0)])) _
    exact k_
  obtain ⟨cl56, Ar56, -, S56, M56, -, -⟩ := id V1
  refine own_go (B := s₁.setTop (mkF m 5 #[.val (.ref r0), .val (.ref r1)] [(.int (0 : Int32)), (.int (0 : Int32)), (.ref r1), (.ref r0)])) (fun t_ k_ => ?_) ?_
  · refine X0.arraylength hx (by rw [e0]; exact Ar56.1) (State.isArrayOf_alike hZ.alike Ar56.2.1) (g := (mkF m 4 #[.val (.ref r0), .val (.ref r1)] [(.ref r1), (.int (0 : Int32)), (.ref r1), (.ref r0)])) rfl rfl (hb hby d3_4) _ ?_
    rw [len_of S56 M56]
    exact k_
  refine own_go (B := s₁.setTop (mkF m 6 #[.val (.ref r0), .val (.ref r1)] [.null, (.int (0 : Int32)), (.int (0 : Int32)), (.ref r1), (.ref r0)])) (fun t_ k_ => ?_) ?_
  · show Steps p.tables e below (s₁.setTop (mkF m 5 #[.val (.ref r0), .val (.ref r1)] [(.int (0 : Int32)), (.int (0 : Int32)), (.ref r1), (.ref r0)])) _
    refine XS.aconstNull X0.here hx rfl (hb hby d3_5) ?_
    show Steps p.tables e below (s₁.setTop (mkF m 6 #[.val (.ref r0), .val (.ref r1)] [.null, (.int (0 : Int32)), (.int (0 : Int32)), (.ref r1), (.ref r0)])) _
    exact k_
  obtain ⟨_, _, ⟨T57, L57, k57, n57⟩, -, X57, Sn57, gr57, ⟨Lc57, hQ57, l57, y57, z57, C57⟩, st57⟩ := X0.specialBackS hx (y := (⟨"java/lang/String", "<init>", "([CIILjava/lang/Void;)V"⟩ : MethodName)) rfl hown (mvT hZ (hw _ (List.mem_of_getElem? (i := 14) rfl))) (mvT hZ (hw _ (List.mem_of_getElem? (i := 15) rfl))) (mvT hZ (hw _ (List.mem_of_getElem? (i := 17) rfl))) (by decide) (backOfSH (s := s) (vm0 := s.vm) (W := 0) (rm4 l Z a0 hw [] r0 r1 h0 n0 Z0 hEL F1 F2 E1 g_r0) hZ (hw _ (List.mem_of_getElem? (i := 17) rfl)) (hw _ (List.mem_of_getElem? (i := 10) rfl)) (by decide) (by decide) hEL CR0.1) (g := (mkF m 6 #[.val (.ref r0), .val (.ref r1)] [.null, (.int (0 : Int32)), (.int (0 : Int32)), (.ref r1), (.ref r0)])) rfl (by rw [hml]; rfl) (Steps.refl _) (a := r0) (argsL := [(.ref r1), (.int (0 : Int32)), (.int (0 : Int32)), .null]) (rest := []) (lenOf pd__28__5b_CIILjava_2f_lang_2f_Void_3b__29_V rfl) rfl (by show 2 * 0 + _ ≤ _; exact Nat.le_of_eq rfl) (hb hby d3_6) (fun _ _ => ⟨rfl, e0, (by decide : 0 + 4 ≤ _), (by decide : 0 + 8 ≤ _)⟩)
  dsimp only [Pt.U, Pt.locs, Pt.cells, Pt.slots] at X57 Sn57 gr57 l57 y57 z57 st57 hQ57 C57
  subst l57 y57 z57
  obtain ⟨X57r, hS57, hZ57, hown57⟩ := rebS (s := s) (vm0 := s.vm) (State.WarmedH.since (State.WarmedH.refl s) 0) (Nat.zero_le _) X57 Sn57 gr57 hZ hown
  have hkr57 : T57.heap.size ≤ T57.heap.size := Nat.le_refl _
  have f58 : CHr Z own_EL s.vm h0 T57.vm T57.heap := CR0.trans C57
  have f59 : Safe Z own_EL T57.vm T57.heap r0 := CHr.safe C57 F1.lt Sf0
  obtain ⟨rfl, N57q, K57, t57, kb57, Fc57, Fv57, Va57⟩ := hQ57
  have N57 := Fr.app N0 N57q
  have hk60 : _ ≤ T57.heap.size := Nat.le_trans (Nat.zero_le _) K57.1
  have f61 : Exa Z T57.heap r0 "java/lang/String" := E1.keep K57
  have f62 : Keep h0 T57.heap [r0] := K0.trans K57 (allS (Or.inl (List.mem_of_getElem? (i := 0) rfl)) all0)
  have f63 : Arv Z T57.heap r1 kc .char (0 : Int32) [] (.int (0 : Int32)) := V1.keep K57 (ninS (Ne.symm ne_r0_r1) nin0)
  have Z57 : n0 ≤ T57.heap.size := Nat.le_trans Z0 K57.1
  refine own_go (B := T57.setTop (mkF m 9 #[.val (.ref r0), .val (.ref r1)] [])) (fun t_ k_ => st57.trans k_) ?_
  obtain ⟨fs, hr, hrun, hended, hRW⟩ := Jvm.Stand.leaveW (s := s) (vm₁ := T57.vm) X57r hS57 hkr57 (v := none) (fun _ => rfl)
  have CRf : CHr Z own_EL s.vm s.heap (T57.setFrames fs).vm (T57.setFrames fs).heap := by
    show CHr Z own_EL s.vm s.heap T57.vm T57.heap
    rw [hh]
    exact f58.trans (CHv.at (s := s) (vm0 := T57.vm) X57r hZ57 hEL f58.1)
  refine own_at ?_ (hG _ _ ⟨hrun, hended, _, _, rfl, ?_, CRf, hRW.1, hRW.2.1, hRW.2.2.1, hRW.2.2.2.mono (by decide) (by decide)⟩)
  · show Steps p.tables e below (T57.setTop (mkF m 9 #[.val (.ref r0), .val (.ref r1)] [])) _
    exact X57r.returnOut hx Bd.returns (hb hby d3_9) hr
  · show Q3 Z r0 r1 kc h0 n0 _ T57.heap _
    exact ⟨rfl, N57, f62, t57, kb57, Fc57, Fv57, Va57⟩
theorem d1_0 : decode method_5_code 0 = .ok (.iload_n 0, 1) := by decide +kernel
theorem d1_1 : decode method_5_code 1 = .ok (.invokestatic 7, 3) := by decide +kernel
theorem d1_4 : decode method_5_code 4 = .ok (.istore_n 1, 1) := by decide +kernel
theorem d1_5 : decode method_5_code 5 = .ok (.iload_n 1, 1) := by decide +kernel
theorem d1_6 : decode method_5_code 6 = .ok (.newarray .char, 2) := by decide +kernel
theorem d1_8 : decode method_5_code 8 = .ok (.astore_n 2, 1) := by decide +kernel
theorem d1_9 : decode method_5_code 9 = .ok (.iload_n 1, 1) := by decide +kernel
theorem d1_10 : decode method_5_code 10 = .ok (.iconst 1, 1) := by decide +kernel
theorem d1_11 : decode method_5_code 11 = .ok (.if_icmp .lt 10, 3) := by decide +kernel
theorem d1_14 : decode method_5_code 14 = .ok (.aload_n 2, 1) := by decide +kernel
theorem d1_15 : decode method_5_code 15 = .ok (.iconst 0, 1) := by decide +kernel
theorem d1_16 : decode method_5_code 16 = .ok (.iload_n 0, 1) := by decide +kernel
theorem d1_17 : decode method_5_code 17 = .ok (.invokestatic 13, 3) := by decide +kernel
theorem d1_20 : decode method_5_code 20 = .ok (.castore, 1) := by decide +kernel
theorem d1_21 : decode method_5_code 21 = .ok (.iload_n 1, 1) := by decide +kernel
theorem d1_22 : decode method_5_code 22 = .ok (.iconst 2, 1) := by decide +kernel
theorem d1_23 : decode method_5_code 23 = .ok (.if_icmp .ne 10, 3) := by decide +kernel
theorem d1_26 : decode method_5_code 26 = .ok (.aload_n 2, 1) := by decide +kernel
theorem d1_27 : decode method_5_code 27 = .ok (.iconst 1, 1) := by decide +kernel
theorem d1_28 : decode method_5_code 28 = .ok (.iload_n 0, 1) := by decide +kernel
theorem d1_29 : decode method_5_code 29 = .ok (.invokestatic 17, 3) := by decide +kernel
theorem d1_32 : decode method_5_code 32 = .ok (.castore, 1) := by decide +kernel
theorem d1_33 : decode method_5_code 33 = .ok (.new 20, 3) := by decide +kernel
theorem d1_36 : decode method_5_code 36 = .ok (.dup, 1) := by decide +kernel
theorem d1_37 : decode method_5_code 37 = .ok (.aload_n 2, 1) := by decide +kernel
theorem d1_38 : decode method_5_code 38 = .ok (.invokespecial 22, 3) := by decide +kernel
theorem d1_41 : decode method_5_code 41 = .ok (.areturn, 1) := by decide +kernel
theorem pn_1 : plainName "com/example/prudent_annotator/prudentannotator/profile/FileChecksumEqualsPinLaw" = true := by first | (simp [plainName, overriddenIn]; done) | decide +kernel
theorem ef_rm1 (m : MethodId) (x0 : Int32) : entryFrame m #[(.int x0)] 3 = mkF m 0 #[.val (.int x0), .unset, .unset] [] := by first | (simp [entryFrame, mkF, argsToLocals, Value.category]; done) | rfl
def Q1 (Z : State) (p0 : Int32) (z : Int32) (h0 : Heap) (n0 : Nat) (v : Option Value) (h : Heap) (L : List Loc) : Prop := ∃ (a t : Addr) (kb : ClassId), v = some (.ref a) ∧ Fr n0 L ∧ Keep h0 h [] ∧ Exa Z h a "java/lang/String" ∧ Fld Z h a "java/lang/String" "coder" "B" (.int 0) ∧ Fld Z h a "java/lang/String" "value" "[B" (.ref t) ∧ Arv Z h t kb .byte (Int32.ofNat (own_cs p0).length) (own_bv p0) (.int 0)
set_option maxRecDepth 65536 in
set_option maxHeartbeats 40000000 in
theorem rm1 (l : Launch) (Z : State) (a0 : Array Value) (hw : ∀ d ∈ tables_1, d.before a0 Z = true) (ws : List Jvm.Cond) (p0 : Int32) (z : Int32) (h0 : Heap) (n0 : Nat) (Z0 : n0 ≤ h0.size) (hEL : EW Z a0 own_EL) (O0 : Old Z n0 h0) (S0 : Sta Z Z.heap "java/lang/String" "COMPACT_STRINGS" "Z" (.int z)) (hz : ¬ z = 0) :
    MetFree l (⟨"com/example/prudent_annotator/prudentannotator/profile/FileChecksumEqualsPinLaw", "mk", "(I)Ljava/lang/String;"⟩ : MethodName) (head1 (Jvm.Cond.code (⟨"com/example/prudent_annotator/prudentannotator/profile/FileChecksumEqualsPinLaw", "mk", "(I)Ljava/lang/String;"⟩ : MethodName) method_5_code 3 (some (.object "java/lang/String")) :: ws) ({ frames := 5, cells := 6, slots := 14, locals := 90 } : Room)) (fun a U => a = #[(.int p0)] ∧ Z.Warmed39 U.vm ∧ U.heap = h0 ∧ CHv Z own_EL U.vm h0) (fun _ _ _ _ _ => True) (fun _ U o U' => ∃ v L, o = .returned v ∧ Q1 Z p0 z h0 n0 v U'.heap L ∧ CHr Z own_EL U.vm U.heap U'.vm U'.heap ∧ ReturnedEndW U o U' L ({ frames := 5, cells := 6, slots := 14, locals := 90 } : Room).cells ({ frames := 5, cells := 6, slots := 14, locals := 90 } : Room).slots) := by
  refine MetFree.of_bodySF (plainFor_of_name pn_1) hisR ?_
  intro p e s m args below meth c s₁ Bd hml0 hP hK
  obtain ⟨rfl, hZ, hh, hCH⟩ := hP
  have hx := Bd.exec
  have hby := Bd.bytes
  have hml : c.maxLocals = 3 := hml0
  have hown : s.vm.findClass "com/example/prudent_annotator/prudentannotator/profile/FileChecksumEqualsPinLaw" = some m.cls := findClass_of_methodNamed Bd.named
  have hnm := (name_of_methodNamed Bd.named Bd.method).1
  have X0 : Stand p l e ({ frames := 5, cells := 6, slots := 14, locals := 90 } : Room) (s.setVm s.vm) m #[(.int p0)] below meth c s₁ [] 0 0 := Stand.of_body Bd
  have e0 : s₁.heap = h0 := by rw [← hh, Bd.state]; rfl
  have N0 := Fr.nil n0
  refine own_open fun G hG => ?_
  refine own_go (B := s₁.setTop (mkF m 0 #[.val (.int p0), .unset, .unset] [])) (fun t_ k_ => castTop (ef_rm1 m p0) k_) ?_
  have wS : ∀ d ∈ Bundle.stringAtoms, d.before a0 Z = true := fun d hd => hw d ((by decide +kernel : ∀ d ∈ Bundle.stringAtoms, d ∈ tables_1) d hd)
  have CR0 : CHr Z own_EL s.vm h0 s.vm h0 := CHr.refl hCH
  have hws : ∀ d ∈ StrChars.Road.words, d.before a0 Z = true := fun d hd => hw d ((by decide +kernel : ∀ d ∈ StrChars.Road.words, d ∈ tables_1) d hd)
  have K0 : Keep h0 h0 [] := Keep.refl h0 _
  refine own_go (B := s₁.setTop (mkF m 1 #[.val (.int p0), .unset, .unset] [(.int p0)])) (fun t_ k_ => ?_) ?_
  · show Steps p.tables e below (s₁.setTop (mkF m 0 #[.val (.int p0), .unset, .unset] [])) _
    refine XS.iloadN X0.here hx rfl (hb hby d1_0) rfl ?_
    show Steps p.tables e below (s₁.setTop (mkF m 1 #[.val (.int p0), .unset, .unset] [(.int p0)])) _
    exact k_
  obtain ⟨vv65, _, ⟨T65, L65, k65, n65⟩, -, X65, ⟨Lc65, hQ65, l65, y65, z65⟩, st65⟩ := Jvm.LawKit.callS X0 hx (y := (⟨"com/example/prudent_annotator/prudentannotator/profile/FileChecksumEqualsPinLaw", "len", "(I)I"⟩ : MethodName)) hown (mvT hZ (hw _ (List.mem_of_getElem? (i := 4) rfl))) (mvT hZ (hw _ (List.mem_of_getElem? (i := 5) rfl))) (mvT hZ (hw _ (List.mem_of_getElem? (i := 2) rfl))) (mvT hZ (hw _ (List.mem_of_getElem? (i := 6) rfl))) (by decide) (backOf (W := 0) (rm2 l Z a0 hw [] p0 h0 n0 Z0) hZ (hw _ (List.mem_of_getElem? (i := 6) rfl)) (hw _ (List.mem_of_getElem? (i := 2) rfl)) (by decide) (by decide)) (g := (mkF m 1 #[.val (.int p0), .unset, .unset] [(.int p0)])) rfl (by rw [hml]; rfl) (argsL := [(.int p0)]) (rest := []) (lenOf pd__28_I_29_I rfl) rfl (by show 2 * 0 + _ ≤ _; exact Nat.le_of_eq rfl) (hb hby d1_1) (fun _ _ => ⟨rfl, e0, (by decide : 0 + 0 ≤ _), (by decide : 0 + 0 ≤ _)⟩)
  dsimp only [Pt.U, Pt.locs, Pt.cells, Pt.slots] at X65 l65 y65 z65 st65 hQ65
  subst l65 y65 z65
  obtain ⟨rfl, N65q, e65q⟩ := hQ65
  have N65 := Fr.app N0 N65q
  refine own_go (B := T65.setTop (mkF m 4 #[.val (.int p0), .unset, .unset] [(.int (own_len p0))])) (fun t_ k_ => st65 _ k_) ?_
  refine own_go (B := T65.setTop (mkF m 5 #[.val (.int p0), .val (.int (own_len p0)), .unset] [])) (fun t_ k_ => ?_) ?_
  · show Steps p.tables e below (T65.setTop (mkF m 4 #[.val (.int p0), .unset, .unset] [(.int (own_len p0))])) _
    refine XS.istoreN X65.here hx rfl (hb hby d1_4) rfl (l' := #[.val (.int p0), .val (.int (own_len p0)), .unset]) rfl ?_
    show Steps p.tables e below (T65.setTop (mkF m 5 #[.val (.int p0), .val (.int (own_len p0)), .unset] [])) _
    exact k_
  rcases own_len3 p0 with e0 | e0 | e0
  · rw [e0]
    refine own_go (B := T65.setTop (mkF m 6 #[.val (.int p0), .val (.int (0 : Int32)), .unset] [(.int (0 : Int32))])) (fun t_ k_ => ?_) ?_
    · show Steps p.tables e below (T65.setTop (mkF m 5 #[.val (.int p0), .val (.int (0 : Int32)), .unset] [])) _
      refine XS.iloadN X65.here hx rfl (hb hby d1_5) rfl ?_
      show Steps p.tables e below (T65.setTop (mkF m 6 #[.val (.int p0), .val (.int (0 : Int32)), .unset] [(.int (0 : Int32))])) _
      exact k_
    obtain ⟨T66, h66, k66, X66, e66, E66, A66, st66⟩ := newP X65 hx hZ (hw _ (List.mem_of_getElem? (i := 7) rfl)) e65q (g := (mkF m 6 #[.val (.int p0), .val (.int (0 : Int32)), .unset] [(.int (0 : Int32))])) rfl (hb hby d1_6) rfl (by decide) (cap := 0) (by decide) (by decide) (by decide) (by decide)
    obtain ⟨b66, g66⟩ : ∃ z, z = h0.size := ⟨_, rfl⟩
    rw [← g66] at A66 st66
    have g_b66 : n0 ≤ b66 := Nat.le_trans Z0 (Nat.le_of_eq g66.symm)
    have sz_b66 : h0.size ≤ b66 := Nat.le_trans K0.1 (Nat.le_of_eq g66.symm)
    have f67 : CHr Z own_EL s.vm h0 s.vm h66 := CR0.trans (CHr.ext E66 CR0.1)
    have hk68 : _ ≤ h66.size := Nat.le_trans (Nat.zero_le _) E66.1
    have f69 : Keep h0 h66 [] := K0.ext E66
    have f70 : Old Z n0 h66 := O0.ext E66
    have Z66 : n0 ≤ h66.size := Nat.le_trans Z0 E66.1
    have f71 : Arv Z h66 b66 k66 .char (0 : Int32) [] (.int (0 : Int32)) := (Arv.new A66 (by decide)).pad (pad_rep [] (.int (0 : Int32)) 0)
    refine own_go (B := T66.setTop (mkF m 8 #[.val (.int p0), .val (.int (0 : Int32)), .unset] [(.ref b66)])) (fun t_ k_ => st66 _ k_) ?_
    refine own_go (B := T66.setTop (mkF m 33 #[.val (.int p0), .val (.int (0 : Int32)), .val (.ref b66)] [])) (fun t_ k_ => ?_) ?_
    · show Steps p.tables e below (T66.setTop (mkF m 8 #[.val (.int p0), .val (.int (0 : Int32)), .unset] [(.ref b66)])) _
      refine XS.astoreN X66.here hx rfl (hb hby d1_8) rfl rfl (l' := #[.val (.int p0), .val (.int (0 : Int32)), .val (.ref b66)]) rfl ?_
      show Steps p.tables e below (T66.setTop (mkF m 9 #[.val (.int p0), .val (.int (0 : Int32)), .val (.ref b66)] [])) _
      refine XS.iloadN X66.here hx rfl (hb hby d1_9) rfl ?_
      show Steps p.tables e below (T66.setTop (mkF m 10 #[.val (.int p0), .val (.int (0 : Int32)), .val (.ref b66)] [(.int (0 : Int32))])) _
      refine XS.iconst X66.here hx rfl (hb hby d1_10) ?_
      show Steps p.tables e below (T66.setTop (mkF m 11 #[.val (.int p0), .val (.int (0 : Int32)), .val (.ref b66)] [(.int (1 : Int32)), (.int (0 : Int32))])) _
      refine XS.icmpYes X66.here hx rfl (pc0 := 11) (pc' := 21) rfl (hb hby d1_11) rfl (tlt (by decide : (0 : Int32) < (1 : Int32))).1 (by decide) (by decide) ?_
      show Steps p.tables e below (T66.setTop (mkF m 21 #[.val (.int p0), .val (.int (0 : Int32)), .val (.ref b66)] [])) _
      refine XS.iloadN X66.here hx rfl (hb hby d1_21) rfl ?_
      show Steps p.tables e below (T66.setTop (mkF m 22 #[.val (.int p0), .val (.int (0 : Int32)), .val (.ref b66)] [(.int (0 : Int32))])) _
      refine XS.iconst X66.here hx rfl (hb hby d1_22) ?_
      show Steps p.tables e below (T66.setTop (mkF m 23 #[.val (.int p0), .val (.int (0 : Int32)), .val (.ref b66)] [(.int (2 : Int32)), (.int (0 : Int32))])) _
      refine XS.icmpYes X66.here hx rfl (pc0 := 23) (pc' := 33) rfl (hb hby d1_23) rfl (feq (by decide : ¬ ((0 : Int32) = (2 : Int32)))).2 (by decide) (by decide) ?_
      show Steps p.tables e below (T66.setTop (mkF m 33 #[.val (.int p0), .val (.int (0 : Int32)), .val (.ref b66)] [])) _
      exact k_
    obtain ⟨T72, h72, X72, e72, E72, A72, D72, U72, st72⟩ := newO X66 hx hZ hown (hw _ (List.mem_of_getElem? (i := 8) rfl)) (hw _ (List.mem_of_getElem? (i := 9) rfl)) (hw _ (List.mem_of_getElem? (i := 10) rfl)) e66 (g := (mkF m 33 #[.val (.int p0), .val (.int (0 : Int32)), .val (.ref b66)] [])) rfl (hb hby d1_33) (by decide) (by decide)
    obtain ⟨b72, g72⟩ : ∃ z, z = h66.size := ⟨_, rfl⟩
    rw [← g72] at A72 D72 U72 st72
    have g_b72 : n0 ≤ b72 := Nat.le_trans Z66 (Nat.le_of_eq g72.symm)
    have ne_b66_b72 : b66 ≠ b72 := Nat.ne_of_lt (Nat.lt_of_lt_of_le f71.lt (Nat.le_of_eq g72.symm))
    have sz_b72 : h0.size ≤ b72 := Nat.le_trans f69.1 (Nat.le_of_eq g72.symm)
    have f73 : CHr Z own_EL s.vm h0 s.vm h72 := f67.trans (CHr.ext E72 f67.1)
    have hk74 : _ ≤ h72.size := Nat.le_trans hk68 E72.1
    have f75 : Keep h0 h72 [] := f69.ext E72
    have f76 : Old Z n0 h72 := f70.ext E72
    have f77 : Arv Z h72 b66 k66 .char (0 : Int32) [] (.int (0 : Int32)) := f71.ext E72
    have Z72 : n0 ≤ h72.size := Nat.le_trans Z66 E72.1
    have f78 : Fld Z h72 b72 "java/lang/String" "value" "[B" .null := D72 (Or.inr (hw _ (List.mem_of_getElem? (i := 23) rfl))) (ty := (.array .byte)) (by decide)
    have f79 : Fld Z h72 b72 "java/lang/String" "coder" "B" (.int (0 : Int32)) := D72 (Or.inr (hw _ (List.mem_of_getElem? (i := 24) rfl))) (ty := .byte) (by decide)
    have f80 : Safe Z own_EL s.vm h72 b72 := own_safeN hZ.alike A72 f78
    refine own_go (B := T72.setTop (mkF m 36 #[.val (.int p0), .val (.int (0 : Int32)), .val (.ref b66)] [(.ref b72)])) (fun t_ k_ => st72 _ k_) ?_
    refine own_go (B := T72.setTop (mkF m 38 #[.val (.int p0), .val (.int (0 : Int32)), .val (.ref b66)] [(.ref b66), (.ref b72), (.ref b72)])) (fun t_ k_ => ?_) ?_
    · show Steps p.tables e below (T72.setTop (mkF m 36 #[.val (.int p0), .val (.int (0 : Int32)), .val (.ref b66)] [(.ref b72)])) _
      refine XS.dup X72.here hx rfl (hb hby d1_36) rfl rfl ?_
      show Steps p.tables e below (T72.setTop (mkF m 37 #[.val (.int p0), .val (.int (0 : Int32)), .val (.ref b66)] [(.ref b72), (.ref b72)])) _
      refine XS.aloadN X72.here hx rfl (hb hby d1_37) rfl rfl ?_
      show Steps p.tables e below (T72.setTop (mkF m 38 #[.val (.int p0), .val (.int (0 : Int32)), .val (.ref b66)] [(.ref b66), (.ref b72), (.ref b72)])) _
      exact k_
    obtain ⟨_, _, ⟨T81, L81, k81, n81⟩, -, X81, Sn81, gr81, ⟨Lc81, hQ81, l81, y81, z81, C81⟩, st81⟩ := X72.specialBackS hx (y := (⟨"java/lang/String", "<init>", "([C)V"⟩ : MethodName)) rfl hown (mvT hZ (hw _ (List.mem_of_getElem? (i := 11) rfl))) (mvT hZ (hw _ (List.mem_of_getElem? (i := 12) rfl))) (mvT hZ (hw _ (List.mem_of_getElem? (i := 13) rfl))) (by decide) (backOfSH (s := s) (vm0 := s.vm) (W := 1) (rm3 l Z a0 hw [] b72 b66 k66 h72 n0 Z72 hEL f78 f79 A72 g_b72 f77) hZ (hw _ (List.mem_of_getElem? (i := 13) rfl)) (hw _ (List.mem_of_getElem? (i := 10) rfl)) (by decide) (by decide) hEL f73.1) (g := (mkF m 38 #[.val (.int p0), .val (.int (0 : Int32)), .val (.ref b66)] [(.ref b66), (.ref b72), (.ref b72)])) rfl (by rw [hml]; rfl) (Steps.refl _) (a := b72) (argsL := [(.ref b66)]) (rest := [(.ref b72)]) (lenOf pd__28__5b_C_29_V rfl) rfl (by show 2 * 0 + _ ≤ _; exact Nat.le_of_eq rfl) (hb hby d1_38) (fun _ _ => ⟨rfl, e72, (by decide : 2 + 4 ≤ _), (by decide : 4 + 8 ≤ _)⟩)
    dsimp only [Pt.U, Pt.locs, Pt.cells, Pt.slots] at X81 Sn81 gr81 l81 y81 z81 st81 hQ81 C81
    subst l81 y81 z81
    obtain ⟨X81r, hS81, hZ81, hown81⟩ := rebS (s := s) (vm0 := s.vm) (State.WarmedH.since (State.WarmedH.refl s) 0) (by rw [e72]; exact hk74) X81 Sn81 gr81 hZ hown
    have hkr81 : T81.heap.size ≤ T81.heap.size := Nat.le_refl _
    have f82 : CHr Z own_EL s.vm h0 T81.vm T81.heap := f73.trans C81
    have f83 : Safe Z own_EL T81.vm T81.heap b72 := CHr.safe C81 A72.lt f80
    obtain ⟨rfl, N81q, K81, t81, kb81, Fc81, Fv81, Va81⟩ := hQ81
    have N81 := Fr.app N65 N81q
    have hk84 : _ ≤ T81.heap.size := Nat.le_trans hk74 K81.1
    have f85 : Keep h0 T81.heap [] := f75.trans K81 (allS (Or.inr sz_b72) all0)
    have f86 : Old Z n0 T81.heap := f76.keep K81 (allS g_b72 all0)
    have f87 : Arv Z T81.heap b66 k66 .char (0 : Int32) [] (.int (0 : Int32)) := f77.keep K81 (ninS ne_b66_b72 nin0)
    have f88 : Exa Z T81.heap b72 "java/lang/String" := A72.keep K81
    have Z81 : n0 ≤ T81.heap.size := Nat.le_trans Z72 K81.1
    refine own_go (B := T81.setTop (mkF m 41 #[.val (.int p0), .val (.int (0 : Int32)), .val (.ref b66)] [(.ref b72)])) (fun t_ k_ => st81.trans k_) ?_
    obtain ⟨fs, hr, hrun, hended, hRW⟩ := Jvm.Stand.leaveW (s := s) (vm₁ := T81.vm) X81r hS81 hkr81 (v := some (.ref b72)) (fun h => by rw [Bd.returns] at h; cases h)
    have CRf : CHr Z own_EL s.vm s.heap (T81.setFrames fs).vm (T81.setFrames fs).heap := by
      show CHr Z own_EL s.vm s.heap T81.vm T81.heap
      rw [hh]
      exact f82.trans (CHv.at (s := s) (vm0 := T81.vm) X81r hZ81 hEL f82.1)
    refine own_at ?_ (hG _ _ ⟨hrun, hended, _, _, rfl, ?_, CRf, hRW.1, hRW.2.1, hRW.2.2.1, hRW.2.2.2.mono (by decide) (by decide)⟩)
    · show Steps p.tables e below (T81.setTop (mkF m 41 #[.val (.int p0), .val (.int (0 : Int32)), .val (.ref b66)] [(.ref b72)])) _
      exact retOut X81r hx (t := (.object "java/lang/String")) Bd.returns rfl (Or.inr (Or.inr (Or.inr (Or.inr ⟨rfl, rfl, rfl⟩)))) (hb hby d1_41) hr
    · show Q1 Z p0 z h0 n0 _ T81.heap _
      exact ⟨b72, t81, kb81, rfl, N81, f85, f88, Fc81, Fv81, by unfold own_bv; rw [own_cs0 e0]; exact Va81⟩
  · rw [e0]
    refine own_go (B := T65.setTop (mkF m 6 #[.val (.int p0), .val (.int (1 : Int32)), .unset] [(.int (1 : Int32))])) (fun t_ k_ => ?_) ?_
    · show Steps p.tables e below (T65.setTop (mkF m 5 #[.val (.int p0), .val (.int (1 : Int32)), .unset] [])) _
      refine XS.iloadN X65.here hx rfl (hb hby d1_5) rfl ?_
      show Steps p.tables e below (T65.setTop (mkF m 6 #[.val (.int p0), .val (.int (1 : Int32)), .unset] [(.int (1 : Int32))])) _
      exact k_
    obtain ⟨T90, h90, k90, X90, e90, E90, A90, st90⟩ := newP X65 hx hZ (hw _ (List.mem_of_getElem? (i := 7) rfl)) e65q (g := (mkF m 6 #[.val (.int p0), .val (.int (1 : Int32)), .unset] [(.int (1 : Int32))])) rfl (hb hby d1_6) rfl (by decide) (cap := 1) (by decide) (by decide) (by decide) (by decide)
    obtain ⟨b90, g90⟩ : ∃ z, z = h0.size := ⟨_, rfl⟩
    rw [← g90] at A90 st90
    have g_b90 : n0 ≤ b90 := Nat.le_trans Z0 (Nat.le_of_eq g90.symm)
    have sz_b90 : h0.size ≤ b90 := Nat.le_trans K0.1 (Nat.le_of_eq g90.symm)
    have f91 : CHr Z own_EL s.vm h0 s.vm h90 := CR0.trans (CHr.ext E90 CR0.1)
    have hk92 : _ ≤ h90.size := Nat.le_trans (Nat.zero_le _) E90.1
    have f93 : Keep h0 h90 [] := K0.ext E90
    have f94 : Old Z n0 h90 := O0.ext E90
    have Z90 : n0 ≤ h90.size := Nat.le_trans Z0 E90.1
    have f95 : Arv Z h90 b90 k90 .char (1 : Int32) [(.int (0 : Int32))] (.int (0 : Int32)) := (Arv.new A90 (by decide)).pad (pad_rep [] (.int (0 : Int32)) 1)
    refine own_go (B := T90.setTop (mkF m 8 #[.val (.int p0), .val (.int (1 : Int32)), .unset] [(.ref b90)])) (fun t_ k_ => st90 _ k_) ?_
    refine own_go (B := T90.setTop (mkF m 17 #[.val (.int p0), .val (.int (1 : Int32)), .val (.ref b90)] [(.int p0), (.int (0 : Int32)), (.ref b90)])) (fun t_ k_ => ?_) ?_
    · show Steps p.tables e below (T90.setTop (mkF m 8 #[.val (.int p0), .val (.int (1 : Int32)), .unset] [(.ref b90)])) _
      refine XS.astoreN X90.here hx rfl (hb hby d1_8) rfl rfl (l' := #[.val (.int p0), .val (.int (1 : Int32)), .val (.ref b90)]) rfl ?_
      show Steps p.tables e below (T90.setTop (mkF m 9 #[.val (.int p0), .val (.int (1 : Int32)), .val (.ref b90)] [])) _
      refine XS.iloadN X90.here hx rfl (hb hby d1_9) rfl ?_
      show Steps p.tables e below (T90.setTop (mkF m 10 #[.val (.int p0), .val (.int (1 : Int32)), .val (.ref b90)] [(.int (1 : Int32))])) _
      refine XS.iconst X90.here hx rfl (hb hby d1_10) ?_
      show Steps p.tables e below (T90.setTop (mkF m 11 #[.val (.int p0), .val (.int (1 : Int32)), .val (.ref b90)] [(.int (1 : Int32)), (.int (1 : Int32))])) _
      refine XS.icmpNo X90.here hx rfl (hb hby d1_11) rfl (flt (by decide : ¬ ((1 : Int32) < (1 : Int32)))).1 ?_
      show Steps p.tables e below (T90.setTop (mkF m 14 #[.val (.int p0), .val (.int (1 : Int32)), .val (.ref b90)] [])) _
      refine XS.aloadN X90.here hx rfl (hb hby d1_14) rfl rfl ?_
      show Steps p.tables e below (T90.setTop (mkF m 15 #[.val (.int p0), .val (.int (1 : Int32)), .val (.ref b90)] [(.ref b90)])) _
      refine XS.iconst X90.here hx rfl (hb hby d1_15) ?_
      show Steps p.tables e below (T90.setTop (mkF m 16 #[.val (.int p0), .val (.int (1 : Int32)), .val (.ref b90)] [(.int (0 : Int32)), (.ref b90)])) _
      refine XS.iloadN X90.here hx rfl (hb hby d1_16) rfl ?_
      show Steps p.tables e below (T90.setTop (mkF m 17 #[.val (.int p0), .val (.int (1 : Int32)), .val (.ref b90)] [(.int p0), (.int (0 : Int32)), (.ref b90)])) _
      exact k_
    obtain ⟨vv96, _, ⟨T96, L96, k96, n96⟩, -, X96, ⟨Lc96, hQ96, l96, y96, z96⟩, st96⟩ := Jvm.LawKit.callS X90 hx (y := (⟨"com/example/prudent_annotator/prudentannotator/profile/FileChecksumEqualsPinLaw", "c0", "(I)C"⟩ : MethodName)) hown (mvT hZ (hw _ (List.mem_of_getElem? (i := 29) rfl))) (mvT hZ (hw _ (List.mem_of_getElem? (i := 30) rfl))) (mvT hZ (hw _ (List.mem_of_getElem? (i := 2) rfl))) (mvT hZ (hw _ (List.mem_of_getElem? (i := 31) rfl))) (by decide) (backOf (W := 2) (rm6 l Z a0 hw [] p0 h90 n0 Z90) hZ (hw _ (List.mem_of_getElem? (i := 31) rfl)) (hw _ (List.mem_of_getElem? (i := 2) rfl)) (by decide) (by decide)) (g := (mkF m 17 #[.val (.int p0), .val (.int (1 : Int32)), .val (.ref b90)] [(.int p0), (.int (0 : Int32)), (.ref b90)])) rfl (by rw [hml]; rfl) (argsL := [(.int p0)]) (rest := [(.int (0 : Int32)), (.ref b90)]) (lenOf pd__28_I_29_C rfl) rfl (by show 2 * 0 + _ ≤ _; exact Nat.le_of_eq rfl) (hb hby d1_17) (fun _ _ => ⟨rfl, e90, (by decide : 1 + 0 ≤ _), (by decide : 1 + 0 ≤ _)⟩)
    dsimp only [Pt.U, Pt.locs, Pt.cells, Pt.slots] at X96 l96 y96 z96 st96 hQ96
    subst l96 y96 z96
    obtain ⟨rfl, N96q, e96q⟩ := hQ96
    have N96 := Fr.app N65 N96q
    refine own_go (B := T96.setTop (mkF m 20 #[.val (.int p0), .val (.int (1 : Int32)), .val (.ref b90)] [(.int (own_c0 p0)), (.int (0 : Int32)), (.ref b90)])) (fun t_ k_ => st96 _ k_) ?_
    obtain ⟨cl97, Ar97, q97, S97, M97, Hh97, G97⟩ := id f95
    obtain ⟨T97, h97, X97, e97, W97, st97⟩ := stC X96 hx hZ e96q Ar97 (j := (0 : Int32)) (inb_of S97 ⟨by decide, by decide⟩) (g := (mkF m 20 #[.val (.int p0), .val (.int (1 : Int32)), .val (.ref b90)] [(.int (own_c0 p0)), (.int (0 : Int32)), (.ref b90)])) rfl rfl (hb hby d1_20)
    have f98 : CHr Z own_EL s.vm h0 s.vm h97 := f91.trans (CHr.wr W97 (own_safeV hZ.alike f95 (by decide)) f91.1)
    have hk99 : _ ≤ h97.size := Nat.le_trans hk92 (Keep.of_wr W97).1
    have f100 : Keep h0 h97 [] := f93.wr W97 (Or.inr sz_b90)
    have f101 : Old Z n0 h97 := f94.wr W97 g_b90
    have f102 : Arv Z h97 b90 k90 .char (1 : Int32) [(.int (nar .char (own_c0 p0)))] (.int (0 : Int32)) := Arv.set Ar97 q97 S97 M97 Hh97 G97 (fits_nar_char _) W97 0 rfl (Nat.le_of_ble_eq_true rfl)
    have Z97 : n0 ≤ h97.size := Nat.le_trans Z90 (Keep.of_wr W97).1
    have N97 := Fr.snoc X97 N96 g_b90
    refine own_go (B := T97.setTop (mkF m 21 #[.val (.int p0), .val (.int (1 : Int32)), .val (.ref b90)] [])) (fun t_ k_ => st97 _ k_) ?_
    refine own_go (B := T97.setTop (mkF m 33 #[.val (.int p0), .val (.int (1 : Int32)), .val (.ref b90)] [])) (fun t_ k_ => ?_) ?_
    · show Steps p.tables e below (T97.setTop (mkF m 21 #[.val (.int p0), .val (.int (1 : Int32)), .val (.ref b90)] [])) _
      refine XS.iloadN X97.here hx rfl (hb hby d1_21) rfl ?_
      show Steps p.tables e below (T97.setTop (mkF m 22 #[.val (.int p0), .val (.int (1 : Int32)), .val (.ref b90)] [(.int (1 : Int32))])) _
      refine XS.iconst X97.here hx rfl (hb hby d1_22) ?_
      show Steps p.tables e below (T97.setTop (mkF m 23 #[.val (.int p0), .val (.int (1 : Int32)), .val (.ref b90)] [(.int (2 : Int32)), (.int (1 : Int32))])) _
      refine XS.icmpYes X97.here hx rfl (pc0 := 23) (pc' := 33) rfl (hb hby d1_23) rfl (feq (by decide : ¬ ((1 : Int32) = (2 : Int32)))).2 (by decide) (by decide) ?_
      show Steps p.tables e below (T97.setTop (mkF m 33 #[.val (.int p0), .val (.int (1 : Int32)), .val (.ref b90)] [])) _
      exact k_
    obtain ⟨T103, h103, X103, e103, E103, A103, D103, U103, st103⟩ := newO X97 hx hZ hown (hw _ (List.mem_of_getElem? (i := 8) rfl)) (hw _ (List.mem_of_getElem? (i := 9) rfl)) (hw _ (List.mem_of_getElem? (i := 10) rfl)) e97 (g := (mkF m 33 #[.val (.int p0), .val (.int (1 : Int32)), .val (.ref b90)] [])) rfl (hb hby d1_33) (by decide) (by decide)
    obtain ⟨b103, g103⟩ : ∃ z, z = h97.size := ⟨_, rfl⟩
    rw [← g103] at A103 D103 U103 st103
    have g_b103 : n0 ≤ b103 := Nat.le_trans Z97 (Nat.le_of_eq g103.symm)
    have ne_b90_b103 : b90 ≠ b103 := Nat.ne_of_lt (Nat.lt_of_lt_of_le f102.lt (Nat.le_of_eq g103.symm))
    have sz_b103 : h0.size ≤ b103 := Nat.le_trans f100.1 (Nat.le_of_eq g103.symm)
    have f104 : CHr Z own_EL s.vm h0 s.vm h103 := f98.trans (CHr.ext E103 f98.1)
    have hk105 : _ ≤ h103.size := Nat.le_trans hk99 E103.1
    have f106 : Keep h0 h103 [] := f100.ext E103
    have f107 : Old Z n0 h103 := f101.ext E103
    have f108 : Arv Z h103 b90 k90 .char (1 : Int32) [(.int (nar .char (own_c0 p0)))] (.int (0 : Int32)) := f102.ext E103
    have Z103 : n0 ≤ h103.size := Nat.le_trans Z97 E103.1
    have f109 : Fld Z h103 b103 "java/lang/String" "value" "[B" .null := D103 (Or.inr (hw _ (List.mem_of_getElem? (i := 23) rfl))) (ty := (.array .byte)) (by decide)
    have f110 : Fld Z h103 b103 "java/lang/String" "coder" "B" (.int (0 : Int32)) := D103 (Or.inr (hw _ (List.mem_of_getElem? (i := 24) rfl))) (ty := .byte) (by decide)
    have f111 : Safe Z own_EL s.vm h103 b103 := own_safeN hZ.alike A103 f109
    refine own_go (B := T103.setTop (mkF m 36 #[.val (.int p0), .val (.int (1 : Int32)), .val (.ref b90)] [(.ref b103)])) (fun t_ k_ => st103 _ k_) ?_
    refine own_go (B := T103.setTop (mkF m 38 #[.val (.int p0), .val (.int (1 : Int32)), .val (.ref b90)] [(.ref b90), (.ref b103), (.ref b103)])) (fun t_ k_ => ?_) ?_
    · show Steps p.tables e below (T103.setTop (mkF m 36 #[.val (.int p0), .val (.int (1 : Int32)), .val (.ref b90)] [(.ref b103)])) _
      refine XS.dup X103.here hx rfl (hb hby d1_36) rfl rfl ?_
      show Steps p.tables e below (T103.setTop (mkF m 37 #[.val (.int p0), .val (.int (1 : Int32)), .val (.ref b90)] [(.ref b103), (.ref b103)])) _
      refine XS.aloadN X103.here hx rfl (hb hby d1_37) rfl rfl ?_
      show Steps p.tables e below (T103.setTop (mkF m 38 #[.val (.int p0), .val (.int (1 : Int32)), .val (.ref b90)] [(.ref b90), (.ref b103), (.ref b103)])) _
      exact k_
    have hpb103 : ∀ c ∈ ([nar .char (own_c0 p0)] : List Int32), ¬ c < 0 ∧ ¬ (255 : Int32) < c := by
      intro c hc
      simp only [List.mem_cons, List.not_mem_nil, or_false] at hc
      subst hc
      · first | (rw [own_n0]; exact own_m255 _) | (rw [own_n1]; exact own_m255 _)
    obtain ⟨vv112, _, ⟨T112, L112, k112, n112⟩, -, X112, ⟨Lc112, hQ112, l112, y112, z112⟩, st112⟩ := X103.specialBack hx (y := (⟨"java/lang/String", "<init>", "([C)V"⟩ : MethodName)) rfl hown (mvT hZ (hw _ (List.mem_of_getElem? (i := 11) rfl))) (mvT hZ (hw _ (List.mem_of_getElem? (i := 12) rfl))) (mvT hZ (hw _ (List.mem_of_getElem? (i := 13) rfl))) (by decide) (StrChars.Road.backV (W := 1) hZ hws (kI := 4) (hw _ (List.mem_of_getElem? (i := 9) rfl)) (cs := ([nar .char (own_c0 p0)] : List Int32)) (bs := ([nar .char (own_c0 p0)] : List Int32).map (fun c => c.toInt8.toInt32)) (n := 1) g_b103 Z103 A103 f109 f110 f108 (S0.ext f107.2) hz rfl rfl (by decide) (by decide) hpb103 rfl (by decide) (by decide)) (g := (mkF m 38 #[.val (.int p0), .val (.int (1 : Int32)), .val (.ref b90)] [(.ref b90), (.ref b103), (.ref b103)])) rfl (by rw [hml]; rfl) (Steps.refl _) (a := b103) (argsL := [(.ref b90)]) (rest := [(.ref b103)]) (lenOf pd__28__5b_C_29_V rfl) rfl (by show 2 * 0 + _ ≤ _; exact Nat.le_of_eq rfl) (hb hby d1_38) (fun _ _ => ⟨rfl, e103, (by decide : 2 + 1 ≤ _), (by decide : 5 + 1 ≤ _)⟩)
    dsimp only [Pt.U, Pt.locs, Pt.cells, Pt.slots] at X112 l112 y112 z112 st112 hQ112
    subst l112 y112 z112
    obtain ⟨rfl, N112q, K112, Ex112, Fc112, t112, kb112, u112, v112, ww112, Fv112, Va112⟩ := hQ112
    have N112 := Fr.app N97 N112q
    have f113 : CHr Z own_EL s.vm h0 s.vm T112.heap := f104.trans (CHr.keep K112 (allS f111 all0) f104.1)
    have f114 : Safe Z own_EL s.vm T112.heap b103 := Safe.keep K112 (allS f111 all0) f104.1 f111
    have hk115 : _ ≤ T112.heap.size := Nat.le_trans hk105 K112.1
    have f116 : Keep h0 T112.heap [] := f106.trans K112 (allS (Or.inr sz_b103) all0)
    have f117 : Old Z n0 T112.heap := f107.keep K112 (allS g_b103 all0)
    have f118 : Arv Z T112.heap b90 k90 .char (1 : Int32) [(.int (nar .char (own_c0 p0)))] (.int (0 : Int32)) := f108.keep K112 (ninS ne_b90_b103 nin0)
    have f119 : Exa Z T112.heap b103 "java/lang/String" := A103.keep K112
    have Z112 : n0 ≤ T112.heap.size := Nat.le_trans Z103 K112.1
    refine own_go (B := T112.setTop (mkF m 41 #[.val (.int p0), .val (.int (1 : Int32)), .val (.ref b90)] [(.ref b103)])) (fun t_ k_ => st112.trans k_) ?_
    obtain ⟨fs, hr, hrun, hended, hRW⟩ := Jvm.Stand.leaveW (s := s) (vm₁ := s.vm) X112 (State.WarmedH.since (State.WarmedH.refl s) 0) hk115 (v := some (.ref b103)) (fun h => by rw [Bd.returns] at h; cases h)
    have CRf : CHr Z own_EL s.vm s.heap (T112.setFrames fs).vm (T112.setFrames fs).heap := by
      show CHr Z own_EL s.vm s.heap T112.vm T112.heap
      rw [hh]
      exact f113.trans (CHv.at (s := s) (vm0 := s.vm) X112 hZ hEL f113.1)
    refine own_at ?_ (hG _ _ ⟨hrun, hended, _, _, rfl, ?_, CRf, hRW.1, hRW.2.1, hRW.2.2.1, hRW.2.2.2.mono (by decide) (by decide)⟩)
    · show Steps p.tables e below (T112.setTop (mkF m 41 #[.val (.int p0), .val (.int (1 : Int32)), .val (.ref b90)] [(.ref b103)])) _
      exact retOut X112 hx (t := (.object "java/lang/String")) Bd.returns rfl (Or.inr (Or.inr (Or.inr (Or.inr ⟨rfl, rfl, rfl⟩)))) (hb hby d1_41) hr
    · show Q1 Z p0 z h0 n0 _ T112.heap _
      exact ⟨b103, t112, kb112, rfl, N112, f116, f119, Fc112, Fv112, by unfold own_bv; rw [own_cs1 e0]; have q := Va112; rw [own_n0] at q; exact q⟩
  · rw [e0]
    refine own_go (B := T65.setTop (mkF m 6 #[.val (.int p0), .val (.int (2 : Int32)), .unset] [(.int (2 : Int32))])) (fun t_ k_ => ?_) ?_
    · show Steps p.tables e below (T65.setTop (mkF m 5 #[.val (.int p0), .val (.int (2 : Int32)), .unset] [])) _
      refine XS.iloadN X65.here hx rfl (hb hby d1_5) rfl ?_
      show Steps p.tables e below (T65.setTop (mkF m 6 #[.val (.int p0), .val (.int (2 : Int32)), .unset] [(.int (2 : Int32))])) _
      exact k_
    obtain ⟨T121, h121, k121, X121, e121, E121, A121, st121⟩ := newP X65 hx hZ (hw _ (List.mem_of_getElem? (i := 7) rfl)) e65q (g := (mkF m 6 #[.val (.int p0), .val (.int (2 : Int32)), .unset] [(.int (2 : Int32))])) rfl (hb hby d1_6) rfl (by decide) (cap := 2) (by decide) (by decide) (by decide) (by decide)
    obtain ⟨b121, g121⟩ : ∃ z, z = h0.size := ⟨_, rfl⟩
    rw [← g121] at A121 st121
    have g_b121 : n0 ≤ b121 := Nat.le_trans Z0 (Nat.le_of_eq g121.symm)
    have sz_b121 : h0.size ≤ b121 := Nat.le_trans K0.1 (Nat.le_of_eq g121.symm)
    have f122 : CHr Z own_EL s.vm h0 s.vm h121 := CR0.trans (CHr.ext E121 CR0.1)
    have hk123 : _ ≤ h121.size := Nat.le_trans (Nat.zero_le _) E121.1
    have f124 : Keep h0 h121 [] := K0.ext E121
    have f125 : Old Z n0 h121 := O0.ext E121
    have Z121 : n0 ≤ h121.size := Nat.le_trans Z0 E121.1
    have f126 : Arv Z h121 b121 k121 .char (2 : Int32) [(.int (0 : Int32)), (.int (0 : Int32))] (.int (0 : Int32)) := (Arv.new A121 (by decide)).pad (pad_rep [] (.int (0 : Int32)) 2)
    refine own_go (B := T121.setTop (mkF m 8 #[.val (.int p0), .val (.int (2 : Int32)), .unset] [(.ref b121)])) (fun t_ k_ => st121 _ k_) ?_
    refine own_go (B := T121.setTop (mkF m 17 #[.val (.int p0), .val (.int (2 : Int32)), .val (.ref b121)] [(.int p0), (.int (0 : Int32)), (.ref b121)])) (fun t_ k_ => ?_) ?_
    · show Steps p.tables e below (T121.setTop (mkF m 8 #[.val (.int p0), .val (.int (2 : Int32)), .unset] [(.ref b121)])) _
      refine XS.astoreN X121.here hx rfl (hb hby d1_8) rfl rfl (l' := #[.val (.int p0), .val (.int (2 : Int32)), .val (.ref b121)]) rfl ?_
      show Steps p.tables e below (T121.setTop (mkF m 9 #[.val (.int p0), .val (.int (2 : Int32)), .val (.ref b121)] [])) _
      refine XS.iloadN X121.here hx rfl (hb hby d1_9) rfl ?_
      show Steps p.tables e below (T121.setTop (mkF m 10 #[.val (.int p0), .val (.int (2 : Int32)), .val (.ref b121)] [(.int (2 : Int32))])) _
      refine XS.iconst X121.here hx rfl (hb hby d1_10) ?_
      show Steps p.tables e below (T121.setTop (mkF m 11 #[.val (.int p0), .val (.int (2 : Int32)), .val (.ref b121)] [(.int (1 : Int32)), (.int (2 : Int32))])) _
      refine XS.icmpNo X121.here hx rfl (hb hby d1_11) rfl (flt (by decide : ¬ ((2 : Int32) < (1 : Int32)))).1 ?_
      show Steps p.tables e below (T121.setTop (mkF m 14 #[.val (.int p0), .val (.int (2 : Int32)), .val (.ref b121)] [])) _
      refine XS.aloadN X121.here hx rfl (hb hby d1_14) rfl rfl ?_
      show Steps p.tables e below (T121.setTop (mkF m 15 #[.val (.int p0), .val (.int (2 : Int32)), .val (.ref b121)] [(.ref b121)])) _
      refine XS.iconst X121.here hx rfl (hb hby d1_15) ?_
      show Steps p.tables e below (T121.setTop (mkF m 16 #[.val (.int p0), .val (.int (2 : Int32)), .val (.ref b121)] [(.int (0 : Int32)), (.ref b121)])) _
      refine XS.iloadN X121.here hx rfl (hb hby d1_16) rfl ?_
      show Steps p.tables e below (T121.setTop (mkF m 17 #[.val (.int p0), .val (.int (2 : Int32)), .val (.ref b121)] [(.int p0), (.int (0 : Int32)), (.ref b121)])) _
      exact k_
    obtain ⟨vv127, _, ⟨T127, L127, k127, n127⟩, -, X127, ⟨Lc127, hQ127, l127, y127, z127⟩, st127⟩ := Jvm.LawKit.callS X121 hx (y := (⟨"com/example/prudent_annotator/prudentannotator/profile/FileChecksumEqualsPinLaw", "c0", "(I)C"⟩ : MethodName)) hown (mvT hZ (hw _ (List.mem_of_getElem? (i := 29) rfl))) (mvT hZ (hw _ (List.mem_of_getElem? (i := 30) rfl))) (mvT hZ (hw _ (List.mem_of_getElem? (i := 2) rfl))) (mvT hZ (hw _ (List.mem_of_getElem? (i := 31) rfl))) (by decide) (backOf (W := 2) (rm6 l Z a0 hw [] p0 h121 n0 Z121) hZ (hw _ (List.mem_of_getElem? (i := 31) rfl)) (hw _ (List.mem_of_getElem? (i := 2) rfl)) (by decide) (by decide)) (g := (mkF m 17 #[.val (.int p0), .val (.int (2 : Int32)), .val (.ref b121)] [(.int p0), (.int (0 : Int32)), (.ref b121)])) rfl (by rw [hml]; rfl) (argsL := [(.int p0)]) (rest := [(.int (0 : Int32)), (.ref b121)]) (lenOf pd__28_I_29_C rfl) rfl (by show 2 * 0 + _ ≤ _; exact Nat.le_of_eq rfl) (hb hby d1_17) (fun _ _ => ⟨rfl, e121, (by decide : 1 + 0 ≤ _), (by decide : 2 + 0 ≤ _)⟩)
    dsimp only [Pt.U, Pt.locs, Pt.cells, Pt.slots] at X127 l127 y127 z127 st127 hQ127
    subst l127 y127 z127
    obtain ⟨rfl, N127q, e127q⟩ := hQ127
    have N127 := Fr.app N65 N127q
    refine own_go (B := T127.setTop (mkF m 20 #[.val (.int p0), .val (.int (2 : Int32)), .val (.ref b121)] [(.int (own_c0 p0)), (.int (0 : Int32)), (.ref b121)])) (fun t_ k_ => st127 _ k_) ?_
    obtain ⟨cl128, Ar128, q128, S128, M128, Hh128, G128⟩ := id f126
    obtain ⟨T128, h128, X128, e128, W128, st128⟩ := stC X127 hx hZ e127q Ar128 (j := (0 : Int32)) (inb_of S128 ⟨by decide, by decide⟩) (g := (mkF m 20 #[.val (.int p0), .val (.int (2 : Int32)), .val (.ref b121)] [(.int (own_c0 p0)), (.int (0 : Int32)), (.ref b121)])) rfl rfl (hb hby d1_20)
    have f129 : CHr Z own_EL s.vm h0 s.vm h128 := f122.trans (CHr.wr W128 (own_safeV hZ.alike f126 (by decide)) f122.1)
    have hk130 : _ ≤ h128.size := Nat.le_trans hk123 (Keep.of_wr W128).1
    have f131 : Keep h0 h128 [] := f124.wr W128 (Or.inr sz_b121)
    have f132 : Old Z n0 h128 := f125.wr W128 g_b121
    have f133 : Arv Z h128 b121 k121 .char (2 : Int32) [(.int (nar .char (own_c0 p0))), (.int (0 : Int32))] (.int (0 : Int32)) := Arv.set Ar128 q128 S128 M128 Hh128 G128 (fits_nar_char _) W128 0 rfl (Nat.le_of_ble_eq_true rfl)
    have Z128 : n0 ≤ h128.size := Nat.le_trans Z121 (Keep.of_wr W128).1
    have N128 := Fr.snoc X128 N127 g_b121
    refine own_go (B := T128.setTop (mkF m 21 #[.val (.int p0), .val (.int (2 : Int32)), .val (.ref b121)] [])) (fun t_ k_ => st128 _ k_) ?_
    refine own_go (B := T128.setTop (mkF m 29 #[.val (.int p0), .val (.int (2 : Int32)), .val (.ref b121)] [(.int p0), (.int (1 : Int32)), (.ref b121)])) (fun t_ k_ => ?_) ?_
    · show Steps p.tables e below (T128.setTop (mkF m 21 #[.val (.int p0), .val (.int (2 : Int32)), .val (.ref b121)] [])) _
      refine XS.iloadN X128.here hx rfl (hb hby d1_21) rfl ?_
      show Steps p.tables e below (T128.setTop (mkF m 22 #[.val (.int p0), .val (.int (2 : Int32)), .val (.ref b121)] [(.int (2 : Int32))])) _
      refine XS.iconst X128.here hx rfl (hb hby d1_22) ?_
      show Steps p.tables e below (T128.setTop (mkF m 23 #[.val (.int p0), .val (.int (2 : Int32)), .val (.ref b121)] [(.int (2 : Int32)), (.int (2 : Int32))])) _
      refine XS.icmpNo X128.here hx rfl (hb hby d1_23) rfl (teq (by decide : (2 : Int32) = (2 : Int32))).2 ?_
      show Steps p.tables e below (T128.setTop (mkF m 26 #[.val (.int p0), .val (.int (2 : Int32)), .val (.ref b121)] [])) _
      refine XS.aloadN X128.here hx rfl (hb hby d1_26) rfl rfl ?_
      show Steps p.tables e below (T128.setTop (mkF m 27 #[.val (.int p0), .val (.int (2 : Int32)), .val (.ref b121)] [(.ref b121)])) _
      refine XS.iconst X128.here hx rfl (hb hby d1_27) ?_
      show Steps p.tables e below (T128.setTop (mkF m 28 #[.val (.int p0), .val (.int (2 : Int32)), .val (.ref b121)] [(.int (1 : Int32)), (.ref b121)])) _
      refine XS.iloadN X128.here hx rfl (hb hby d1_28) rfl ?_
      show Steps p.tables e below (T128.setTop (mkF m 29 #[.val (.int p0), .val (.int (2 : Int32)), .val (.ref b121)] [(.int p0), (.int (1 : Int32)), (.ref b121)])) _
      exact k_
    obtain ⟨vv134, _, ⟨T134, L134, k134, n134⟩, -, X134, ⟨Lc134, hQ134, l134, y134, z134⟩, st134⟩ := Jvm.LawKit.callS X128 hx (y := (⟨"com/example/prudent_annotator/prudentannotator/profile/FileChecksumEqualsPinLaw", "c1", "(I)C"⟩ : MethodName)) hown (mvT hZ (hw _ (List.mem_of_getElem? (i := 32) rfl))) (mvT hZ (hw _ (List.mem_of_getElem? (i := 33) rfl))) (mvT hZ (hw _ (List.mem_of_getElem? (i := 2) rfl))) (mvT hZ (hw _ (List.mem_of_getElem? (i := 34) rfl))) (by decide) (backOf (W := 2) (rm7 l Z a0 hw [] p0 h128 n0 Z128) hZ (hw _ (List.mem_of_getElem? (i := 34) rfl)) (hw _ (List.mem_of_getElem? (i := 2) rfl)) (by decide) (by decide)) (g := (mkF m 29 #[.val (.int p0), .val (.int (2 : Int32)), .val (.ref b121)] [(.int p0), (.int (1 : Int32)), (.ref b121)])) rfl (by rw [hml]; rfl) (argsL := [(.int p0)]) (rest := [(.int (1 : Int32)), (.ref b121)]) (lenOf pd__28_I_29_C rfl) rfl (by show 2 * 0 + _ ≤ _; exact Nat.le_of_eq rfl) (hb hby d1_29) (fun _ _ => ⟨rfl, e128, (by decide : 1 + 0 ≤ _), (by decide : 2 + 0 ≤ _)⟩)
    dsimp only [Pt.U, Pt.locs, Pt.cells, Pt.slots] at X134 l134 y134 z134 st134 hQ134
    subst l134 y134 z134
    obtain ⟨rfl, N134q, e134q⟩ := hQ134
    have N134 := Fr.app N128 N134q
    refine own_go (B := T134.setTop (mkF m 32 #[.val (.int p0), .val (.int (2 : Int32)), .val (.ref b121)] [(.int (own_c1 p0)), (.int (1 : Int32)), (.ref b121)])) (fun t_ k_ => st134 _ k_) ?_
    obtain ⟨cl135, Ar135, q135, S135, M135, Hh135, G135⟩ := id f133
    obtain ⟨T135, h135, X135, e135, W135, st135⟩ := stC X134 hx hZ e134q Ar135 (j := (1 : Int32)) (inb_of S135 ⟨by decide, by decide⟩) (g := (mkF m 32 #[.val (.int p0), .val (.int (2 : Int32)), .val (.ref b121)] [(.int (own_c1 p0)), (.int (1 : Int32)), (.ref b121)])) rfl rfl (hb hby d1_32)
    have f136 : CHr Z own_EL s.vm h0 s.vm h135 := f129.trans (CHr.wr W135 (own_safeV hZ.alike f133 (by decide)) f129.1)
    have hk137 : _ ≤ h135.size := Nat.le_trans hk130 (Keep.of_wr W135).1
    have f138 : Keep h0 h135 [] := f131.wr W135 (Or.inr sz_b121)
    have f139 : Old Z n0 h135 := f132.wr W135 g_b121
    have f140 : Arv Z h135 b121 k121 .char (2 : Int32) [(.int (nar .char (own_c0 p0))), (.int (nar .char (own_c1 p0)))] (.int (0 : Int32)) := Arv.set Ar135 q135 S135 M135 Hh135 G135 (fits_nar_char _) W135 1 rfl (Nat.le_of_ble_eq_true rfl)
    have Z135 : n0 ≤ h135.size := Nat.le_trans Z128 (Keep.of_wr W135).1
    have N135 := Fr.snoc X135 N134 g_b121
    refine own_go (B := T135.setTop (mkF m 33 #[.val (.int p0), .val (.int (2 : Int32)), .val (.ref b121)] [])) (fun t_ k_ => st135 _ k_) ?_
    obtain ⟨T141, h141, X141, e141, E141, A141, D141, U141, st141⟩ := newO X135 hx hZ hown (hw _ (List.mem_of_getElem? (i := 8) rfl)) (hw _ (List.mem_of_getElem? (i := 9) rfl)) (hw _ (List.mem_of_getElem? (i := 10) rfl)) e135 (g := (mkF m 33 #[.val (.int p0), .val (.int (2 : Int32)), .val (.ref b121)] [])) rfl (hb hby d1_33) (by decide) (by decide)
    obtain ⟨b141, g141⟩ : ∃ z, z = h135.size := ⟨_, rfl⟩
    rw [← g141] at A141 D141 U141 st141
    have g_b141 : n0 ≤ b141 := Nat.le_trans Z135 (Nat.le_of_eq g141.symm)
    have ne_b121_b141 : b121 ≠ b141 := Nat.ne_of_lt (Nat.lt_of_lt_of_le f140.lt (Nat.le_of_eq g141.symm))
    have sz_b141 : h0.size ≤ b141 := Nat.le_trans f138.1 (Nat.le_of_eq g141.symm)
    have f142 : CHr Z own_EL s.vm h0 s.vm h141 := f136.trans (CHr.ext E141 f136.1)
    have hk143 : _ ≤ h141.size := Nat.le_trans hk137 E141.1
    have f144 : Keep h0 h141 [] := f138.ext E141
    have f145 : Old Z n0 h141 := f139.ext E141
    have f146 : Arv Z h141 b121 k121 .char (2 : Int32) [(.int (nar .char (own_c0 p0))), (.int (nar .char (own_c1 p0)))] (.int (0 : Int32)) := f140.ext E141
    have Z141 : n0 ≤ h141.size := Nat.le_trans Z135 E141.1
    have f147 : Fld Z h141 b141 "java/lang/String" "value" "[B" .null := D141 (Or.inr (hw _ (List.mem_of_getElem? (i := 23) rfl))) (ty := (.array .byte)) (by decide)
    have f148 : Fld Z h141 b141 "java/lang/String" "coder" "B" (.int (0 : Int32)) := D141 (Or.inr (hw _ (List.mem_of_getElem? (i := 24) rfl))) (ty := .byte) (by decide)
    have f149 : Safe Z own_EL s.vm h141 b141 := own_safeN hZ.alike A141 f147
    refine own_go (B := T141.setTop (mkF m 36 #[.val (.int p0), .val (.int (2 : Int32)), .val (.ref b121)] [(.ref b141)])) (fun t_ k_ => st141 _ k_) ?_
    refine own_go (B := T141.setTop (mkF m 38 #[.val (.int p0), .val (.int (2 : Int32)), .val (.ref b121)] [(.ref b121), (.ref b141), (.ref b141)])) (fun t_ k_ => ?_) ?_
    · show Steps p.tables e below (T141.setTop (mkF m 36 #[.val (.int p0), .val (.int (2 : Int32)), .val (.ref b121)] [(.ref b141)])) _
      refine XS.dup X141.here hx rfl (hb hby d1_36) rfl rfl ?_
      show Steps p.tables e below (T141.setTop (mkF m 37 #[.val (.int p0), .val (.int (2 : Int32)), .val (.ref b121)] [(.ref b141), (.ref b141)])) _
      refine XS.aloadN X141.here hx rfl (hb hby d1_37) rfl rfl ?_
      show Steps p.tables e below (T141.setTop (mkF m 38 #[.val (.int p0), .val (.int (2 : Int32)), .val (.ref b121)] [(.ref b121), (.ref b141), (.ref b141)])) _
      exact k_
    have hpb141 : ∀ c ∈ ([nar .char (own_c0 p0), nar .char (own_c1 p0)] : List Int32), ¬ c < 0 ∧ ¬ (255 : Int32) < c := by
      intro c hc
      simp only [List.mem_cons, List.not_mem_nil, or_false] at hc
      rcases hc with rfl | rfl
      · first | (rw [own_n0]; exact own_m255 _) | (rw [own_n1]; exact own_m255 _)
      · first | (rw [own_n0]; exact own_m255 _) | (rw [own_n1]; exact own_m255 _)
    obtain ⟨vv150, _, ⟨T150, L150, k150, n150⟩, -, X150, ⟨Lc150, hQ150, l150, y150, z150⟩, st150⟩ := X141.specialBack hx (y := (⟨"java/lang/String", "<init>", "([C)V"⟩ : MethodName)) rfl hown (mvT hZ (hw _ (List.mem_of_getElem? (i := 11) rfl))) (mvT hZ (hw _ (List.mem_of_getElem? (i := 12) rfl))) (mvT hZ (hw _ (List.mem_of_getElem? (i := 13) rfl))) (by decide) (StrChars.Road.backV (W := 1) hZ hws (kI := 4) (hw _ (List.mem_of_getElem? (i := 9) rfl)) (cs := ([nar .char (own_c0 p0), nar .char (own_c1 p0)] : List Int32)) (bs := ([nar .char (own_c0 p0), nar .char (own_c1 p0)] : List Int32).map (fun c => c.toInt8.toInt32)) (n := 2) g_b141 Z141 A141 f147 f148 f146 (S0.ext f145.2) hz rfl rfl (by decide) (by decide) hpb141 rfl (by decide) (by decide)) (g := (mkF m 38 #[.val (.int p0), .val (.int (2 : Int32)), .val (.ref b121)] [(.ref b121), (.ref b141), (.ref b141)])) rfl (by rw [hml]; rfl) (Steps.refl _) (a := b141) (argsL := [(.ref b121)]) (rest := [(.ref b141)]) (lenOf pd__28__5b_C_29_V rfl) rfl (by show 2 * 0 + _ ≤ _; exact Nat.le_of_eq rfl) (hb hby d1_38) (fun _ _ => ⟨rfl, e141, (by decide : 2 + 1 ≤ _), (by decide : 6 + 2 ≤ _)⟩)
    dsimp only [Pt.U, Pt.locs, Pt.cells, Pt.slots] at X150 l150 y150 z150 st150 hQ150
    subst l150 y150 z150
    obtain ⟨rfl, N150q, K150, Ex150, Fc150, t150, kb150, u150, v150, ww150, Fv150, Va150⟩ := hQ150
    have N150 := Fr.app N135 N150q
    have f151 : CHr Z own_EL s.vm h0 s.vm T150.heap := f142.trans (CHr.keep K150 (allS f149 all0) f142.1)
    have f152 : Safe Z own_EL s.vm T150.heap b141 := Safe.keep K150 (allS f149 all0) f142.1 f149
    have hk153 : _ ≤ T150.heap.size := Nat.le_trans hk143 K150.1
    have f154 : Keep h0 T150.heap [] := f144.trans K150 (allS (Or.inr sz_b141) all0)
    have f155 : Old Z n0 T150.heap := f145.keep K150 (allS g_b141 all0)
    have f156 : Arv Z T150.heap b121 k121 .char (2 : Int32) [(.int (nar .char (own_c0 p0))), (.int (nar .char (own_c1 p0)))] (.int (0 : Int32)) := f146.keep K150 (ninS ne_b121_b141 nin0)
    have f157 : Exa Z T150.heap b141 "java/lang/String" := A141.keep K150
    have Z150 : n0 ≤ T150.heap.size := Nat.le_trans Z141 K150.1
    refine own_go (B := T150.setTop (mkF m 41 #[.val (.int p0), .val (.int (2 : Int32)), .val (.ref b121)] [(.ref b141)])) (fun t_ k_ => st150.trans k_) ?_
    obtain ⟨fs, hr, hrun, hended, hRW⟩ := Jvm.Stand.leaveW (s := s) (vm₁ := s.vm) X150 (State.WarmedH.since (State.WarmedH.refl s) 0) hk153 (v := some (.ref b141)) (fun h => by rw [Bd.returns] at h; cases h)
    have CRf : CHr Z own_EL s.vm s.heap (T150.setFrames fs).vm (T150.setFrames fs).heap := by
      show CHr Z own_EL s.vm s.heap T150.vm T150.heap
      rw [hh]
      exact f151.trans (CHv.at (s := s) (vm0 := s.vm) X150 hZ hEL f151.1)
    refine own_at ?_ (hG _ _ ⟨hrun, hended, _, _, rfl, ?_, CRf, hRW.1, hRW.2.1, hRW.2.2.1, hRW.2.2.2.mono (by decide) (by decide)⟩)
    · show Steps p.tables e below (T150.setTop (mkF m 41 #[.val (.int p0), .val (.int (2 : Int32)), .val (.ref b121)] [(.ref b141)])) _
      exact retOut X150 hx (t := (.object "java/lang/String")) Bd.returns rfl (Or.inr (Or.inr (Or.inr (Or.inr ⟨rfl, rfl, rfl⟩)))) (hb hby d1_41) hr
    · show Q1 Z p0 z h0 n0 _ T150.heap _
      exact ⟨b141, t150, kb150, rfl, N150, f154, f157, Fc150, Fv150, by unfold own_bv; rw [own_cs2 e0]; have q := Va150; rw [own_n0, own_n1] at q; exact q⟩
theorem d12_0 : decode jdk_31_method_11_code 0 = .ok (.aload_n 0, 1) := by decide +kernel
theorem d12_1 : decode jdk_31_method_11_code 1 = .ok (.ifnonnull 12, 3) := by decide +kernel
theorem d12_4 : decode jdk_31_method_11_code 4 = .ok (.new 84, 3) := by decide +kernel
theorem d12_7 : decode jdk_31_method_11_code 7 = .ok (.dup, 1) := by decide +kernel
theorem d12_8 : decode jdk_31_method_11_code 8 = .ok (.aload_n 1, 1) := by decide +kernel
theorem d12_9 : decode jdk_31_method_11_code 9 = .ok (.invokespecial 87, 3) := by decide +kernel
theorem d12_12 : decode jdk_31_method_11_code 12 = .ok (.athrow, 1) := by decide +kernel
theorem d12_13 : decode jdk_31_method_11_code 13 = .ok (.aload_n 0, 1) := by decide +kernel
theorem d12_14 : decode jdk_31_method_11_code 14 = .ok (.areturn, 1) := by decide +kernel
theorem pn_12 : plainName "java/util/Objects" = true := by first | (simp [plainName, overriddenIn]; done) | decide +kernel
theorem ef_rm12 (m : MethodId) (x0 : Addr) (x1 : Addr) : entryFrame m #[(.ref x0), (.ref x1)] 2 = mkF m 0 #[.val (.ref x0), .val (.ref x1)] [] := by first | (simp [entryFrame, mkF, argsToLocals, Value.category]; done) | rfl
def Q12 (Z : State) (r0 : Addr) (r1 : Addr) (h0 : Heap) (n0 : Nat) (v : Option Value) (h : Heap) (L : List Loc) : Prop := v = some (.ref r0) ∧ Fr n0 L ∧ h = h0
set_option maxRecDepth 65536 in
set_option maxHeartbeats 40000000 in
theorem rm12 (l : Launch) (Z : State) (a0 : Array Value) (hw : ∀ d ∈ tables_1, d.before a0 Z = true) (ws : List Jvm.Cond) (r0 : Addr) (r1 : Addr) (h0 : Heap) (n0 : Nat) (Z0 : n0 ≤ h0.size) :
    MetFree l (⟨"java/util/Objects", "requireNonNull", "(Ljava/lang/Object;Ljava/lang/String;)Ljava/lang/Object;"⟩ : MethodName) (head1 (Jvm.Cond.code (⟨"java/util/Objects", "requireNonNull", "(Ljava/lang/Object;Ljava/lang/String;)Ljava/lang/Object;"⟩ : MethodName) jdk_31_method_11_code 2 (some (.object "java/lang/Object")) :: ws) ({ frames := 0, cells := 0, slots := 0, locals := 0 } : Room)) (fun a U => a = #[(.ref r0), (.ref r1)] ∧ Z.Warmed39 U.vm ∧ U.heap = h0) (fun _ _ _ _ _ => True) (fun _ U o U' => ∃ v L, o = .returned v ∧ Q12 Z r0 r1 h0 n0 v U'.heap L ∧ FrameEnd U o U' L ({ frames := 0, cells := 0, slots := 0, locals := 0 } : Room).cells ({ frames := 0, cells := 0, slots := 0, locals := 0 } : Room).slots) := by
  refine MetFree.of_bodySF (plainFor_of_name pn_12) hisR ?_
  intro p e s m args below meth c s₁ Bd hml0 hP hK
  obtain ⟨rfl, hZ, hh⟩ := hP
  have hx := Bd.exec
  have hby := Bd.bytes
  have hml : c.maxLocals = 2 := hml0
  have hown : s.vm.findClass "java/util/Objects" = some m.cls := findClass_of_methodNamed Bd.named
  have hnm := (name_of_methodNamed Bd.named Bd.method).1
  have X0 : Stand p l e ({ frames := 0, cells := 0, slots := 0, locals := 0 } : Room) s m #[(.ref r0), (.ref r1)] below meth c s₁ [] 0 0 := Stand.of_body Bd
  have e0 : s₁.heap = h0 := by rw [← hh, Bd.state]; rfl
  have N0 := Fr.nil n0
  refine own_open fun G hG => ?_
  refine own_go (B := s₁.setTop (mkF m 0 #[.val (.ref r0), .val (.ref r1)] [])) (fun t_ k_ => castTop (ef_rm12 m r0 r1) k_) ?_
  refine own_go (B := s₁.setTop (mkF m 14 #[.val (.ref r0), .val (.ref r1)] [(.ref r0)])) (fun t_ k_ => ?_) ?_
  · show Steps p.tables e below (s₁.setTop (mkF m 0 #[.val (.ref r0), .val (.ref r1)] [])) _
    refine XS.aloadN X0.here hx rfl (hb hby d12_0) rfl rfl ?_
    show Steps p.tables e below (s₁.setTop (mkF m 1 #[.val (.ref r0), .val (.ref r1)] [(.ref r0)])) _
    refine XS.ifnonnullYes X0.here hx rfl (pc0 := 1) (pc' := 13) rfl (hb hby d12_1) rfl (by decide) (by decide) ?_
    show Steps p.tables e below (s₁.setTop (mkF m 13 #[.val (.ref r0), .val (.ref r1)] [])) _
    refine XS.aloadN X0.here hx rfl (hb hby d12_13) rfl rfl ?_
    show Steps p.tables e below (s₁.setTop (mkF m 14 #[.val (.ref r0), .val (.ref r1)] [(.ref r0)])) _
    exact k_
  obtain ⟨fs, hr, hrun, hended, hW, hsame⟩ := X0.leave (v := some (.ref r0)) (fun h => by rw [Bd.returns] at h; cases h)
  refine own_at ?_ (hG _ _ ⟨hrun, hended, _, _, rfl, ?_, ⟨_, rfl⟩, hW, hsame.mono (by decide) (by decide)⟩)
  · show Steps p.tables e below (s₁.setTop (mkF m 14 #[.val (.ref r0), .val (.ref r1)] [(.ref r0)])) _
    exact retOut X0 hx (t := (.object "java/lang/Object")) Bd.returns rfl (Or.inr (Or.inr (Or.inr (Or.inr ⟨rfl, rfl, rfl⟩)))) (hb hby d12_14) hr
  · show Q12 Z r0 r1 h0 n0 _ s₁.heap _
    rw [e0]
    exact ⟨rfl, N0, rfl⟩
theorem d11_0 : decode prog_53_method_1_code 0 = .ok (.aload_n 0, 1) := by decide +kernel
theorem d11_1 : decode prog_53_method_1_code 1 = .ok (.invokespecial 1, 3) := by decide +kernel
theorem d11_4 : decode prog_53_method_1_code 4 = .ok (.aload_n 0, 1) := by decide +kernel
theorem d11_5 : decode prog_53_method_1_code 5 = .ok (.aload_n 1, 1) := by decide +kernel
theorem d11_6 : decode prog_53_method_1_code 6 = .ok (.ldc 7, 2) := by decide +kernel
theorem d11_8 : decode prog_53_method_1_code 8 = .ok (.invokestatic 9, 3) := by decide +kernel
theorem d11_11 : decode prog_53_method_1_code 11 = .ok (.checkcast 15, 3) := by decide +kernel
theorem d11_14 : decode prog_53_method_1_code 14 = .ok (.putfield 17, 3) := by decide +kernel
theorem d11_17 : decode prog_53_method_1_code 17 = .ok (.aload_n 0, 1) := by decide +kernel
theorem d11_18 : decode prog_53_method_1_code 18 = .ok (.aload_n 2, 1) := by decide +kernel
theorem d11_19 : decode prog_53_method_1_code 19 = .ok (.ldc 22, 2) := by decide +kernel
theorem d11_21 : decode prog_53_method_1_code 21 = .ok (.invokestatic 9, 3) := by decide +kernel
theorem d11_24 : decode prog_53_method_1_code 24 = .ok (.checkcast 15, 3) := by decide +kernel
theorem d11_27 : decode prog_53_method_1_code 27 = .ok (.putfield 24, 3) := by decide +kernel
theorem d11_30 : decode prog_53_method_1_code 30 = .ok (.return_, 1) := by decide +kernel
theorem pn_11 : plainName "com/example/prudent_annotator/prudentannotator/profile/FileChecksum" = true := by first | (simp [plainName, overriddenIn]; done) | decide +kernel
theorem ef_rm11 (m : MethodId) (x0 : Addr) (x1 : Addr) (x2 : Addr) : entryFrame m #[(.ref x0), (.ref x1), (.ref x2)] 3 = mkF m 0 #[.val (.ref x0), .val (.ref x1), .val (.ref x2)] [] := by first | (simp [entryFrame, mkF, argsToLocals, Value.category]; done) | rfl
def Q11 (Z : State) (r0 : Addr) (r1 : Addr) (r2 : Addr) (h0 : Heap) (n0 : Nat) (v : Option Value) (h : Heap) (L : List Loc) : Prop := v = none ∧ Fr n0 L ∧ Keep h0 h [r0] ∧ Fld Z h r0 "com/example/prudent_annotator/prudentannotator/profile/FileChecksum" "file" "Ljava/lang/String;" (.ref r1) ∧ Fld Z h r0 "com/example/prudent_annotator/prudentannotator/profile/FileChecksum" "sha256" "Ljava/lang/String;" (.ref r2)
set_option maxRecDepth 65536 in
set_option maxHeartbeats 40000000 in
theorem rm11 (l : Launch) (Z : State) (a0 : Array Value) (hw : ∀ d ∈ tables_1, d.before a0 Z = true) (ws : List Jvm.Cond) (r0 : Addr) (r1 : Addr) (r2 : Addr) (h0 : Heap) (n0 : Nat) (Z0 : n0 ≤ h0.size) (hEL : EW Z a0 own_EL) (F1 : Fld Z h0 r0 "com/example/prudent_annotator/prudentannotator/profile/FileChecksum" "file" "Ljava/lang/String;" .null) (F2 : Fld Z h0 r0 "com/example/prudent_annotator/prudentannotator/profile/FileChecksum" "sha256" "Ljava/lang/String;" .null) (E1 : Exa Z h0 r0 "com/example/prudent_annotator/prudentannotator/profile/FileChecksum") (E2 : Exa Z h0 r1 "java/lang/String") (E3 : Exa Z h0 r2 "java/lang/String") (g_r0 : n0 ≤ r0) :
    MetFree l (⟨"com/example/prudent_annotator/prudentannotator/profile/FileChecksum", "<init>", "(Ljava/lang/String;Ljava/lang/String;)V"⟩ : MethodName) (head1 (Jvm.Cond.code (⟨"com/example/prudent_annotator/prudentannotator/profile/FileChecksum", "<init>", "(Ljava/lang/String;Ljava/lang/String;)V"⟩ : MethodName) prog_53_method_1_code 3 none :: ws) ({ frames := 1, cells := 4, slots := 48, locals := 15 } : Room)) (fun a U => a = #[(.ref r0), (.ref r1), (.ref r2)] ∧ Z.Warmed39 U.vm ∧ U.heap = h0 ∧ CHv Z own_EL U.vm h0) (fun _ _ _ _ _ => True) (fun _ U o U' => ∃ v L, o = .returned v ∧ Q11 Z r0 r1 r2 h0 n0 v U'.heap L ∧ CHr Z own_EL U.vm U.heap U'.vm U'.heap ∧ ReturnedEndW U o U' L ({ frames := 1, cells := 4, slots := 48, locals := 15 } : Room).cells ({ frames := 1, cells := 4, slots := 48, locals := 15 } : Room).slots) := by
  refine MetFree.of_bodySF (plainFor_of_name pn_11) hisR ?_
  intro p e s m args below meth c s₁ Bd hml0 hP hK
  obtain ⟨rfl, hZ, hh, hCH⟩ := hP
  have hx := Bd.exec
  have hby := Bd.bytes
  have hml : c.maxLocals = 3 := hml0
  have hown : s.vm.findClass "com/example/prudent_annotator/prudentannotator/profile/FileChecksum" = some m.cls := findClass_of_methodNamed Bd.named
  have hnm := (name_of_methodNamed Bd.named Bd.method).1
  have X0 : Stand p l e ({ frames := 1, cells := 4, slots := 48, locals := 15 } : Room) (s.setVm s.vm) m #[(.ref r0), (.ref r1), (.ref r2)] below meth c s₁ [] 0 0 := Stand.of_body Bd
  have e0 : s₁.heap = h0 := by rw [← hh, Bd.state]; rfl
  have N0 := Fr.nil n0
  refine own_open fun G hG => ?_
  refine own_go (B := s₁.setTop (mkF m 0 #[.val (.ref r0), .val (.ref r1), .val (.ref r2)] [])) (fun t_ k_ => castTop (ef_rm11 m r0 r1 r2) k_) ?_
  have wS : ∀ d ∈ Bundle.stringAtoms, d.before a0 Z = true := fun d hd => hw d ((by decide +kernel : ∀ d ∈ Bundle.stringAtoms, d ∈ tables_1) d hd)
  have CR0 : CHr Z own_EL s.vm h0 s.vm h0 := CHr.refl hCH
  have K0 : Keep h0 h0 [r0] := Keep.refl h0 _
  refine own_go (B := s₁.setTop (mkF m 1 #[.val (.ref r0), .val (.ref r1), .val (.ref r2)] [(.ref r0)])) (fun t_ k_ => ?_) ?_
  · show Steps p.tables e below (s₁.setTop (mkF m 0 #[.val (.ref r0), .val (.ref r1), .val (.ref r2)] [])) _
    refine XS.aloadN X0.here hx rfl (hb hby d11_0) rfl rfl ?_
    show Steps p.tables e below (s₁.setTop (mkF m 1 #[.val (.ref r0), .val (.ref r1), .val (.ref r2)] [(.ref r0)])) _
    exact k_
  obtain ⟨T160, X160, e160, st160⟩ := initO X0 hx hZ hown (hw _ (List.mem_of_getElem? (i := 52) rfl)) (hw _ (List.mem_of_getElem? (i := 19) rfl)) (hw _ (List.mem_of_getElem? (i := 20) rfl)) e0 (g := (mkF m 1 #[.val (.ref r0), .val (.ref r1), .val (.ref r2)] [(.ref r0)])) rfl (by rw [hml]; rfl) rfl (hb hby d11_1) (by decide) (W := 0) (by show 2 * 0 + _ ≤ _; exact Nat.le_of_eq rfl) (by decide)
  refine own_go (B := T160.setTop (mkF m 4 #[.val (.ref r0), .val (.ref r1), .val (.ref r2)] [])) (fun t_ k_ => st160 _ k_) ?_
  refine own_go (B := T160.setTop (mkF m 6 #[.val (.ref r0), .val (.ref r1), .val (.ref r2)] [(.ref r1), (.ref r0)])) (fun t_ k_ => ?_) ?_
  · show Steps p.tables e below (T160.setTop (mkF m 4 #[.val (.ref r0), .val (.ref r1), .val (.ref r2)] [])) _
    refine XS.aloadN X160.here hx rfl (hb hby d11_4) rfl rfl ?_
    show Steps p.tables e below (T160.setTop (mkF m 5 #[.val (.ref r0), .val (.ref r1), .val (.ref r2)] [(.ref r0)])) _
    refine XS.aloadN X160.here hx rfl (hb hby d11_5) rfl rfl ?_
    show Steps p.tables e below (T160.setTop (mkF m 6 #[.val (.ref r0), .val (.ref r1), .val (.ref r2)] [(.ref r1), (.ref r0)])) _
    exact k_
  obtain ⟨a161, T161, h161, kk161, X161, e161, E161, hS161, hk161, hZ161, hown161, C161, -, st161⟩ := ldcOH (s := s) (vm0 := s.vm) X160 hx hZ hown (hw _ (List.mem_of_getElem? (i := 53) rfl)) wS e160 (State.WarmedH.since (State.WarmedH.refl s) 0) (Nat.zero_le _) hEL CR0.1 (g := (mkF m 6 #[.val (.ref r0), .val (.ref r1), .val (.ref r2)] [(.ref r1), (.ref r0)])) rfl (hb hby d11_6) (n := 16) (by decide) (by decide) (by decide) (by decide)
  have f162 : CHr Z own_EL s.vm h0 T161.vm h161 := CR0.trans C161
  have hk163 : _ ≤ h161.size := Nat.le_trans (Nat.zero_le _) E161.1
  have f164 : Fld Z h161 r0 "com/example/prudent_annotator/prudentannotator/profile/FileChecksum" "file" "Ljava/lang/String;" .null := F1.ext E161
  have f165 : Fld Z h161 r0 "com/example/prudent_annotator/prudentannotator/profile/FileChecksum" "sha256" "Ljava/lang/String;" .null := F2.ext E161
  have f166 : Exa Z h161 r0 "com/example/prudent_annotator/prudentannotator/profile/FileChecksum" := E1.ext E161
  have f167 : Exa Z h161 r1 "java/lang/String" := E2.ext E161
  have f168 : Exa Z h161 r2 "java/lang/String" := E3.ext E161
  have f169 : Keep h0 h161 [r0] := K0.ext E161
  have Z161 : n0 ≤ h161.size := Nat.le_trans Z0 E161.1
  refine own_go (B := T161.setTop (mkF m 8 #[.val (.ref r0), .val (.ref r1), .val (.ref r2)] [(.ref a161), (.ref r1), (.ref r0)])) (fun t_ k_ => st161 _ k_) ?_
  obtain ⟨vv170, _, ⟨T170, L170, k170, n170⟩, -, X170, ⟨Lc170, hQ170, l170, y170, z170⟩, st170⟩ := Jvm.LawKit.callS X161 hx (y := (⟨"java/util/Objects", "requireNonNull", "(Ljava/lang/Object;Ljava/lang/String;)Ljava/lang/Object;"⟩ : MethodName)) hown161 (mvT hZ161 (hw _ (List.mem_of_getElem? (i := 54) rfl))) (mvT hZ161 (hw _ (List.mem_of_getElem? (i := 55) rfl))) (mvT hZ161 (hw _ (List.mem_of_getElem? (i := 56) rfl))) (mvT hZ161 (hw _ (List.mem_of_getElem? (i := 57) rfl))) (by decide) (backOf (W := 1) (rm12 l Z a0 hw [] r1 a161 h161 n0 Z161) hZ161 (hw _ (List.mem_of_getElem? (i := 57) rfl)) (hw _ (List.mem_of_getElem? (i := 56) rfl)) (by decide) (by decide)) (g := (mkF m 8 #[.val (.ref r0), .val (.ref r1), .val (.ref r2)] [(.ref a161), (.ref r1), (.ref r0)])) rfl (by rw [hml]; rfl) (argsL := [(.ref r1), (.ref a161)]) (rest := [(.ref r0)]) (lenOf pd__28_Ljava_2f_lang_2f_Object_3b_Ljava_2f_lang_2f_String_3b__29_Ljava_2f_lang_2f_Object_3b_ rfl) rfl (by show 2 * 0 + _ ≤ _; exact Nat.le_of_eq rfl) (hb hby d11_8) (fun _ _ => ⟨rfl, e161, (by decide : 2 + 0 ≤ _), (by decide : 20 + 0 ≤ _)⟩)
  dsimp only [Pt.U, Pt.locs, Pt.cells, Pt.slots] at X170 l170 y170 z170 st170 hQ170
  subst l170 y170 z170
  obtain ⟨rfl, N170q, e170q⟩ := hQ170
  have N170 := Fr.app N0 N170q
  refine own_go (B := T170.setTop (mkF m 11 #[.val (.ref r0), .val (.ref r1), .val (.ref r2)] [(.ref r1), (.ref r0)])) (fun t_ k_ => st170 _ k_) ?_
  obtain ⟨T171, X171, e171, st171⟩ := castY X170 hx hZ161 hown161 (hw _ (List.mem_of_getElem? (i := 58) rfl)) e170q (Ins.self f167) (g := (mkF m 11 #[.val (.ref r0), .val (.ref r1), .val (.ref r2)] [(.ref r1), (.ref r0)])) rfl rfl (hb hby d11_11)
  refine own_go (B := T171.setTop (mkF m 14 #[.val (.ref r0), .val (.ref r1), .val (.ref r2)] [(.ref r1), (.ref r0)])) (fun t_ k_ => st171 _ k_) ?_
  obtain ⟨T172, h172, X172, e172, W172, st172⟩ := putF X171 hx hZ161 hown161 (host := "") (Or.inl (hw _ (List.mem_of_getElem? (i := 59) rfl))) Via.refl e171 f164 f166 (Or.inr ⟨(hw _ (List.mem_of_getElem? (i := 60) rfl)), rfl, hnm⟩) (hw _ (List.mem_of_getElem? (i := 47) rfl)) (ty := (.object "java/lang/String")) (by decide) rfl rfl (g := (mkF m 14 #[.val (.ref r0), .val (.ref r1), .val (.ref r2)] [(.ref r1), (.ref r0)])) rfl rfl (hb hby d11_14)
  have f173 : CHr Z own_EL s.vm h0 T161.vm h172 := f162.trans (CHr.wr W172 (Safe.exa hZ161.alike f166 (by decide) (by decide)) f162.1)
  have hk174 : _ ≤ h172.size := Nat.le_trans hk161 (Keep.of_wr W172).1
  have f175 : Fld Z h172 r0 "com/example/prudent_annotator/prudentannotator/profile/FileChecksum" "file" "Ljava/lang/String;" (.ref r1) := f164.same W172
  have f176 : Fld Z h172 r0 "com/example/prudent_annotator/prudentannotator/profile/FileChecksum" "sha256" "Ljava/lang/String;" .null := f165.other W172 (Or.inr (slot_ne (Or.inr (hw _ (List.mem_of_getElem? (i := 63) rfl))) (Or.inr (hw _ (List.mem_of_getElem? (i := 60) rfl))) (by decide) (t := (.object "java/lang/String")) (t' := (.object "java/lang/String")) (by decide) (by decide)))
  have f177 : Exa Z h172 r0 "com/example/prudent_annotator/prudentannotator/profile/FileChecksum" := f166.wr W172
  have f178 : Exa Z h172 r1 "java/lang/String" := f167.wr W172
  have f179 : Exa Z h172 r2 "java/lang/String" := f168.wr W172
  have f180 : Keep h0 h172 [r0] := f169.wr W172 (Or.inl (List.mem_of_getElem? (i := 0) rfl))
  have Z172 : n0 ≤ h172.size := Nat.le_trans Z161 (Keep.of_wr W172).1
  have N172 := Fr.snoc X172 N170 g_r0
  refine own_go (B := T172.setTop (mkF m 17 #[.val (.ref r0), .val (.ref r1), .val (.ref r2)] [])) (fun t_ k_ => st172 _ k_) ?_
  refine own_go (B := T172.setTop (mkF m 19 #[.val (.ref r0), .val (.ref r1), .val (.ref r2)] [(.ref r2), (.ref r0)])) (fun t_ k_ => ?_) ?_
  · show Steps p.tables e below (T172.setTop (mkF m 17 #[.val (.ref r0), .val (.ref r1), .val (.ref r2)] [])) _
    refine XS.aloadN X172.here hx rfl (hb hby d11_17) rfl rfl ?_
    show Steps p.tables e below (T172.setTop (mkF m 18 #[.val (.ref r0), .val (.ref r1), .val (.ref r2)] [(.ref r0)])) _
    refine XS.aloadN X172.here hx rfl (hb hby d11_18) rfl rfl ?_
    show Steps p.tables e below (T172.setTop (mkF m 19 #[.val (.ref r0), .val (.ref r1), .val (.ref r2)] [(.ref r2), (.ref r0)])) _
    exact k_
  obtain ⟨a181, T181, h181, kk181, X181, e181, E181, hS181, hk181, hZ181, hown181, C181, -, st181⟩ := ldcOH (s := s) (vm0 := T161.vm) X172 hx hZ161 hown161 (hw _ (List.mem_of_getElem? (i := 61) rfl)) wS e172 hS161 hk174 hEL f173.1 (g := (mkF m 19 #[.val (.ref r0), .val (.ref r1), .val (.ref r2)] [(.ref r2), (.ref r0)])) rfl (hb hby d11_19) (n := 24) (by decide) (by decide) (by decide) (by decide)
  have f182 : CHr Z own_EL s.vm h0 T181.vm h181 := f173.trans C181
  have hk183 : _ ≤ h181.size := Nat.le_trans hk174 E181.1
  have f184 : Fld Z h181 r0 "com/example/prudent_annotator/prudentannotator/profile/FileChecksum" "file" "Ljava/lang/String;" (.ref r1) := f175.ext E181
  have f185 : Fld Z h181 r0 "com/example/prudent_annotator/prudentannotator/profile/FileChecksum" "sha256" "Ljava/lang/String;" .null := f176.ext E181
  have f186 : Exa Z h181 r0 "com/example/prudent_annotator/prudentannotator/profile/FileChecksum" := f177.ext E181
  have f187 : Exa Z h181 r1 "java/lang/String" := f178.ext E181
  have f188 : Exa Z h181 r2 "java/lang/String" := f179.ext E181
  have f189 : Keep h0 h181 [r0] := f180.ext E181
  have Z181 : n0 ≤ h181.size := Nat.le_trans Z172 E181.1
  refine own_go (B := T181.setTop (mkF m 21 #[.val (.ref r0), .val (.ref r1), .val (.ref r2)] [(.ref a181), (.ref r2), (.ref r0)])) (fun t_ k_ => st181 _ k_) ?_
  obtain ⟨vv190, _, ⟨T190, L190, k190, n190⟩, -, X190, ⟨Lc190, hQ190, l190, y190, z190⟩, st190⟩ := Jvm.LawKit.callS X181 hx (y := (⟨"java/util/Objects", "requireNonNull", "(Ljava/lang/Object;Ljava/lang/String;)Ljava/lang/Object;"⟩ : MethodName)) hown181 (mvT hZ181 (hw _ (List.mem_of_getElem? (i := 54) rfl))) (mvT hZ181 (hw _ (List.mem_of_getElem? (i := 55) rfl))) (mvT hZ181 (hw _ (List.mem_of_getElem? (i := 56) rfl))) (mvT hZ181 (hw _ (List.mem_of_getElem? (i := 57) rfl))) (by decide) (backOf (W := 1) (rm12 l Z a0 hw [] r2 a181 h181 n0 Z181) hZ181 (hw _ (List.mem_of_getElem? (i := 57) rfl)) (hw _ (List.mem_of_getElem? (i := 56) rfl)) (by decide) (by decide)) (g := (mkF m 21 #[.val (.ref r0), .val (.ref r1), .val (.ref r2)] [(.ref a181), (.ref r2), (.ref r0)])) rfl (by rw [hml]; rfl) (argsL := [(.ref r2), (.ref a181)]) (rest := [(.ref r0)]) (lenOf pd__28_Ljava_2f_lang_2f_Object_3b_Ljava_2f_lang_2f_String_3b__29_Ljava_2f_lang_2f_Object_3b_ rfl) rfl (by show 2 * 0 + _ ≤ _; exact Nat.le_of_eq rfl) (hb hby d11_21) (fun _ _ => ⟨rfl, e181, (by decide : 4 + 0 ≤ _), (by decide : 48 + 0 ≤ _)⟩)
  dsimp only [Pt.U, Pt.locs, Pt.cells, Pt.slots] at X190 l190 y190 z190 st190 hQ190
  subst l190 y190 z190
  obtain ⟨rfl, N190q, e190q⟩ := hQ190
  have N190 := Fr.app N172 N190q
  refine own_go (B := T190.setTop (mkF m 24 #[.val (.ref r0), .val (.ref r1), .val (.ref r2)] [(.ref r2), (.ref r0)])) (fun t_ k_ => st190 _ k_) ?_
  obtain ⟨T191, X191, e191, st191⟩ := castY X190 hx hZ181 hown181 (hw _ (List.mem_of_getElem? (i := 58) rfl)) e190q (Ins.self f188) (g := (mkF m 24 #[.val (.ref r0), .val (.ref r1), .val (.ref r2)] [(.ref r2), (.ref r0)])) rfl rfl (hb hby d11_24)
  refine own_go (B := T191.setTop (mkF m 27 #[.val (.ref r0), .val (.ref r1), .val (.ref r2)] [(.ref r2), (.ref r0)])) (fun t_ k_ => st191 _ k_) ?_
  obtain ⟨T192, h192, X192, e192, W192, st192⟩ := putF X191 hx hZ181 hown181 (host := "") (Or.inl (hw _ (List.mem_of_getElem? (i := 62) rfl))) Via.refl e191 f185 f186 (Or.inr ⟨(hw _ (List.mem_of_getElem? (i := 63) rfl)), rfl, hnm⟩) (hw _ (List.mem_of_getElem? (i := 47) rfl)) (ty := (.object "java/lang/String")) (by decide) rfl rfl (g := (mkF m 27 #[.val (.ref r0), .val (.ref r1), .val (.ref r2)] [(.ref r2), (.ref r0)])) rfl rfl (hb hby d11_27)
  have f193 : CHr Z own_EL s.vm h0 T181.vm h192 := f182.trans (CHr.wr W192 (Safe.exa hZ181.alike f186 (by decide) (by decide)) f182.1)
  have hk194 : _ ≤ h192.size := Nat.le_trans hk181 (Keep.of_wr W192).1
  have f195 : Fld Z h192 r0 "com/example/prudent_annotator/prudentannotator/profile/FileChecksum" "file" "Ljava/lang/String;" (.ref r1) := f184.other W192 (Or.inr (slot_ne (Or.inr (hw _ (List.mem_of_getElem? (i := 60) rfl))) (Or.inr (hw _ (List.mem_of_getElem? (i := 63) rfl))) (by decide) (t := (.object "java/lang/String")) (t' := (.object "java/lang/String")) (by decide) (by decide)))
  have f196 : Fld Z h192 r0 "com/example/prudent_annotator/prudentannotator/profile/FileChecksum" "sha256" "Ljava/lang/String;" (.ref r2) := f185.same W192
  have f197 : Exa Z h192 r0 "com/example/prudent_annotator/prudentannotator/profile/FileChecksum" := f186.wr W192
  have f198 : Exa Z h192 r1 "java/lang/String" := f187.wr W192
  have f199 : Exa Z h192 r2 "java/lang/String" := f188.wr W192
  have f200 : Keep h0 h192 [r0] := f189.wr W192 (Or.inl (List.mem_of_getElem? (i := 0) rfl))
  have Z192 : n0 ≤ h192.size := Nat.le_trans Z181 (Keep.of_wr W192).1
  have N192 := Fr.snoc X192 N190 g_r0
  refine own_go (B := T192.setTop (mkF m 30 #[.val (.ref r0), .val (.ref r1), .val (.ref r2)] [])) (fun t_ k_ => st192 _ k_) ?_
  obtain ⟨fs, hr, hrun, hended, hRW⟩ := Jvm.Stand.leaveW (s := s) (vm₁ := T181.vm) X192 hS181 (by rw [e192]; exact hk194) (v := none) (fun _ => rfl)
  have CRf : CHr Z own_EL s.vm s.heap (T192.setFrames fs).vm (T192.setFrames fs).heap := by
    show CHr Z own_EL s.vm s.heap T192.vm T192.heap
    rw [hh, e192]
    exact f193.trans (CHv.at (s := s) (vm0 := T181.vm) X192 hZ181 hEL f193.1)
  refine own_at ?_ (hG _ _ ⟨hrun, hended, _, _, rfl, ?_, CRf, hRW.1, hRW.2.1, hRW.2.2.1, hRW.2.2.2.mono (by decide) (by decide)⟩)
  · show Steps p.tables e below (T192.setTop (mkF m 30 #[.val (.ref r0), .val (.ref r1), .val (.ref r2)] [])) _
    exact X192.returnOut hx Bd.returns (hb hby d11_30) hr
  · show Q11 Z r0 r1 r2 h0 n0 _ T192.heap _
    rw [e192]
    exact ⟨rfl, N192, f200, f195, f196⟩
theorem d13_0 : decode method_6_code 0 = .ok (.iload_n 0, 1) := by decide +kernel
theorem d13_1 : decode method_6_code 1 = .ok (.invokestatic 7, 3) := by decide +kernel
theorem d13_4 : decode method_6_code 4 = .ok (.istore_n 2, 1) := by decide +kernel
theorem d13_5 : decode method_6_code 5 = .ok (.iload_n 1, 1) := by decide +kernel
theorem d13_6 : decode method_6_code 6 = .ok (.invokestatic 7, 3) := by decide +kernel
theorem d13_9 : decode method_6_code 9 = .ok (.istore_n 3, 1) := by decide +kernel
theorem d13_10 : decode method_6_code 10 = .ok (.iload_n 2, 1) := by decide +kernel
theorem d13_11 : decode method_6_code 11 = .ok (.iload_n 3, 1) := by decide +kernel
theorem d13_12 : decode method_6_code 12 = .ok (.if_icmp .eq 5, 3) := by decide +kernel
theorem d13_15 : decode method_6_code 15 = .ok (.iconst 0, 1) := by decide +kernel
theorem d13_16 : decode method_6_code 16 = .ok (.ireturn, 1) := by decide +kernel
theorem d13_17 : decode method_6_code 17 = .ok (.iload_n 2, 1) := by decide +kernel
theorem d13_18 : decode method_6_code 18 = .ok (.iconst 1, 1) := by decide +kernel
theorem d13_19 : decode method_6_code 19 = .ok (.if_icmp .lt 16, 3) := by decide +kernel
theorem d13_22 : decode method_6_code 22 = .ok (.iload_n 0, 1) := by decide +kernel
theorem d13_23 : decode method_6_code 23 = .ok (.invokestatic 13, 3) := by decide +kernel
theorem d13_26 : decode method_6_code 26 = .ok (.iload_n 1, 1) := by decide +kernel
theorem d13_27 : decode method_6_code 27 = .ok (.invokestatic 13, 3) := by decide +kernel
theorem d13_30 : decode method_6_code 30 = .ok (.if_icmp .eq 5, 3) := by decide +kernel
theorem d13_33 : decode method_6_code 33 = .ok (.iconst 0, 1) := by decide +kernel
theorem d13_34 : decode method_6_code 34 = .ok (.ireturn, 1) := by decide +kernel
theorem d13_35 : decode method_6_code 35 = .ok (.iload_n 2, 1) := by decide +kernel
theorem d13_36 : decode method_6_code 36 = .ok (.iconst 2, 1) := by decide +kernel
theorem d13_37 : decode method_6_code 37 = .ok (.if_icmp .ne 16, 3) := by decide +kernel
theorem d13_40 : decode method_6_code 40 = .ok (.iload_n 0, 1) := by decide +kernel
theorem d13_41 : decode method_6_code 41 = .ok (.invokestatic 17, 3) := by decide +kernel
theorem d13_44 : decode method_6_code 44 = .ok (.iload_n 1, 1) := by decide +kernel
theorem d13_45 : decode method_6_code 45 = .ok (.invokestatic 17, 3) := by decide +kernel
theorem d13_48 : decode method_6_code 48 = .ok (.if_icmp .eq 5, 3) := by decide +kernel
theorem d13_51 : decode method_6_code 51 = .ok (.iconst 0, 1) := by decide +kernel
theorem d13_52 : decode method_6_code 52 = .ok (.ireturn, 1) := by decide +kernel
theorem d13_53 : decode method_6_code 53 = .ok (.iconst 1, 1) := by decide +kernel
theorem d13_54 : decode method_6_code 54 = .ok (.ireturn, 1) := by decide +kernel
theorem pn_13 : plainName "com/example/prudent_annotator/prudentannotator/profile/FileChecksumEqualsPinLaw" = true := by first | (simp [plainName, overriddenIn]; done) | decide +kernel
theorem ef_rm13 (m : MethodId) (x0 : Int32) (x1 : Int32) : entryFrame m #[(.int x0), (.int x1)] 4 = mkF m 0 #[.val (.int x0), .val (.int x1), .unset, .unset] [] := by first | (simp [entryFrame, mkF, argsToLocals, Value.category]; done) | rfl
def Q13 (Z : State) (p0 : Int32) (p1 : Int32) (h0 : Heap) (n0 : Nat) (v : Option Value) (h : Heap) (L : List Loc) : Prop := v = some (.int (own_same p0 p1)) ∧ Fr n0 L ∧ h = h0
set_option maxRecDepth 65536 in
set_option maxHeartbeats 40000000 in
theorem rm13 (l : Launch) (Z : State) (a0 : Array Value) (hw : ∀ d ∈ tables_1, d.before a0 Z = true) (ws : List Jvm.Cond) (p0 : Int32) (p1 : Int32) (h0 : Heap) (n0 : Nat) (Z0 : n0 ≤ h0.size) :
    MetFree l (⟨"com/example/prudent_annotator/prudentannotator/profile/FileChecksumEqualsPinLaw", "same", "(II)Z"⟩ : MethodName) (head1 (Jvm.Cond.code (⟨"com/example/prudent_annotator/prudentannotator/profile/FileChecksumEqualsPinLaw", "same", "(II)Z"⟩ : MethodName) method_6_code 4 (some .boolean) :: ws) ({ frames := 1, cells := 0, slots := 0, locals := 14 } : Room)) (fun a U => a = #[(.int p0), (.int p1)] ∧ Z.Warmed39 U.vm ∧ U.heap = h0) (fun _ _ _ _ _ => True) (fun _ U o U' => ∃ v L, o = .returned v ∧ Q13 Z p0 p1 h0 n0 v U'.heap L ∧ FrameEnd U o U' L ({ frames := 1, cells := 0, slots := 0, locals := 14 } : Room).cells ({ frames := 1, cells := 0, slots := 0, locals := 14 } : Room).slots) := by
  refine MetFree.of_bodySF (plainFor_of_name pn_13) hisR ?_
  intro p e s m args below meth c s₁ Bd hml0 hP hK
  obtain ⟨rfl, hZ, hh⟩ := hP
  have hx := Bd.exec
  have hby := Bd.bytes
  have hml : c.maxLocals = 4 := hml0
  have hown : s.vm.findClass "com/example/prudent_annotator/prudentannotator/profile/FileChecksumEqualsPinLaw" = some m.cls := findClass_of_methodNamed Bd.named
  have hnm := (name_of_methodNamed Bd.named Bd.method).1
  have X0 : Stand p l e ({ frames := 1, cells := 0, slots := 0, locals := 14 } : Room) s m #[(.int p0), (.int p1)] below meth c s₁ [] 0 0 := Stand.of_body Bd
  have e0 : s₁.heap = h0 := by rw [← hh, Bd.state]; rfl
  have N0 := Fr.nil n0
  refine own_open fun G hG => ?_
  refine own_go (B := s₁.setTop (mkF m 0 #[.val (.int p0), .val (.int p1), .unset, .unset] [])) (fun t_ k_ => castTop (ef_rm13 m p0 p1) k_) ?_
  refine own_go (B := s₁.setTop (mkF m 1 #[.val (.int p0), .val (.int p1), .unset, .unset] [(.int p0)])) (fun t_ k_ => ?_) ?_
  · show Steps p.tables e below (s₁.setTop (mkF m 0 #[.val (.int p0), .val (.int p1), .unset, .unset] [])) _
    refine XS.iloadN X0.here hx rfl (hb hby d13_0) rfl ?_
    show Steps p.tables e below (s₁.setTop (mkF m 1 #[.val (.int p0), .val (.int p1), .unset, .unset] [(.int p0)])) _
    exact k_
  obtain ⟨vv202, _, ⟨T202, L202, k202, n202⟩, -, X202, ⟨Lc202, hQ202, l202, y202, z202⟩, st202⟩ := Jvm.LawKit.callS X0 hx (y := (⟨"com/example/prudent_annotator/prudentannotator/profile/FileChecksumEqualsPinLaw", "len", "(I)I"⟩ : MethodName)) hown (mvT hZ (hw _ (List.mem_of_getElem? (i := 4) rfl))) (mvT hZ (hw _ (List.mem_of_getElem? (i := 5) rfl))) (mvT hZ (hw _ (List.mem_of_getElem? (i := 2) rfl))) (mvT hZ (hw _ (List.mem_of_getElem? (i := 6) rfl))) (by decide) (backOf (W := 0) (rm2 l Z a0 hw [] p0 h0 n0 Z0) hZ (hw _ (List.mem_of_getElem? (i := 6) rfl)) (hw _ (List.mem_of_getElem? (i := 2) rfl)) (by decide) (by decide)) (g := (mkF m 1 #[.val (.int p0), .val (.int p1), .unset, .unset] [(.int p0)])) rfl (by rw [hml]; rfl) (argsL := [(.int p0)]) (rest := []) (lenOf pd__28_I_29_I rfl) rfl (by show 2 * 0 + _ ≤ _; exact Nat.le_of_eq rfl) (hb hby d13_1) (fun _ _ => ⟨rfl, e0, (by decide : 0 + 0 ≤ _), (by decide : 0 + 0 ≤ _)⟩)
  dsimp only [Pt.U, Pt.locs, Pt.cells, Pt.slots] at X202 l202 y202 z202 st202 hQ202
  subst l202 y202 z202
  obtain ⟨rfl, N202q, e202q⟩ := hQ202
  have N202 := Fr.app N0 N202q
  refine own_go (B := T202.setTop (mkF m 4 #[.val (.int p0), .val (.int p1), .unset, .unset] [(.int (own_len p0))])) (fun t_ k_ => st202 _ k_) ?_
  refine own_go (B := T202.setTop (mkF m 6 #[.val (.int p0), .val (.int p1), .val (.int (own_len p0)), .unset] [(.int p1)])) (fun t_ k_ => ?_) ?_
  · show Steps p.tables e below (T202.setTop (mkF m 4 #[.val (.int p0), .val (.int p1), .unset, .unset] [(.int (own_len p0))])) _
    refine XS.istoreN X202.here hx rfl (hb hby d13_4) rfl (l' := #[.val (.int p0), .val (.int p1), .val (.int (own_len p0)), .unset]) rfl ?_
    show Steps p.tables e below (T202.setTop (mkF m 5 #[.val (.int p0), .val (.int p1), .val (.int (own_len p0)), .unset] [])) _
    refine XS.iloadN X202.here hx rfl (hb hby d13_5) rfl ?_
    show Steps p.tables e below (T202.setTop (mkF m 6 #[.val (.int p0), .val (.int p1), .val (.int (own_len p0)), .unset] [(.int p1)])) _
    exact k_
  obtain ⟨vv203, _, ⟨T203, L203, k203, n203⟩, -, X203, ⟨Lc203, hQ203, l203, y203, z203⟩, st203⟩ := Jvm.LawKit.callS X202 hx (y := (⟨"com/example/prudent_annotator/prudentannotator/profile/FileChecksumEqualsPinLaw", "len", "(I)I"⟩ : MethodName)) hown (mvT hZ (hw _ (List.mem_of_getElem? (i := 4) rfl))) (mvT hZ (hw _ (List.mem_of_getElem? (i := 5) rfl))) (mvT hZ (hw _ (List.mem_of_getElem? (i := 2) rfl))) (mvT hZ (hw _ (List.mem_of_getElem? (i := 6) rfl))) (by decide) (backOf (W := 0) (rm2 l Z a0 hw [] p1 h0 n0 Z0) hZ (hw _ (List.mem_of_getElem? (i := 6) rfl)) (hw _ (List.mem_of_getElem? (i := 2) rfl)) (by decide) (by decide)) (g := (mkF m 6 #[.val (.int p0), .val (.int p1), .val (.int (own_len p0)), .unset] [(.int p1)])) rfl (by rw [hml]; rfl) (argsL := [(.int p1)]) (rest := []) (lenOf pd__28_I_29_I rfl) rfl (by show 2 * 0 + _ ≤ _; exact Nat.le_of_eq rfl) (hb hby d13_6) (fun _ _ => ⟨rfl, e202q, (by decide : 0 + 0 ≤ _), (by decide : 0 + 0 ≤ _)⟩)
  dsimp only [Pt.U, Pt.locs, Pt.cells, Pt.slots] at X203 l203 y203 z203 st203 hQ203
  subst l203 y203 z203
  obtain ⟨rfl, N203q, e203q⟩ := hQ203
  have N203 := Fr.app N202 N203q
  refine own_go (B := T203.setTop (mkF m 9 #[.val (.int p0), .val (.int p1), .val (.int (own_len p0)), .unset] [(.int (own_len p1))])) (fun t_ k_ => st203 _ k_) ?_
  refine own_go (B := T203.setTop (mkF m 12 #[.val (.int p0), .val (.int p1), .val (.int (own_len p0)), .val (.int (own_len p1))] [(.int (own_len p1)), (.int (own_len p0))])) (fun t_ k_ => ?_) ?_
  · show Steps p.tables e below (T203.setTop (mkF m 9 #[.val (.int p0), .val (.int p1), .val (.int (own_len p0)), .unset] [(.int (own_len p1))])) _
    refine XS.istoreN X203.here hx rfl (hb hby d13_9) rfl (l' := #[.val (.int p0), .val (.int p1), .val (.int (own_len p0)), .val (.int (own_len p1))]) rfl ?_
    show Steps p.tables e below (T203.setTop (mkF m 10 #[.val (.int p0), .val (.int p1), .val (.int (own_len p0)), .val (.int (own_len p1))] [])) _
    refine XS.iloadN X203.here hx rfl (hb hby d13_10) rfl ?_
    show Steps p.tables e below (T203.setTop (mkF m 11 #[.val (.int p0), .val (.int p1), .val (.int (own_len p0)), .val (.int (own_len p1))] [(.int (own_len p0))])) _
    refine XS.iloadN X203.here hx rfl (hb hby d13_11) rfl ?_
    show Steps p.tables e below (T203.setTop (mkF m 12 #[.val (.int p0), .val (.int p1), .val (.int (own_len p0)), .val (.int (own_len p1))] [(.int (own_len p1)), (.int (own_len p0))])) _
    exact k_
  by_cases hc12 : (own_len p0) = (own_len p1)
  · refine own_go (B := T203.setTop (mkF m 19 #[.val (.int p0), .val (.int p1), .val (.int (own_len p0)), .val (.int (own_len p1))] [(.int (1 : Int32)), (.int (own_len p0))])) (fun t_ k_ => ?_) ?_
    · show Steps p.tables e below (T203.setTop (mkF m 12 #[.val (.int p0), .val (.int p1), .val (.int (own_len p0)), .val (.int (own_len p1))] [(.int (own_len p1)), (.int (own_len p0))])) _
      refine XS.icmpYes X203.here hx rfl (pc0 := 12) (pc' := 17) rfl (hb hby d13_12) rfl (teq hc12).1 (by decide) (by decide) ?_
      show Steps p.tables e below (T203.setTop (mkF m 17 #[.val (.int p0), .val (.int p1), .val (.int (own_len p0)), .val (.int (own_len p1))] [])) _
      refine XS.iloadN X203.here hx rfl (hb hby d13_17) rfl ?_
      show Steps p.tables e below (T203.setTop (mkF m 18 #[.val (.int p0), .val (.int p1), .val (.int (own_len p0)), .val (.int (own_len p1))] [(.int (own_len p0))])) _
      refine XS.iconst X203.here hx rfl (hb hby d13_18) ?_
      show Steps p.tables e below (T203.setTop (mkF m 19 #[.val (.int p0), .val (.int p1), .val (.int (own_len p0)), .val (.int (own_len p1))] [(.int (1 : Int32)), (.int (own_len p0))])) _
      exact k_
    by_cases hc19 : (own_len p0) < (1 : Int32)
    · refine own_go (B := T203.setTop (mkF m 54 #[.val (.int p0), .val (.int p1), .val (.int (own_len p0)), .val (.int (own_len p1))] [(.int (1 : Int32))])) (fun t_ k_ => ?_) ?_
      · show Steps p.tables e below (T203.setTop (mkF m 19 #[.val (.int p0), .val (.int p1), .val (.int (own_len p0)), .val (.int (own_len p1))] [(.int (1 : Int32)), (.int (own_len p0))])) _
        refine XS.icmpYes X203.here hx rfl (pc0 := 19) (pc' := 35) rfl (hb hby d13_19) rfl (tlt hc19).1 (by decide) (by decide) ?_
        show Steps p.tables e below (T203.setTop (mkF m 35 #[.val (.int p0), .val (.int p1), .val (.int (own_len p0)), .val (.int (own_len p1))] [])) _
        refine XS.iloadN X203.here hx rfl (hb hby d13_35) rfl ?_
        show Steps p.tables e below (T203.setTop (mkF m 36 #[.val (.int p0), .val (.int p1), .val (.int (own_len p0)), .val (.int (own_len p1))] [(.int (own_len p0))])) _
        refine XS.iconst X203.here hx rfl (hb hby d13_36) ?_
        show Steps p.tables e below (T203.setTop (mkF m 37 #[.val (.int p0), .val (.int p1), .val (.int (own_len p0)), .val (.int (own_len p1))] [(.int (2 : Int32)), (.int (own_len p0))])) _
        refine XS.icmpYes X203.here hx rfl (pc0 := 37) (pc' := 53) rfl (hb hby d13_37) rfl (feq (fun q => by rw [q] at hc19; exact absurd hc19 (by decide))).2 (by decide) (by decide) ?_
        show Steps p.tables e below (T203.setTop (mkF m 53 #[.val (.int p0), .val (.int p1), .val (.int (own_len p0)), .val (.int (own_len p1))] [])) _
        refine XS.iconst X203.here hx rfl (hb hby d13_53) ?_
        show Steps p.tables e below (T203.setTop (mkF m 54 #[.val (.int p0), .val (.int p1), .val (.int (own_len p0)), .val (.int (own_len p1))] [(.int (1 : Int32))])) _
        exact k_
      obtain ⟨fs, hr, hrun, hended, hW, hsame⟩ := X203.leave (v := some (.int (1 : Int32))) (fun h => by rw [Bd.returns] at h; cases h)
      refine own_at ?_ (hG _ _ ⟨hrun, hended, _, _, rfl, ?_, ⟨_, rfl⟩, hW, hsame.mono (by decide) (by decide)⟩)
      · show Steps p.tables e below (T203.setTop (mkF m 54 #[.val (.int p0), .val (.int p1), .val (.int (own_len p0)), .val (.int (own_len p1))] [(.int (1 : Int32))])) _
        exact retN X203 hx (t := .boolean) Bd.returns (by simp) (hb hby d13_54) hr
      · show Q13 Z p0 p1 h0 n0 _ T203.heap _
        rw [e203q]
        exact ⟨by rw [own_sy (own_s0 hc12 hc19)], N203, rfl⟩
    · refine own_go (B := T203.setTop (mkF m 23 #[.val (.int p0), .val (.int p1), .val (.int (own_len p0)), .val (.int (own_len p1))] [(.int p0)])) (fun t_ k_ => ?_) ?_
      · show Steps p.tables e below (T203.setTop (mkF m 19 #[.val (.int p0), .val (.int p1), .val (.int (own_len p0)), .val (.int (own_len p1))] [(.int (1 : Int32)), (.int (own_len p0))])) _
        refine XS.icmpNo X203.here hx rfl (hb hby d13_19) rfl (flt hc19).1 ?_
        show Steps p.tables e below (T203.setTop (mkF m 22 #[.val (.int p0), .val (.int p1), .val (.int (own_len p0)), .val (.int (own_len p1))] [])) _
        refine XS.iloadN X203.here hx rfl (hb hby d13_22) rfl ?_
        show Steps p.tables e below (T203.setTop (mkF m 23 #[.val (.int p0), .val (.int p1), .val (.int (own_len p0)), .val (.int (own_len p1))] [(.int p0)])) _
        exact k_
      obtain ⟨vv205, _, ⟨T205, L205, k205, n205⟩, -, X205, ⟨Lc205, hQ205, l205, y205, z205⟩, st205⟩ := Jvm.LawKit.callS X203 hx (y := (⟨"com/example/prudent_annotator/prudentannotator/profile/FileChecksumEqualsPinLaw", "c0", "(I)C"⟩ : MethodName)) hown (mvT hZ (hw _ (List.mem_of_getElem? (i := 29) rfl))) (mvT hZ (hw _ (List.mem_of_getElem? (i := 30) rfl))) (mvT hZ (hw _ (List.mem_of_getElem? (i := 2) rfl))) (mvT hZ (hw _ (List.mem_of_getElem? (i := 31) rfl))) (by decide) (backOf (W := 0) (rm6 l Z a0 hw [] p0 h0 n0 Z0) hZ (hw _ (List.mem_of_getElem? (i := 31) rfl)) (hw _ (List.mem_of_getElem? (i := 2) rfl)) (by decide) (by decide)) (g := (mkF m 23 #[.val (.int p0), .val (.int p1), .val (.int (own_len p0)), .val (.int (own_len p1))] [(.int p0)])) rfl (by rw [hml]; rfl) (argsL := [(.int p0)]) (rest := []) (lenOf pd__28_I_29_C rfl) rfl (by show 2 * 0 + _ ≤ _; exact Nat.le_of_eq rfl) (hb hby d13_23) (fun _ _ => ⟨rfl, e203q, (by decide : 0 + 0 ≤ _), (by decide : 0 + 0 ≤ _)⟩)
      dsimp only [Pt.U, Pt.locs, Pt.cells, Pt.slots] at X205 l205 y205 z205 st205 hQ205
      subst l205 y205 z205
      obtain ⟨rfl, N205q, e205q⟩ := hQ205
      have N205 := Fr.app N203 N205q
      refine own_go (B := T205.setTop (mkF m 26 #[.val (.int p0), .val (.int p1), .val (.int (own_len p0)), .val (.int (own_len p1))] [(.int (own_c0 p0))])) (fun t_ k_ => st205 _ k_) ?_
      refine own_go (B := T205.setTop (mkF m 27 #[.val (.int p0), .val (.int p1), .val (.int (own_len p0)), .val (.int (own_len p1))] [(.int p1), (.int (own_c0 p0))])) (fun t_ k_ => ?_) ?_
      · show Steps p.tables e below (T205.setTop (mkF m 26 #[.val (.int p0), .val (.int p1), .val (.int (own_len p0)), .val (.int (own_len p1))] [(.int (own_c0 p0))])) _
        refine XS.iloadN X205.here hx rfl (hb hby d13_26) rfl ?_
        show Steps p.tables e below (T205.setTop (mkF m 27 #[.val (.int p0), .val (.int p1), .val (.int (own_len p0)), .val (.int (own_len p1))] [(.int p1), (.int (own_c0 p0))])) _
        exact k_
      obtain ⟨vv206, _, ⟨T206, L206, k206, n206⟩, -, X206, ⟨Lc206, hQ206, l206, y206, z206⟩, st206⟩ := Jvm.LawKit.callS X205 hx (y := (⟨"com/example/prudent_annotator/prudentannotator/profile/FileChecksumEqualsPinLaw", "c0", "(I)C"⟩ : MethodName)) hown (mvT hZ (hw _ (List.mem_of_getElem? (i := 29) rfl))) (mvT hZ (hw _ (List.mem_of_getElem? (i := 30) rfl))) (mvT hZ (hw _ (List.mem_of_getElem? (i := 2) rfl))) (mvT hZ (hw _ (List.mem_of_getElem? (i := 31) rfl))) (by decide) (backOf (W := 1) (rm6 l Z a0 hw [] p1 h0 n0 Z0) hZ (hw _ (List.mem_of_getElem? (i := 31) rfl)) (hw _ (List.mem_of_getElem? (i := 2) rfl)) (by decide) (by decide)) (g := (mkF m 27 #[.val (.int p0), .val (.int p1), .val (.int (own_len p0)), .val (.int (own_len p1))] [(.int p1), (.int (own_c0 p0))])) rfl (by rw [hml]; rfl) (argsL := [(.int p1)]) (rest := [(.int (own_c0 p0))]) (lenOf pd__28_I_29_C rfl) rfl (by show 2 * 0 + _ ≤ _; exact Nat.le_of_eq rfl) (hb hby d13_27) (fun _ _ => ⟨rfl, e205q, (by decide : 0 + 0 ≤ _), (by decide : 0 + 0 ≤ _)⟩)
      dsimp only [Pt.U, Pt.locs, Pt.cells, Pt.slots] at X206 l206 y206 z206 st206 hQ206
      subst l206 y206 z206
      obtain ⟨rfl, N206q, e206q⟩ := hQ206
      have N206 := Fr.app N205 N206q
      refine own_go (B := T206.setTop (mkF m 30 #[.val (.int p0), .val (.int p1), .val (.int (own_len p0)), .val (.int (own_len p1))] [(.int (own_c0 p1)), (.int (own_c0 p0))])) (fun t_ k_ => st206 _ k_) ?_
      by_cases hc30 : (own_c0 p0) = (own_c0 p1)
      · refine own_go (B := T206.setTop (mkF m 37 #[.val (.int p0), .val (.int p1), .val (.int (own_len p0)), .val (.int (own_len p1))] [(.int (2 : Int32)), (.int (own_len p0))])) (fun t_ k_ => ?_) ?_
        · show Steps p.tables e below (T206.setTop (mkF m 30 #[.val (.int p0), .val (.int p1), .val (.int (own_len p0)), .val (.int (own_len p1))] [(.int (own_c0 p1)), (.int (own_c0 p0))])) _
          refine XS.icmpYes X206.here hx rfl (pc0 := 30) (pc' := 35) rfl (hb hby d13_30) rfl (teq hc30).1 (by decide) (by decide) ?_
          show Steps p.tables e below (T206.setTop (mkF m 35 #[.val (.int p0), .val (.int p1), .val (.int (own_len p0)), .val (.int (own_len p1))] [])) _
          refine XS.iloadN X206.here hx rfl (hb hby d13_35) rfl ?_
          show Steps p.tables e below (T206.setTop (mkF m 36 #[.val (.int p0), .val (.int p1), .val (.int (own_len p0)), .val (.int (own_len p1))] [(.int (own_len p0))])) _
          refine XS.iconst X206.here hx rfl (hb hby d13_36) ?_
          show Steps p.tables e below (T206.setTop (mkF m 37 #[.val (.int p0), .val (.int p1), .val (.int (own_len p0)), .val (.int (own_len p1))] [(.int (2 : Int32)), (.int (own_len p0))])) _
          exact k_
        by_cases hc37 : (own_len p0) = (2 : Int32)
        · refine own_go (B := T206.setTop (mkF m 41 #[.val (.int p0), .val (.int p1), .val (.int (own_len p0)), .val (.int (own_len p1))] [(.int p0)])) (fun t_ k_ => ?_) ?_
          · show Steps p.tables e below (T206.setTop (mkF m 37 #[.val (.int p0), .val (.int p1), .val (.int (own_len p0)), .val (.int (own_len p1))] [(.int (2 : Int32)), (.int (own_len p0))])) _
            refine XS.icmpNo X206.here hx rfl (hb hby d13_37) rfl (teq hc37).2 ?_
            show Steps p.tables e below (T206.setTop (mkF m 40 #[.val (.int p0), .val (.int p1), .val (.int (own_len p0)), .val (.int (own_len p1))] [])) _
            refine XS.iloadN X206.here hx rfl (hb hby d13_40) rfl ?_
            show Steps p.tables e below (T206.setTop (mkF m 41 #[.val (.int p0), .val (.int p1), .val (.int (own_len p0)), .val (.int (own_len p1))] [(.int p0)])) _
            exact k_
          obtain ⟨vv207, _, ⟨T207, L207, k207, n207⟩, -, X207, ⟨Lc207, hQ207, l207, y207, z207⟩, st207⟩ := Jvm.LawKit.callS X206 hx (y := (⟨"com/example/prudent_annotator/prudentannotator/profile/FileChecksumEqualsPinLaw", "c1", "(I)C"⟩ : MethodName)) hown (mvT hZ (hw _ (List.mem_of_getElem? (i := 32) rfl))) (mvT hZ (hw _ (List.mem_of_getElem? (i := 33) rfl))) (mvT hZ (hw _ (List.mem_of_getElem? (i := 2) rfl))) (mvT hZ (hw _ (List.mem_of_getElem? (i := 34) rfl))) (by decide) (backOf (W := 0) (rm7 l Z a0 hw [] p0 h0 n0 Z0) hZ (hw _ (List.mem_of_getElem? (i := 34) rfl)) (hw _ (List.mem_of_getElem? (i := 2) rfl)) (by decide) (by decide)) (g := (mkF m 41 #[.val (.int p0), .val (.int p1), .val (.int (own_len p0)), .val (.int (own_len p1))] [(.int p0)])) rfl (by rw [hml]; rfl) (argsL := [(.int p0)]) (rest := []) (lenOf pd__28_I_29_C rfl) rfl (by show 2 * 0 + _ ≤ _; exact Nat.le_of_eq rfl) (hb hby d13_41) (fun _ _ => ⟨rfl, e206q, (by decide : 0 + 0 ≤ _), (by decide : 0 + 0 ≤ _)⟩)
          dsimp only [Pt.U, Pt.locs, Pt.cells, Pt.slots] at X207 l207 y207 z207 st207 hQ207
          subst l207 y207 z207
          obtain ⟨rfl, N207q, e207q⟩ := hQ207
          have N207 := Fr.app N206 N207q
          refine own_go (B := T207.setTop (mkF m 44 #[.val (.int p0), .val (.int p1), .val (.int (own_len p0)), .val (.int (own_len p1))] [(.int (own_c1 p0))])) (fun t_ k_ => st207 _ k_) ?_
          refine own_go (B := T207.setTop (mkF m 45 #[.val (.int p0), .val (.int p1), .val (.int (own_len p0)), .val (.int (own_len p1))] [(.int p1), (.int (own_c1 p0))])) (fun t_ k_ => ?_) ?_
          · show Steps p.tables e below (T207.setTop (mkF m 44 #[.val (.int p0), .val (.int p1), .val (.int (own_len p0)), .val (.int (own_len p1))] [(.int (own_c1 p0))])) _
            refine XS.iloadN X207.here hx rfl (hb hby d13_44) rfl ?_
            show Steps p.tables e below (T207.setTop (mkF m 45 #[.val (.int p0), .val (.int p1), .val (.int (own_len p0)), .val (.int (own_len p1))] [(.int p1), (.int (own_c1 p0))])) _
            exact k_
          obtain ⟨vv208, _, ⟨T208, L208, k208, n208⟩, -, X208, ⟨Lc208, hQ208, l208, y208, z208⟩, st208⟩ := Jvm.LawKit.callS X207 hx (y := (⟨"com/example/prudent_annotator/prudentannotator/profile/FileChecksumEqualsPinLaw", "c1", "(I)C"⟩ : MethodName)) hown (mvT hZ (hw _ (List.mem_of_getElem? (i := 32) rfl))) (mvT hZ (hw _ (List.mem_of_getElem? (i := 33) rfl))) (mvT hZ (hw _ (List.mem_of_getElem? (i := 2) rfl))) (mvT hZ (hw _ (List.mem_of_getElem? (i := 34) rfl))) (by decide) (backOf (W := 1) (rm7 l Z a0 hw [] p1 h0 n0 Z0) hZ (hw _ (List.mem_of_getElem? (i := 34) rfl)) (hw _ (List.mem_of_getElem? (i := 2) rfl)) (by decide) (by decide)) (g := (mkF m 45 #[.val (.int p0), .val (.int p1), .val (.int (own_len p0)), .val (.int (own_len p1))] [(.int p1), (.int (own_c1 p0))])) rfl (by rw [hml]; rfl) (argsL := [(.int p1)]) (rest := [(.int (own_c1 p0))]) (lenOf pd__28_I_29_C rfl) rfl (by show 2 * 0 + _ ≤ _; exact Nat.le_of_eq rfl) (hb hby d13_45) (fun _ _ => ⟨rfl, e207q, (by decide : 0 + 0 ≤ _), (by decide : 0 + 0 ≤ _)⟩)
          dsimp only [Pt.U, Pt.locs, Pt.cells, Pt.slots] at X208 l208 y208 z208 st208 hQ208
          subst l208 y208 z208
          obtain ⟨rfl, N208q, e208q⟩ := hQ208
          have N208 := Fr.app N207 N208q
          refine own_go (B := T208.setTop (mkF m 48 #[.val (.int p0), .val (.int p1), .val (.int (own_len p0)), .val (.int (own_len p1))] [(.int (own_c1 p1)), (.int (own_c1 p0))])) (fun t_ k_ => st208 _ k_) ?_
          by_cases hc48 : (own_c1 p0) = (own_c1 p1)
          · refine own_go (B := T208.setTop (mkF m 54 #[.val (.int p0), .val (.int p1), .val (.int (own_len p0)), .val (.int (own_len p1))] [(.int (1 : Int32))])) (fun t_ k_ => ?_) ?_
            · show Steps p.tables e below (T208.setTop (mkF m 48 #[.val (.int p0), .val (.int p1), .val (.int (own_len p0)), .val (.int (own_len p1))] [(.int (own_c1 p1)), (.int (own_c1 p0))])) _
              refine XS.icmpYes X208.here hx rfl (pc0 := 48) (pc' := 53) rfl (hb hby d13_48) rfl (teq hc48).1 (by decide) (by decide) ?_
              show Steps p.tables e below (T208.setTop (mkF m 53 #[.val (.int p0), .val (.int p1), .val (.int (own_len p0)), .val (.int (own_len p1))] [])) _
              refine XS.iconst X208.here hx rfl (hb hby d13_53) ?_
              show Steps p.tables e below (T208.setTop (mkF m 54 #[.val (.int p0), .val (.int p1), .val (.int (own_len p0)), .val (.int (own_len p1))] [(.int (1 : Int32))])) _
              exact k_
            obtain ⟨fs, hr, hrun, hended, hW, hsame⟩ := X208.leave (v := some (.int (1 : Int32))) (fun h => by rw [Bd.returns] at h; cases h)
            refine own_at ?_ (hG _ _ ⟨hrun, hended, _, _, rfl, ?_, ⟨_, rfl⟩, hW, hsame.mono (by decide) (by decide)⟩)
            · show Steps p.tables e below (T208.setTop (mkF m 54 #[.val (.int p0), .val (.int p1), .val (.int (own_len p0)), .val (.int (own_len p1))] [(.int (1 : Int32))])) _
              exact retN X208 hx (t := .boolean) Bd.returns (by simp) (hb hby d13_54) hr
            · show Q13 Z p0 p1 h0 n0 _ T208.heap _
              rw [e208q]
              exact ⟨by rw [own_sy (own_s2 hc12 hc30 hc37 hc48)], N208, rfl⟩
          · refine own_go (B := T208.setTop (mkF m 52 #[.val (.int p0), .val (.int p1), .val (.int (own_len p0)), .val (.int (own_len p1))] [(.int (0 : Int32))])) (fun t_ k_ => ?_) ?_
            · show Steps p.tables e below (T208.setTop (mkF m 48 #[.val (.int p0), .val (.int p1), .val (.int (own_len p0)), .val (.int (own_len p1))] [(.int (own_c1 p1)), (.int (own_c1 p0))])) _
              refine XS.icmpNo X208.here hx rfl (hb hby d13_48) rfl (feq hc48).1 ?_
              show Steps p.tables e below (T208.setTop (mkF m 51 #[.val (.int p0), .val (.int p1), .val (.int (own_len p0)), .val (.int (own_len p1))] [])) _
              refine XS.iconst X208.here hx rfl (hb hby d13_51) ?_
              show Steps p.tables e below (T208.setTop (mkF m 52 #[.val (.int p0), .val (.int p1), .val (.int (own_len p0)), .val (.int (own_len p1))] [(.int (0 : Int32))])) _
              exact k_
            obtain ⟨fs, hr, hrun, hended, hW, hsame⟩ := X208.leave (v := some (.int (0 : Int32))) (fun h => by rw [Bd.returns] at h; cases h)
            refine own_at ?_ (hG _ _ ⟨hrun, hended, _, _, rfl, ?_, ⟨_, rfl⟩, hW, hsame.mono (by decide) (by decide)⟩)
            · show Steps p.tables e below (T208.setTop (mkF m 52 #[.val (.int p0), .val (.int p1), .val (.int (own_len p0)), .val (.int (own_len p1))] [(.int (0 : Int32))])) _
              exact retN X208 hx (t := .boolean) Bd.returns (by simp) (hb hby d13_52) hr
            · show Q13 Z p0 p1 h0 n0 _ T208.heap _
              rw [e208q]
              exact ⟨by rw [own_sn (own_sc1 hc12 hc37 hc48)], N208, rfl⟩
        · refine own_go (B := T206.setTop (mkF m 54 #[.val (.int p0), .val (.int p1), .val (.int (own_len p0)), .val (.int (own_len p1))] [(.int (1 : Int32))])) (fun t_ k_ => ?_) ?_
          · show Steps p.tables e below (T206.setTop (mkF m 37 #[.val (.int p0), .val (.int p1), .val (.int (own_len p0)), .val (.int (own_len p1))] [(.int (2 : Int32)), (.int (own_len p0))])) _
            refine XS.icmpYes X206.here hx rfl (pc0 := 37) (pc' := 53) rfl (hb hby d13_37) rfl (feq hc37).2 (by decide) (by decide) ?_
            show Steps p.tables e below (T206.setTop (mkF m 53 #[.val (.int p0), .val (.int p1), .val (.int (own_len p0)), .val (.int (own_len p1))] [])) _
            refine XS.iconst X206.here hx rfl (hb hby d13_53) ?_
            show Steps p.tables e below (T206.setTop (mkF m 54 #[.val (.int p0), .val (.int p1), .val (.int (own_len p0)), .val (.int (own_len p1))] [(.int (1 : Int32))])) _
            exact k_
          obtain ⟨fs, hr, hrun, hended, hW, hsame⟩ := X206.leave (v := some (.int (1 : Int32))) (fun h => by rw [Bd.returns] at h; cases h)
          refine own_at ?_ (hG _ _ ⟨hrun, hended, _, _, rfl, ?_, ⟨_, rfl⟩, hW, hsame.mono (by decide) (by decide)⟩)
          · show Steps p.tables e below (T206.setTop (mkF m 54 #[.val (.int p0), .val (.int p1), .val (.int (own_len p0)), .val (.int (own_len p1))] [(.int (1 : Int32))])) _
            exact retN X206 hx (t := .boolean) Bd.returns (by simp) (hb hby d13_54) hr
          · show Q13 Z p0 p1 h0 n0 _ T206.heap _
            rw [e206q]
            exact ⟨by rw [own_sy (own_s1 hc12 hc19 hc30 hc37)], N206, rfl⟩
      · refine own_go (B := T206.setTop (mkF m 34 #[.val (.int p0), .val (.int p1), .val (.int (own_len p0)), .val (.int (own_len p1))] [(.int (0 : Int32))])) (fun t_ k_ => ?_) ?_
        · show Steps p.tables e below (T206.setTop (mkF m 30 #[.val (.int p0), .val (.int p1), .val (.int (own_len p0)), .val (.int (own_len p1))] [(.int (own_c0 p1)), (.int (own_c0 p0))])) _
          refine XS.icmpNo X206.here hx rfl (hb hby d13_30) rfl (feq hc30).1 ?_
          show Steps p.tables e below (T206.setTop (mkF m 33 #[.val (.int p0), .val (.int p1), .val (.int (own_len p0)), .val (.int (own_len p1))] [])) _
          refine XS.iconst X206.here hx rfl (hb hby d13_33) ?_
          show Steps p.tables e below (T206.setTop (mkF m 34 #[.val (.int p0), .val (.int p1), .val (.int (own_len p0)), .val (.int (own_len p1))] [(.int (0 : Int32))])) _
          exact k_
        obtain ⟨fs, hr, hrun, hended, hW, hsame⟩ := X206.leave (v := some (.int (0 : Int32))) (fun h => by rw [Bd.returns] at h; cases h)
        refine own_at ?_ (hG _ _ ⟨hrun, hended, _, _, rfl, ?_, ⟨_, rfl⟩, hW, hsame.mono (by decide) (by decide)⟩)
        · show Steps p.tables e below (T206.setTop (mkF m 34 #[.val (.int p0), .val (.int p1), .val (.int (own_len p0)), .val (.int (own_len p1))] [(.int (0 : Int32))])) _
          exact retN X206 hx (t := .boolean) Bd.returns (by simp) (hb hby d13_34) hr
        · show Q13 Z p0 p1 h0 n0 _ T206.heap _
          rw [e206q]
          exact ⟨by rw [own_sn (own_sc0 hc12 hc19 hc30)], N206, rfl⟩
  · refine own_go (B := T203.setTop (mkF m 16 #[.val (.int p0), .val (.int p1), .val (.int (own_len p0)), .val (.int (own_len p1))] [(.int (0 : Int32))])) (fun t_ k_ => ?_) ?_
    · show Steps p.tables e below (T203.setTop (mkF m 12 #[.val (.int p0), .val (.int p1), .val (.int (own_len p0)), .val (.int (own_len p1))] [(.int (own_len p1)), (.int (own_len p0))])) _
      refine XS.icmpNo X203.here hx rfl (hb hby d13_12) rfl (feq hc12).1 ?_
      show Steps p.tables e below (T203.setTop (mkF m 15 #[.val (.int p0), .val (.int p1), .val (.int (own_len p0)), .val (.int (own_len p1))] [])) _
      refine XS.iconst X203.here hx rfl (hb hby d13_15) ?_
      show Steps p.tables e below (T203.setTop (mkF m 16 #[.val (.int p0), .val (.int p1), .val (.int (own_len p0)), .val (.int (own_len p1))] [(.int (0 : Int32))])) _
      exact k_
    obtain ⟨fs, hr, hrun, hended, hW, hsame⟩ := X203.leave (v := some (.int (0 : Int32))) (fun h => by rw [Bd.returns] at h; cases h)
    refine own_at ?_ (hG _ _ ⟨hrun, hended, _, _, rfl, ?_, ⟨_, rfl⟩, hW, hsame.mono (by decide) (by decide)⟩)
    · show Steps p.tables e below (T203.setTop (mkF m 16 #[.val (.int p0), .val (.int p1), .val (.int (own_len p0)), .val (.int (own_len p1))] [(.int (0 : Int32))])) _
      exact retN X203 hx (t := .boolean) Bd.returns (by simp) (hb hby d13_16) hr
    · show Q13 Z p0 p1 h0 n0 _ T203.heap _
      rw [e203q]
      exact ⟨by rw [own_sn (own_slen hc12)], N203, rfl⟩
theorem d14_0 : decode prog_53_method_8_code 0 = .ok (.aload_n 1, 1) := by decide +kernel
theorem d14_1 : decode prog_53_method_8_code 1 = .ok (.instanceof 18, 3) := by decide +kernel
theorem d14_4 : decode prog_53_method_8_code 4 = .ok (.ifCond .eq 41, 3) := by decide +kernel
theorem d14_7 : decode prog_53_method_8_code 7 = .ok (.aload_n 0, 1) := by decide +kernel
theorem d14_8 : decode prog_53_method_8_code 8 = .ok (.getfield 17, 3) := by decide +kernel
theorem d14_11 : decode prog_53_method_8_code 11 = .ok (.aload_n 1, 1) := by decide +kernel
theorem d14_12 : decode prog_53_method_8_code 12 = .ok (.checkcast 18, 3) := by decide +kernel
theorem d14_15 : decode prog_53_method_8_code 15 = .ok (.getfield 17, 3) := by decide +kernel
theorem d14_18 : decode prog_53_method_8_code 18 = .ok (.invokevirtual 103, 3) := by decide +kernel
theorem d14_21 : decode prog_53_method_8_code 21 = .ok (.ifCond .eq 24, 3) := by decide +kernel
theorem d14_24 : decode prog_53_method_8_code 24 = .ok (.aload_n 0, 1) := by decide +kernel
theorem d14_25 : decode prog_53_method_8_code 25 = .ok (.getfield 24, 3) := by decide +kernel
theorem d14_28 : decode prog_53_method_8_code 28 = .ok (.aload_n 1, 1) := by decide +kernel
theorem d14_29 : decode prog_53_method_8_code 29 = .ok (.checkcast 18, 3) := by decide +kernel
theorem d14_32 : decode prog_53_method_8_code 32 = .ok (.getfield 24, 3) := by decide +kernel
theorem d14_35 : decode prog_53_method_8_code 35 = .ok (.invokevirtual 103, 3) := by decide +kernel
theorem d14_38 : decode prog_53_method_8_code 38 = .ok (.ifCond .eq 7, 3) := by decide +kernel
theorem d14_41 : decode prog_53_method_8_code 41 = .ok (.iconst 1, 1) := by decide +kernel
theorem d14_42 : decode prog_53_method_8_code 42 = .ok (.goto 4, 3) := by decide +kernel
theorem d14_45 : decode prog_53_method_8_code 45 = .ok (.iconst 0, 1) := by decide +kernel
theorem d14_46 : decode prog_53_method_8_code 46 = .ok (.ireturn, 1) := by decide +kernel
theorem pn_14 : plainName "com/example/prudent_annotator/prudentannotator/profile/FileChecksum" = true := by first | (simp [plainName, overriddenIn]; done) | decide +kernel
theorem ef_rmEq (m : MethodId) (x0 : Addr) (x1 : Addr) : entryFrame m #[(.ref x0), (.ref x1)] 2 = mkF m 0 #[.val (.ref x0), .val (.ref x1)] [] := by first | (simp [entryFrame, mkF, argsToLocals, Value.category]; done) | rfl
def QEq (Z : State) (r0 : Addr) (r1 : Addr) (z : Int32) (af : Addr) (tf : Addr) (kf : ClassId) (xf : Int32) (as_ : Addr) (ts : Addr) (ks : ClassId) (xs : Int32) (bf : Addr) (uf : Addr) (lf : ClassId) (yf : Int32) (bs_ : Addr) (us : Addr) (ls : ClassId) (ys : Int32) (h0 : Heap) (n0 : Nat) (v : Option Value) (h : Heap) (L : List Loc) : Prop := v = some (.int (if own_cs xf = own_cs yf ∧ own_cs xs = own_cs ys then 1 else 0)) ∧ Fr n0 L ∧ h = h0
set_option maxRecDepth 65536 in
set_option maxHeartbeats 40000000 in
theorem rmEq (l : Launch) (Z : State) (a0 : Array Value) (hw : ∀ d ∈ tables_1, d.before a0 Z = true) (ws : List Jvm.Cond) (r0 : Addr) (r1 : Addr) (z : Int32) (af : Addr) (tf : Addr) (kf : ClassId) (xf : Int32) (as_ : Addr) (ts : Addr) (ks : ClassId) (xs : Int32) (bf : Addr) (uf : Addr) (lf : ClassId) (yf : Int32) (bs_ : Addr) (us : Addr) (ls : ClassId) (ys : Int32) (h0 : Heap) (n0 : Nat) (Z0 : n0 ≤ h0.size) (O0 : Old Z n0 h0) (S0 : Sta Z Z.heap "java/lang/String" "COMPACT_STRINGS" "Z" (.int z)) (hz : ¬ z = 0) (E1 : Exa Z h0 r0 "com/example/prudent_annotator/prudentannotator/profile/FileChecksum") (E2 : Exa Z h0 r1 "com/example/prudent_annotator/prudentannotator/profile/FileChecksum") (F1 : Fld Z h0 r0 "com/example/prudent_annotator/prudentannotator/profile/FileChecksum" "file" "Ljava/lang/String;" (.ref af)) (F2 : Fld Z h0 r0 "com/example/prudent_annotator/prudentannotator/profile/FileChecksum" "sha256" "Ljava/lang/String;" (.ref as_)) (F3 : Fld Z h0 r1 "com/example/prudent_annotator/prudentannotator/profile/FileChecksum" "file" "Ljava/lang/String;" (.ref bf)) (F4 : Fld Z h0 r1 "com/example/prudent_annotator/prudentannotator/profile/FileChecksum" "sha256" "Ljava/lang/String;" (.ref bs_)) (Exaf : Exa Z h0 af "java/lang/String") (Fcaf : Fld Z h0 af "java/lang/String" "coder" "B" (.int 0)) (Fvaf : Fld Z h0 af "java/lang/String" "value" "[B" (.ref tf)) (Vaaf : Arv Z h0 tf kf .byte (Int32.ofNat (own_cs xf).length) (own_bv xf) (.int 0)) (Exas_ : Exa Z h0 as_ "java/lang/String") (Fcas_ : Fld Z h0 as_ "java/lang/String" "coder" "B" (.int 0)) (Fvas_ : Fld Z h0 as_ "java/lang/String" "value" "[B" (.ref ts)) (Vaas_ : Arv Z h0 ts ks .byte (Int32.ofNat (own_cs xs).length) (own_bv xs) (.int 0)) (Exbf : Exa Z h0 bf "java/lang/String") (Fcbf : Fld Z h0 bf "java/lang/String" "coder" "B" (.int 0)) (Fvbf : Fld Z h0 bf "java/lang/String" "value" "[B" (.ref uf)) (Vabf : Arv Z h0 uf lf .byte (Int32.ofNat (own_cs yf).length) (own_bv yf) (.int 0)) (Exbs_ : Exa Z h0 bs_ "java/lang/String") (Fcbs_ : Fld Z h0 bs_ "java/lang/String" "coder" "B" (.int 0)) (Fvbs_ : Fld Z h0 bs_ "java/lang/String" "value" "[B" (.ref us)) (Vabs_ : Arv Z h0 us ls .byte (Int32.ofNat (own_cs ys).length) (own_bv ys) (.int 0)) :
    MetFree l (⟨"com/example/prudent_annotator/prudentannotator/profile/FileChecksum", "equals", "(Ljava/lang/Object;)Z"⟩ : MethodName) (head1 (Jvm.Cond.code (⟨"com/example/prudent_annotator/prudentannotator/profile/FileChecksum", "equals", "(Ljava/lang/Object;)Z"⟩ : MethodName) prog_53_method_8_code 2 (some .boolean) :: ws) ({ frames := 3, cells := 0, slots := 0, locals := 42 } : Room)) (fun a U => a = #[(.ref r0), (.ref r1)] ∧ Z.Warmed39 U.vm ∧ U.heap = h0) (fun _ _ _ _ _ => True) (fun _ U o U' => ∃ v L, o = .returned v ∧ QEq Z r0 r1 z af tf kf xf as_ ts ks xs bf uf lf yf bs_ us ls ys h0 n0 v U'.heap L ∧ FrameEnd U o U' L ({ frames := 3, cells := 0, slots := 0, locals := 42 } : Room).cells ({ frames := 3, cells := 0, slots := 0, locals := 42 } : Room).slots) := by
  refine MetFree.of_bodySF (plainFor_of_name pn_14) hisR ?_
  intro p e s m args below meth c s₁ Bd hml0 hP hK
  obtain ⟨rfl, hZ, hh⟩ := hP
  have hx := Bd.exec
  have hby := Bd.bytes
  have hml : c.maxLocals = 2 := hml0
  have hown : s.vm.findClass "com/example/prudent_annotator/prudentannotator/profile/FileChecksum" = some m.cls := findClass_of_methodNamed Bd.named
  have hnm := (name_of_methodNamed Bd.named Bd.method).1
  have X0 : Stand p l e ({ frames := 3, cells := 0, slots := 0, locals := 42 } : Room) s m #[(.ref r0), (.ref r1)] below meth c s₁ [] 0 0 := Stand.of_body Bd
  have e0 : s₁.heap = h0 := by rw [← hh, Bd.state]; rfl
  have N0 := Fr.nil n0
  refine own_open fun G hG => ?_
  refine own_go (B := s₁.setTop (mkF m 0 #[.val (.ref r0), .val (.ref r1)] [])) (fun t_ k_ => castTop (ef_rmEq m r0 r1) k_) ?_
  have heq : ∀ d ∈ StrChars.Road.wordsEq, d.before a0 Z = true := fun d hd => hw d ((by decide +kernel : ∀ d ∈ StrChars.Road.wordsEq, d ∈ tables_1) d hd)
  refine own_go (B := s₁.setTop (mkF m 1 #[.val (.ref r0), .val (.ref r1)] [(.ref r1)])) (fun t_ k_ => ?_) ?_
  · show Steps p.tables e below (s₁.setTop (mkF m 0 #[.val (.ref r0), .val (.ref r1)] [])) _
    refine XS.aloadN X0.here hx rfl (hb hby d14_0) rfl rfl ?_
    show Steps p.tables e below (s₁.setTop (mkF m 1 #[.val (.ref r0), .val (.ref r1)] [(.ref r1)])) _
    exact k_
  obtain ⟨T214, X214, e214, st214⟩ := instY X0 hx hZ hown (hw _ (List.mem_of_getElem? (i := 72) rfl)) e0 (Ins.self E2) (g := (mkF m 1 #[.val (.ref r0), .val (.ref r1)] [(.ref r1)])) rfl rfl (hb hby d14_1)
  refine own_go (B := T214.setTop (mkF m 4 #[.val (.ref r0), .val (.ref r1)] [(.int (1 : Int32))])) (fun t_ k_ => st214 _ k_) ?_
  refine own_go (B := T214.setTop (mkF m 8 #[.val (.ref r0), .val (.ref r1)] [(.ref r0)])) (fun t_ k_ => ?_) ?_
  · show Steps p.tables e below (T214.setTop (mkF m 4 #[.val (.ref r0), .val (.ref r1)] [(.int (1 : Int32))])) _
    refine XS.ifNo X214.here hx rfl (hb hby d14_4) rfl ((if0 _ _).trans (feq (by decide : ¬ ((1 : Int32) = (0 : Int32)))).1) ?_
    show Steps p.tables e below (T214.setTop (mkF m 7 #[.val (.ref r0), .val (.ref r1)] [])) _
    refine XS.aloadN X214.here hx rfl (hb hby d14_7) rfl rfl ?_
    show Steps p.tables e below (T214.setTop (mkF m 8 #[.val (.ref r0), .val (.ref r1)] [(.ref r0)])) _
    exact k_
  obtain ⟨T215, X215, e215, st215⟩ := getF X214 hx hZ hown (host := "") (Or.inl (hw _ (List.mem_of_getElem? (i := 59) rfl))) Via.refl e214 F1 (g := (mkF m 8 #[.val (.ref r0), .val (.ref r1)] [(.ref r0)])) rfl rfl (hb hby d14_8)
  refine own_go (B := T215.setTop (mkF m 11 #[.val (.ref r0), .val (.ref r1)] [(.ref af)])) (fun t_ k_ => st215 _ k_) ?_
  refine own_go (B := T215.setTop (mkF m 12 #[.val (.ref r0), .val (.ref r1)] [(.ref r1), (.ref af)])) (fun t_ k_ => ?_) ?_
  · show Steps p.tables e below (T215.setTop (mkF m 11 #[.val (.ref r0), .val (.ref r1)] [(.ref af)])) _
    refine XS.aloadN X215.here hx rfl (hb hby d14_11) rfl rfl ?_
    show Steps p.tables e below (T215.setTop (mkF m 12 #[.val (.ref r0), .val (.ref r1)] [(.ref r1), (.ref af)])) _
    exact k_
  obtain ⟨T216, X216, e216, st216⟩ := castY X215 hx hZ hown (hw _ (List.mem_of_getElem? (i := 72) rfl)) e215 (Ins.self E2) (g := (mkF m 12 #[.val (.ref r0), .val (.ref r1)] [(.ref r1), (.ref af)])) rfl rfl (hb hby d14_12)
  refine own_go (B := T216.setTop (mkF m 15 #[.val (.ref r0), .val (.ref r1)] [(.ref r1), (.ref af)])) (fun t_ k_ => st216 _ k_) ?_
  obtain ⟨T217, X217, e217, st217⟩ := getF X216 hx hZ hown (host := "") (Or.inl (hw _ (List.mem_of_getElem? (i := 59) rfl))) Via.refl e216 F3 (g := (mkF m 15 #[.val (.ref r0), .val (.ref r1)] [(.ref r1), (.ref af)])) rfl rfl (hb hby d14_15)
  refine own_go (B := T217.setTop (mkF m 18 #[.val (.ref r0), .val (.ref r1)] [(.ref bf), (.ref af)])) (fun t_ k_ => st217 _ k_) ?_
  obtain ⟨cq218, kq218, q218a, q218b, q218c⟩ := isOf hZ e217 Exaf
  obtain ⟨vv218, _, ⟨T218, L218, k218, n218⟩, -, X218, ⟨Lc218, hQ218, l218, y218, z218⟩, st218⟩ := X217.virtualBack hx (y := (⟨"java/lang/String", "equals", "(Ljava/lang/Object;)Z"⟩ : MethodName)) (z := (⟨"java/lang/String", "equals", "(Ljava/lang/Object;)Z"⟩ : MethodName)) hown (mvT hZ (hw _ (List.mem_of_getElem? (i := 74) rfl))) (mvT hZ (hw _ (List.mem_of_getElem? (i := 75) rfl))) (notFace_of_selects (args := #[]) (mvT hZ (hw _ (List.mem_of_getElem? (i := 77) rfl)))) (mvT hZ (hw _ (List.mem_of_getElem? (i := 77) rfl))) (mvT hZ (hw _ (List.mem_of_getElem? (i := 76) rfl))) (by decide) (StrChars.Road.eqW (W := 0) hZ heq (kI := 4) (hw _ (List.mem_of_getElem? (i := 9) rfl)) Exaf Fvaf Fcaf Vaaf (own_cod xf) (own_csb xf) (own_csl xf) Exbf Fvbf Fcbf Vabf (own_cod yf) (own_csb yf) (own_csl yf) (S0.ext O0.2) hz (by decide) (by decide)) q218a q218c (g := (mkF m 18 #[.val (.ref r0), .val (.ref r1)] [(.ref bf), (.ref af)])) rfl (by rw [hml]; rfl) (Steps.refl _) (argsL := [(.ref bf)]) (rest := []) (lenOf pd__28_Ljava_2f_lang_2f_Object_3b__29_Z rfl) rfl (by show 2 * 0 + _ ≤ _; exact Nat.le_of_eq rfl) (hb hby d14_18) (fun _ _ => ⟨rfl, e217, (by decide : 0 + 0 ≤ _), (by decide : 0 + 0 ≤ _)⟩)
  dsimp only [Pt.U, Pt.locs, Pt.cells, Pt.slots] at X218 l218 y218 z218 st218 hQ218
  subst l218 y218 z218
  obtain ⟨hv218, hL218, e218q⟩ := hQ218
  subst hL218
  have hv218 : vv218 = some (Value.int (own_same xf yf)) := hv218.elim (fun q => by rw [own_sy q.2]; exact q.1) (fun q => by rw [own_sn q.2]; exact q.1)
  subst hv218
  have N218 := Fr.app N0 (Fr.nil n0)
  refine own_go (B := T218.setTop (mkF m 21 #[.val (.ref r0), .val (.ref r1)] [(.int (own_same xf yf))])) (fun t_ k_ => st218.trans k_) ?_
  by_cases hc21 : (own_same xf yf) = (0 : Int32)
  · refine own_go (B := T218.setTop (mkF m 46 #[.val (.ref r0), .val (.ref r1)] [(.int (0 : Int32))])) (fun t_ k_ => ?_) ?_
    · show Steps p.tables e below (T218.setTop (mkF m 21 #[.val (.ref r0), .val (.ref r1)] [(.int (own_same xf yf))])) _
      refine XS.ifYes X218.here hx rfl (pc0 := 21) (pc' := 45) rfl (hb hby d14_21) rfl ((if0 _ _).trans (teq hc21).1) (by decide) (by decide) ?_
      show Steps p.tables e below (T218.setTop (mkF m 45 #[.val (.ref r0), .val (.ref r1)] [])) _
      refine XS.iconst X218.here hx rfl (hb hby d14_45) ?_
      show Steps p.tables e below (T218.setTop (mkF m 46 #[.val (.ref r0), .val (.ref r1)] [(.int (0 : Int32))])) _
      exact k_
    obtain ⟨fs, hr, hrun, hended, hW, hsame⟩ := X218.leave (v := some (.int (0 : Int32))) (fun h => by rw [Bd.returns] at h; cases h)
    refine own_at ?_ (hG _ _ ⟨hrun, hended, _, _, rfl, ?_, ⟨_, rfl⟩, hW, hsame.mono (by decide) (by decide)⟩)
    · show Steps p.tables e below (T218.setTop (mkF m 46 #[.val (.ref r0), .val (.ref r1)] [(.int (0 : Int32))])) _
      exact retN X218 hx (t := .boolean) Bd.returns (by simp) (hb hby d14_46) hr
    · show QEq Z r0 r1 z af tf kf xf as_ ts ks xs bf uf lf yf bs_ us ls ys h0 n0 _ T218.heap _
      rw [e218q]
      exact ⟨by rw [if_neg (fun q => by rw [own_sy q.1] at hc21; exact absurd hc21 (by decide))], N218, rfl⟩
  · refine own_go (B := T218.setTop (mkF m 25 #[.val (.ref r0), .val (.ref r1)] [(.ref r0)])) (fun t_ k_ => ?_) ?_
    · show Steps p.tables e below (T218.setTop (mkF m 21 #[.val (.ref r0), .val (.ref r1)] [(.int (own_same xf yf))])) _
      refine XS.ifNo X218.here hx rfl (hb hby d14_21) rfl ((if0 _ _).trans (feq hc21).1) ?_
      show Steps p.tables e below (T218.setTop (mkF m 24 #[.val (.ref r0), .val (.ref r1)] [])) _
      refine XS.aloadN X218.here hx rfl (hb hby d14_24) rfl rfl ?_
      show Steps p.tables e below (T218.setTop (mkF m 25 #[.val (.ref r0), .val (.ref r1)] [(.ref r0)])) _
      exact k_
    obtain ⟨T220, X220, e220, st220⟩ := getF X218 hx hZ hown (host := "") (Or.inl (hw _ (List.mem_of_getElem? (i := 62) rfl))) Via.refl e218q F2 (g := (mkF m 25 #[.val (.ref r0), .val (.ref r1)] [(.ref r0)])) rfl rfl (hb hby d14_25)
    refine own_go (B := T220.setTop (mkF m 28 #[.val (.ref r0), .val (.ref r1)] [(.ref as_)])) (fun t_ k_ => st220 _ k_) ?_
    refine own_go (B := T220.setTop (mkF m 29 #[.val (.ref r0), .val (.ref r1)] [(.ref r1), (.ref as_)])) (fun t_ k_ => ?_) ?_
    · show Steps p.tables e below (T220.setTop (mkF m 28 #[.val (.ref r0), .val (.ref r1)] [(.ref as_)])) _
      refine XS.aloadN X220.here hx rfl (hb hby d14_28) rfl rfl ?_
      show Steps p.tables e below (T220.setTop (mkF m 29 #[.val (.ref r0), .val (.ref r1)] [(.ref r1), (.ref as_)])) _
      exact k_
    obtain ⟨T221, X221, e221, st221⟩ := castY X220 hx hZ hown (hw _ (List.mem_of_getElem? (i := 72) rfl)) e220 (Ins.self E2) (g := (mkF m 29 #[.val (.ref r0), .val (.ref r1)] [(.ref r1), (.ref as_)])) rfl rfl (hb hby d14_29)
    refine own_go (B := T221.setTop (mkF m 32 #[.val (.ref r0), .val (.ref r1)] [(.ref r1), (.ref as_)])) (fun t_ k_ => st221 _ k_) ?_
    obtain ⟨T222, X222, e222, st222⟩ := getF X221 hx hZ hown (host := "") (Or.inl (hw _ (List.mem_of_getElem? (i := 62) rfl))) Via.refl e221 F4 (g := (mkF m 32 #[.val (.ref r0), .val (.ref r1)] [(.ref r1), (.ref as_)])) rfl rfl (hb hby d14_32)
    refine own_go (B := T222.setTop (mkF m 35 #[.val (.ref r0), .val (.ref r1)] [(.ref bs_), (.ref as_)])) (fun t_ k_ => st222 _ k_) ?_
    obtain ⟨cq223, kq223, q223a, q223b, q223c⟩ := isOf hZ e222 Exas_
    obtain ⟨vv223, _, ⟨T223, L223, k223, n223⟩, -, X223, ⟨Lc223, hQ223, l223, y223, z223⟩, st223⟩ := X222.virtualBack hx (y := (⟨"java/lang/String", "equals", "(Ljava/lang/Object;)Z"⟩ : MethodName)) (z := (⟨"java/lang/String", "equals", "(Ljava/lang/Object;)Z"⟩ : MethodName)) hown (mvT hZ (hw _ (List.mem_of_getElem? (i := 74) rfl))) (mvT hZ (hw _ (List.mem_of_getElem? (i := 75) rfl))) (notFace_of_selects (args := #[]) (mvT hZ (hw _ (List.mem_of_getElem? (i := 77) rfl)))) (mvT hZ (hw _ (List.mem_of_getElem? (i := 77) rfl))) (mvT hZ (hw _ (List.mem_of_getElem? (i := 76) rfl))) (by decide) (StrChars.Road.eqW (W := 0) hZ heq (kI := 4) (hw _ (List.mem_of_getElem? (i := 9) rfl)) Exas_ Fvas_ Fcas_ Vaas_ (own_cod xs) (own_csb xs) (own_csl xs) Exbs_ Fvbs_ Fcbs_ Vabs_ (own_cod ys) (own_csb ys) (own_csl ys) (S0.ext O0.2) hz (by decide) (by decide)) q223a q223c (g := (mkF m 35 #[.val (.ref r0), .val (.ref r1)] [(.ref bs_), (.ref as_)])) rfl (by rw [hml]; rfl) (Steps.refl _) (argsL := [(.ref bs_)]) (rest := []) (lenOf pd__28_Ljava_2f_lang_2f_Object_3b__29_Z rfl) rfl (by show 2 * 0 + _ ≤ _; exact Nat.le_of_eq rfl) (hb hby d14_35) (fun _ _ => ⟨rfl, e222, (by decide : 0 + 0 ≤ _), (by decide : 0 + 0 ≤ _)⟩)
    dsimp only [Pt.U, Pt.locs, Pt.cells, Pt.slots] at X223 l223 y223 z223 st223 hQ223
    subst l223 y223 z223
    obtain ⟨hv223, hL223, e223q⟩ := hQ223
    subst hL223
    have hv223 : vv223 = some (Value.int (own_same xs ys)) := hv223.elim (fun q => by rw [own_sy q.2]; exact q.1) (fun q => by rw [own_sn q.2]; exact q.1)
    subst hv223
    have N223 := Fr.app N218 (Fr.nil n0)
    refine own_go (B := T223.setTop (mkF m 38 #[.val (.ref r0), .val (.ref r1)] [(.int (own_same xs ys))])) (fun t_ k_ => st223.trans k_) ?_
    by_cases hc38 : (own_same xs ys) = (0 : Int32)
    · refine own_go (B := T223.setTop (mkF m 46 #[.val (.ref r0), .val (.ref r1)] [(.int (0 : Int32))])) (fun t_ k_ => ?_) ?_
      · show Steps p.tables e below (T223.setTop (mkF m 38 #[.val (.ref r0), .val (.ref r1)] [(.int (own_same xs ys))])) _
        refine XS.ifYes X223.here hx rfl (pc0 := 38) (pc' := 45) rfl (hb hby d14_38) rfl ((if0 _ _).trans (teq hc38).1) (by decide) (by decide) ?_
        show Steps p.tables e below (T223.setTop (mkF m 45 #[.val (.ref r0), .val (.ref r1)] [])) _
        refine XS.iconst X223.here hx rfl (hb hby d14_45) ?_
        show Steps p.tables e below (T223.setTop (mkF m 46 #[.val (.ref r0), .val (.ref r1)] [(.int (0 : Int32))])) _
        exact k_
      obtain ⟨fs, hr, hrun, hended, hW, hsame⟩ := X223.leave (v := some (.int (0 : Int32))) (fun h => by rw [Bd.returns] at h; cases h)
      refine own_at ?_ (hG _ _ ⟨hrun, hended, _, _, rfl, ?_, ⟨_, rfl⟩, hW, hsame.mono (by decide) (by decide)⟩)
      · show Steps p.tables e below (T223.setTop (mkF m 46 #[.val (.ref r0), .val (.ref r1)] [(.int (0 : Int32))])) _
        exact retN X223 hx (t := .boolean) Bd.returns (by simp) (hb hby d14_46) hr
      · show QEq Z r0 r1 z af tf kf xf as_ ts ks xs bf uf lf yf bs_ us ls ys h0 n0 _ T223.heap _
        rw [e223q]
        exact ⟨by rw [if_neg (fun q => by rw [own_sy q.2] at hc38; exact absurd hc38 (by decide))], N223, rfl⟩
    · refine own_go (B := T223.setTop (mkF m 46 #[.val (.ref r0), .val (.ref r1)] [(.int (1 : Int32))])) (fun t_ k_ => ?_) ?_
      · show Steps p.tables e below (T223.setTop (mkF m 38 #[.val (.ref r0), .val (.ref r1)] [(.int (own_same xs ys))])) _
        refine XS.ifNo X223.here hx rfl (hb hby d14_38) rfl ((if0 _ _).trans (feq hc38).1) ?_
        show Steps p.tables e below (T223.setTop (mkF m 41 #[.val (.ref r0), .val (.ref r1)] [])) _
        refine XS.iconst X223.here hx rfl (hb hby d14_41) ?_
        show Steps p.tables e below (T223.setTop (mkF m 42 #[.val (.ref r0), .val (.ref r1)] [(.int (1 : Int32))])) _
        refine XS.goto X223.here hx rfl (pc0 := 42) (pc' := 46) rfl (hb hby d14_42) (by decide) (by decide) ?_
        show Steps p.tables e below (T223.setTop (mkF m 46 #[.val (.ref r0), .val (.ref r1)] [(.int (1 : Int32))])) _
        exact k_
      obtain ⟨fs, hr, hrun, hended, hW, hsame⟩ := X223.leave (v := some (.int (1 : Int32))) (fun h => by rw [Bd.returns] at h; cases h)
      refine own_at ?_ (hG _ _ ⟨hrun, hended, _, _, rfl, ?_, ⟨_, rfl⟩, hW, hsame.mono (by decide) (by decide)⟩)
      · show Steps p.tables e below (T223.setTop (mkF m 46 #[.val (.ref r0), .val (.ref r1)] [(.int (1 : Int32))])) _
        exact retN X223 hx (t := .boolean) Bd.returns (by simp) (hb hby d14_46) hr
      · show QEq Z r0 r1 z af tf kf xf as_ ts ks xs bf uf lf yf bs_ us ls ys h0 n0 _ T223.heap _
        rw [e223q]
        exact ⟨by rw [if_pos ⟨Classical.byContradiction fun q => hc21 (own_sn q), Classical.byContradiction fun q => hc38 (own_sn q)⟩], N223, rfl⟩
theorem ef_rmEqN (m : MethodId) (x0 : Addr) : entryFrame m #[(.ref x0), .null] 2 = mkF m 0 #[.val (.ref x0), .val .null] [] := by first | (simp [entryFrame, mkF, argsToLocals, Value.category]; done) | rfl
def QEqN (Z : State) (r0 : Addr) (h0 : Heap) (n0 : Nat) (v : Option Value) (h : Heap) (L : List Loc) : Prop := v = some (.int 0) ∧ Fr n0 L ∧ h = h0
set_option maxRecDepth 65536 in
set_option maxHeartbeats 40000000 in
theorem rmEqN (l : Launch) (Z : State) (a0 : Array Value) (hw : ∀ d ∈ tables_1, d.before a0 Z = true) (ws : List Jvm.Cond) (r0 : Addr) (h0 : Heap) (n0 : Nat) (Z0 : n0 ≤ h0.size) :
    MetFree l (⟨"com/example/prudent_annotator/prudentannotator/profile/FileChecksum", "equals", "(Ljava/lang/Object;)Z"⟩ : MethodName) (head1 (Jvm.Cond.code (⟨"com/example/prudent_annotator/prudentannotator/profile/FileChecksum", "equals", "(Ljava/lang/Object;)Z"⟩ : MethodName) prog_53_method_8_code 2 (some .boolean) :: ws) ({ frames := 0, cells := 0, slots := 0, locals := 0 } : Room)) (fun a U => a = #[(.ref r0), .null] ∧ Z.Warmed39 U.vm ∧ U.heap = h0) (fun _ _ _ _ _ => True) (fun _ U o U' => ∃ v L, o = .returned v ∧ QEqN Z r0 h0 n0 v U'.heap L ∧ FrameEnd U o U' L ({ frames := 0, cells := 0, slots := 0, locals := 0 } : Room).cells ({ frames := 0, cells := 0, slots := 0, locals := 0 } : Room).slots) := by
  refine MetFree.of_bodySF (plainFor_of_name pn_14) hisR ?_
  intro p e s m args below meth c s₁ Bd hml0 hP hK
  obtain ⟨rfl, hZ, hh⟩ := hP
  have hx := Bd.exec
  have hby := Bd.bytes
  have hml : c.maxLocals = 2 := hml0
  have hown : s.vm.findClass "com/example/prudent_annotator/prudentannotator/profile/FileChecksum" = some m.cls := findClass_of_methodNamed Bd.named
  have hnm := (name_of_methodNamed Bd.named Bd.method).1
  have X0 : Stand p l e ({ frames := 0, cells := 0, slots := 0, locals := 0 } : Room) s m #[(.ref r0), .null] below meth c s₁ [] 0 0 := Stand.of_body Bd
  have e0 : s₁.heap = h0 := by rw [← hh, Bd.state]; rfl
  have N0 := Fr.nil n0
  refine own_open fun G hG => ?_
  refine own_go (B := s₁.setTop (mkF m 0 #[.val (.ref r0), .val .null] [])) (fun t_ k_ => castTop (ef_rmEqN m r0) k_) ?_
  refine own_go (B := s₁.setTop (mkF m 1 #[.val (.ref r0), .val .null] [.null])) (fun t_ k_ => ?_) ?_
  · show Steps p.tables e below (s₁.setTop (mkF m 0 #[.val (.ref r0), .val .null] [])) _
    refine XS.aloadN X0.here hx rfl (hb hby d14_0) rfl rfl ?_
    show Steps p.tables e below (s₁.setTop (mkF m 1 #[.val (.ref r0), .val .null] [.null])) _
    exact k_
  refine own_go (B := s₁.setTop (mkF m 4 #[.val (.ref r0), .val .null] [(.int (0 : Int32))])) (fun t_ k_ => X0.instanceofNull hx (g := (mkF m 1 #[.val (.ref r0), .val .null] [.null])) rfl rfl (hb hby d14_1) _ k_) ?_
  refine own_go (B := s₁.setTop (mkF m 46 #[.val (.ref r0), .val .null] [(.int (0 : Int32))])) (fun t_ k_ => ?_) ?_
  · show Steps p.tables e below (s₁.setTop (mkF m 4 #[.val (.ref r0), .val .null] [(.int (0 : Int32))])) _
    refine XS.ifYes X0.here hx rfl (pc0 := 4) (pc' := 45) rfl (hb hby d14_4) rfl ((if0 _ _).trans (teq (by decide : (0 : Int32) = (0 : Int32))).1) (by decide) (by decide) ?_
    show Steps p.tables e below (s₁.setTop (mkF m 45 #[.val (.ref r0), .val .null] [])) _
    refine XS.iconst X0.here hx rfl (hb hby d14_45) ?_
    show Steps p.tables e below (s₁.setTop (mkF m 46 #[.val (.ref r0), .val .null] [(.int (0 : Int32))])) _
    exact k_
  obtain ⟨fs, hr, hrun, hended, hW, hsame⟩ := X0.leave (v := some (.int (0 : Int32))) (fun h => by rw [Bd.returns] at h; cases h)
  refine own_at ?_ (hG _ _ ⟨hrun, hended, _, _, rfl, ?_, ⟨_, rfl⟩, hW, hsame.mono (by decide) (by decide)⟩)
  · show Steps p.tables e below (s₁.setTop (mkF m 46 #[.val (.ref r0), .val .null] [(.int (0 : Int32))])) _
    exact retN X0 hx (t := .boolean) Bd.returns (by simp) (hb hby d14_46) hr
  · show QEqN Z r0 h0 n0 _ s₁.heap _
    rw [e0]
    exact ⟨rfl, N0, rfl⟩
theorem own_notsub {Z : State} {a0 : Array Value} {C S K : String} {kn : Nat} (w : (Jvm.Cond.superclass C S).before a0 Z = true) (wn : (Jvm.Cond.noSuperclass S).before a0 Z = true) (wi : (Jvm.Cond.instantiable K kn).before a0 Z = true) (h1 : C ≠ K) (h2 : S ≠ K) : ∃ c t, Z.vm.findClass C = some c ∧ Z.vm.findClass K = some t ∧ Z.vm.assignable c t = false := by
  obtain ⟨t, k, g0, g2, g5, g7⟩ : ∃ t k, Z.vm.findClass K = some t ∧ Z.vm.classes[t]? = some k ∧ k.kind = .ordinary ∧ k.isInterface = false := by
    cases hf : Z.vm.findClass K with
    | none => simp [Jvm.Cond.before, Jvm.Cond.holds, Jvm.Cond.value, hf] at wi
    | some t =>
      cases hk : Z.vm.classes[t]? with
      | none => simp [Jvm.Cond.before, Jvm.Cond.holds, Jvm.Cond.value, hf, hk] at wi
      | some k =>
        simp [Jvm.Cond.before, Jvm.Cond.holds, Jvm.Cond.value, hf, hk] at wi
        exact ⟨t, k, rfl, hk, wi.1.1.1, wi.1.1.2.1⟩
  obtain ⟨c, h0⟩ := found_sup w
  obtain ⟨p, kc, kp, e1, e2, e3, e4, e5, -, e7⟩ := Cond.superclass_spec h0 w
  obtain ⟨c', k', f1, f2, f3, -, -⟩ := Cond.noSuperclass_spec wn
  cases e1.symm.trans f1
  have ne := ids_ne h0 g0 h1
  have ne2 := ids_ne f1 g0 h2
  have n3 : ∀ fuel, Z.vm.isSubclassAux fuel c t = false := by
    intro fuel
    cases fuel with
    | zero => rfl
    | succ f =>
      simp [Vm.isSubclassAux, ne, e2, e4]
      cases f with
      | zero => rfl
      | succ f => simp [Vm.isSubclassAux, ne2, f2, f3]
  refine ⟨c, t, h0, g0, ?_⟩
  show Z.vm.assignableAux (255 + 1) c t = false
  simp [Vm.assignableAux, ne, e2, g2, e5, g5, g7, Vm.isSubclass, n3]
theorem ef_rmEqS (m : MethodId) (x0 : Addr) (x1 : Addr) : entryFrame m #[(.ref x0), (.ref x1)] 2 = mkF m 0 #[.val (.ref x0), .val (.ref x1)] [] := by first | (simp [entryFrame, mkF, argsToLocals, Value.category]; done) | rfl
def QEqS (Z : State) (r0 : Addr) (r1 : Addr) (h0 : Heap) (n0 : Nat) (v : Option Value) (h : Heap) (L : List Loc) : Prop := v = some (.int 0) ∧ Fr n0 L ∧ h = h0
set_option maxRecDepth 65536 in
set_option maxHeartbeats 40000000 in
theorem rmEqS (l : Launch) (Z : State) (a0 : Array Value) (hw : ∀ d ∈ tables_1, d.before a0 Z = true) (ws : List Jvm.Cond) (r0 : Addr) (r1 : Addr) (h0 : Heap) (n0 : Nat) (Z0 : n0 ≤ h0.size) (E2 : Exa Z h0 r1 "java/lang/String") :
    MetFree l (⟨"com/example/prudent_annotator/prudentannotator/profile/FileChecksum", "equals", "(Ljava/lang/Object;)Z"⟩ : MethodName) (head1 (Jvm.Cond.code (⟨"com/example/prudent_annotator/prudentannotator/profile/FileChecksum", "equals", "(Ljava/lang/Object;)Z"⟩ : MethodName) prog_53_method_8_code 2 (some .boolean) :: ws) ({ frames := 0, cells := 0, slots := 0, locals := 0 } : Room)) (fun a U => a = #[(.ref r0), (.ref r1)] ∧ Z.Warmed39 U.vm ∧ U.heap = h0) (fun _ _ _ _ _ => True) (fun _ U o U' => ∃ v L, o = .returned v ∧ QEqS Z r0 r1 h0 n0 v U'.heap L ∧ FrameEnd U o U' L ({ frames := 0, cells := 0, slots := 0, locals := 0 } : Room).cells ({ frames := 0, cells := 0, slots := 0, locals := 0 } : Room).slots) := by
  refine MetFree.of_bodySF (plainFor_of_name pn_14) hisR ?_
  intro p e s m args below meth c s₁ Bd hml0 hP hK
  obtain ⟨rfl, hZ, hh⟩ := hP
  have hx := Bd.exec
  have hby := Bd.bytes
  have hml : c.maxLocals = 2 := hml0
  have hown : s.vm.findClass "com/example/prudent_annotator/prudentannotator/profile/FileChecksum" = some m.cls := findClass_of_methodNamed Bd.named
  have hnm := (name_of_methodNamed Bd.named Bd.method).1
  have X0 : Stand p l e ({ frames := 0, cells := 0, slots := 0, locals := 0 } : Room) s m #[(.ref r0), (.ref r1)] below meth c s₁ [] 0 0 := Stand.of_body Bd
  have e0 : s₁.heap = h0 := by rw [← hh, Bd.state]; rfl
  have N0 := Fr.nil n0
  refine own_open fun G hG => ?_
  refine own_go (B := s₁.setTop (mkF m 0 #[.val (.ref r0), .val (.ref r1)] [])) (fun t_ k_ => castTop (ef_rmEqS m r0 r1) k_) ?_
  refine own_go (B := s₁.setTop (mkF m 1 #[.val (.ref r0), .val (.ref r1)] [(.ref r1)])) (fun t_ k_ => ?_) ?_
  · show Steps p.tables e below (s₁.setTop (mkF m 0 #[.val (.ref r0), .val (.ref r1)] [])) _
    refine XS.aloadN X0.here hx rfl (hb hby d14_0) rfl rfl ?_
    show Steps p.tables e below (s₁.setTop (mkF m 1 #[.val (.ref r0), .val (.ref r1)] [(.ref r1)])) _
    exact k_
  obtain ⟨T227, X227, e227, st227⟩ := instNo X0 hx hZ hown (hw _ (List.mem_of_getElem? (i := 72) rfl)) e0 E2 (own_notsub (hw _ (List.mem_of_getElem? (i := 84) rfl)) (hw _ (List.mem_of_getElem? (i := 85) rfl)) (hw _ (List.mem_of_getElem? (i := 47) rfl)) (by decide) (by decide)) (g := (mkF m 1 #[.val (.ref r0), .val (.ref r1)] [(.ref r1)])) rfl rfl (hb hby d14_1)
  refine own_go (B := T227.setTop (mkF m 4 #[.val (.ref r0), .val (.ref r1)] [(.int (0 : Int32))])) (fun t_ k_ => st227 _ k_) ?_
  refine own_go (B := T227.setTop (mkF m 46 #[.val (.ref r0), .val (.ref r1)] [(.int (0 : Int32))])) (fun t_ k_ => ?_) ?_
  · show Steps p.tables e below (T227.setTop (mkF m 4 #[.val (.ref r0), .val (.ref r1)] [(.int (0 : Int32))])) _
    refine XS.ifYes X227.here hx rfl (pc0 := 4) (pc' := 45) rfl (hb hby d14_4) rfl ((if0 _ _).trans (teq (by decide : (0 : Int32) = (0 : Int32))).1) (by decide) (by decide) ?_
    show Steps p.tables e below (T227.setTop (mkF m 45 #[.val (.ref r0), .val (.ref r1)] [])) _
    refine XS.iconst X227.here hx rfl (hb hby d14_45) ?_
    show Steps p.tables e below (T227.setTop (mkF m 46 #[.val (.ref r0), .val (.ref r1)] [(.int (0 : Int32))])) _
    exact k_
  obtain ⟨fs, hr, hrun, hended, hW, hsame⟩ := X227.leave (v := some (.int (0 : Int32))) (fun h => by rw [Bd.returns] at h; cases h)
  refine own_at ?_ (hG _ _ ⟨hrun, hended, _, _, rfl, ?_, ⟨_, rfl⟩, hW, hsame.mono (by decide) (by decide)⟩)
  · show Steps p.tables e below (T227.setTop (mkF m 46 #[.val (.ref r0), .val (.ref r1)] [(.int (0 : Int32))])) _
    exact retN X227 hx (t := .boolean) Bd.returns (by simp) (hb hby d14_46) hr
  · show QEqS Z r0 r1 h0 n0 _ T227.heap _
    rw [e227]
    exact ⟨rfl, N0, rfl⟩
theorem pn_0 : plainName "com/example/prudent_annotator/prudentannotator/profile/FileChecksumEqualsPinLaw" = true := by first | (simp [plainName, overriddenIn]; done) | decide +kernel
theorem ef_rm0 (m : MethodId) (x0 : Int32) (x1 : Int32) (x2 : Int32) (x3 : Int32) (x4 : Int32) : entryFrame m #[(.int x0), (.int x1), (.int x2), (.int x3), (.int x4)] maxLocals = mkF m 0 #[.val (.int x0), .val (.int x1), .val (.int x2), .val (.int x3), .val (.int x4), .unset, .unset, .unset, .unset, .unset, .unset, .unset, .unset, .unset] [] := by first | (simp [entryFrame, mkF, argsToLocals, Value.category, maxLocals]; done) | rfl
def Q0 (Z : State) (p0 : Int32) (p1 : Int32) (p2 : Int32) (p3 : Int32) (p4 : Int32) (z : Int32) (h0 : Heap) (n0 : Nat) (v : Option Value) (h : Heap) (L : List Loc) : Prop := v = some (.int 1) ∧ Fr n0 L
set_option maxRecDepth 65536 in
set_option maxHeartbeats 40000000 in
theorem rm0 (l : Launch) (Z : State) (a0 : Array Value) (hw : ∀ d ∈ tables_1, d.before a0 Z = true) (ws : List Jvm.Cond) (p0 : Int32) (p1 : Int32) (p2 : Int32) (p3 : Int32) (p4 : Int32) (z : Int32) (h0 : Heap) (n0 : Nat) (Z0 : n0 ≤ h0.size) (hEL : EW Z a0 own_EL) (O0 : Old Z n0 h0) (S0 : Sta Z Z.heap "java/lang/String" "COMPACT_STRINGS" "Z" (.int z)) (hz : ¬ z = 0) :
    MetFree l x (head1 (Jvm.Cond.code x code maxLocals ret :: ws) room_1) (fun a U => a = #[(.int p0), (.int p1), (.int p2), (.int p3), (.int p4)] ∧ Z.Warmed39 U.vm ∧ U.heap = h0 ∧ CHv Z own_EL U.vm h0) (fun _ _ _ _ _ => True) (fun _ U o U' => ∃ v L, o = .returned v ∧ Q0 Z p0 p1 p2 p3 p4 z h0 n0 v U'.heap L ∧ CHr Z own_EL U.vm U.heap U'.vm U'.heap ∧ ReturnedEndW U o U' L room_1.cells room_1.slots) := by
  refine MetFree.of_bodySF (plainFor_of_name pn_0) hisR ?_
  intro p e s m args below meth c s₁ Bd hml0 hP hK
  obtain ⟨rfl, hZ, hh, hCH⟩ := hP
  have hx := Bd.exec
  have hby := Bd.bytes
  have hml : c.maxLocals = 14 := hml0
  have hown : s.vm.findClass "com/example/prudent_annotator/prudentannotator/profile/FileChecksumEqualsPinLaw" = some m.cls := findClass_of_methodNamed Bd.named
  have hnm := (name_of_methodNamed Bd.named Bd.method).1
  have X0 : Stand p l e room_1 (s.setVm s.vm) m #[(.int p0), (.int p1), (.int p2), (.int p3), (.int p4)] below meth c s₁ [] 0 0 := Stand.of_body Bd
  have e0 : s₁.heap = h0 := by rw [← hh, Bd.state]; rfl
  have N0 := Fr.nil n0
  refine own_open fun G hG => ?_
  refine own_go (B := s₁.setTop (mkF m 0 #[.val (.int p0), .val (.int p1), .val (.int p2), .val (.int p3), .val (.int p4), .unset, .unset, .unset, .unset, .unset, .unset, .unset, .unset, .unset] [])) (fun t_ k_ => castTop (ef_rm0 m p0 p1 p2 p3 p4) k_) ?_
  have wS : ∀ d ∈ Bundle.stringAtoms, d.before a0 Z = true := fun d hd => hw d ((by decide +kernel : ∀ d ∈ Bundle.stringAtoms, d ∈ tables_1) d hd)
  have CR0 : CHr Z own_EL s.vm h0 s.vm h0 := CHr.refl hCH
  refine own_go (B := s₁.setTop (mkF m 1 #[.val (.int p0), .val (.int p1), .val (.int p2), .val (.int p3), .val (.int p4), .unset, .unset, .unset, .unset, .unset, .unset, .unset, .unset, .unset] [(.int p1)])) (fun t_ k_ => ?_) ?_
  · show Steps p.tables e below (s₁.setTop (mkF m 0 #[.val (.int p0), .val (.int p1), .val (.int p2), .val (.int p3), .val (.int p4), .unset, .unset, .unset, .unset, .unset, .unset, .unset, .unset, .unset] [])) _
    refine XS.iloadN X0.here hx rfl (hb hby at_0) rfl ?_
    show Steps p.tables e below (s₁.setTop (mkF m 1 #[.val (.int p0), .val (.int p1), .val (.int p2), .val (.int p3), .val (.int p4), .unset, .unset, .unset, .unset, .unset, .unset, .unset, .unset, .unset] [(.int p1)])) _
    exact k_
  obtain ⟨_, _, ⟨T229, L229, k229, n229⟩, -, X229, Sn229, gr229, ⟨Lc229, hQ229, l229, y229, z229, C229⟩, st229⟩ := callSS X0 hx (y := (⟨"com/example/prudent_annotator/prudentannotator/profile/FileChecksumEqualsPinLaw", "mk", "(I)Ljava/lang/String;"⟩ : MethodName)) hown (mvT hZ (hw _ (List.mem_of_getElem? (i := 0) rfl))) (mvT hZ (hw _ (List.mem_of_getElem? (i := 1) rfl))) (mvT hZ (hw _ (List.mem_of_getElem? (i := 2) rfl))) (mvT hZ (hw _ (List.mem_of_getElem? (i := 3) rfl))) (by decide) (backOfSH (s := s) (vm0 := s.vm) (W := 0) (rm1 l Z a0 hw [] p1 z h0 n0 Z0 hEL O0 S0 hz) hZ (hw _ (List.mem_of_getElem? (i := 3) rfl)) (hw _ (List.mem_of_getElem? (i := 2) rfl)) (by decide) (by decide) hEL CR0.1) (g := (mkF m 1 #[.val (.int p0), .val (.int p1), .val (.int p2), .val (.int p3), .val (.int p4), .unset, .unset, .unset, .unset, .unset, .unset, .unset, .unset, .unset] [(.int p1)])) rfl (by rw [hml]; rfl) (argsL := [(.int p1)]) (rest := []) (lenOf pd__28_I_29_Ljava_2f_lang_2f_String_3b_ rfl) rfl (by show 2 * 0 + _ ≤ _; exact Nat.le_of_eq rfl) (hb hby at_1) (fun _ _ => ⟨rfl, e0, (by decide : 0 + 6 ≤ _), (by decide : 0 + 14 ≤ _)⟩)
  dsimp only [Pt.U, Pt.locs, Pt.cells, Pt.slots] at X229 Sn229 gr229 l229 y229 z229 st229 hQ229 C229
  subst l229 y229 z229
  obtain ⟨X229r, hS229, hZ229, hown229⟩ := rebS (s := s) (vm0 := s.vm) (State.WarmedH.since (State.WarmedH.refl s) 0) (Nat.zero_le _) X229 Sn229 gr229 hZ hown
  have hkr229 : T229.heap.size ≤ T229.heap.size := Nat.le_refl _
  have f230 : CHr Z own_EL s.vm h0 T229.vm T229.heap := CR0.trans C229
  obtain ⟨c229, t229, kb229, rfl, N229q, K229, Ex229, Fc229, Fv229, Va229⟩ := hQ229
  have N229 := Fr.app N0 N229q
  have hk231 : _ ≤ T229.heap.size := Nat.le_trans (Nat.zero_le _) K229.1
  have f232 : Old Z n0 T229.heap := O0.keep K229 all0
  have Z229 : n0 ≤ T229.heap.size := Nat.le_trans Z0 K229.1
  refine own_go (B := T229.setTop (mkF m 4 #[.val (.int p0), .val (.int p1), .val (.int p2), .val (.int p3), .val (.int p4), .unset, .unset, .unset, .unset, .unset, .unset, .unset, .unset, .unset] [(.ref c229)])) (fun t_ k_ => st229.trans k_) ?_
  refine own_go (B := T229.setTop (mkF m 7 #[.val (.int p0), .val (.int p1), .val (.int p2), .val (.int p3), .val (.int p4), .val (.ref c229), .unset, .unset, .unset, .unset, .unset, .unset, .unset, .unset] [(.int p2)])) (fun t_ k_ => ?_) ?_
  · show Steps p.tables e below (T229.setTop (mkF m 4 #[.val (.int p0), .val (.int p1), .val (.int p2), .val (.int p3), .val (.int p4), .unset, .unset, .unset, .unset, .unset, .unset, .unset, .unset, .unset] [(.ref c229)])) _
    refine XS.astore X229r.here hx rfl (hb hby at_4) rfl rfl (l' := #[.val (.int p0), .val (.int p1), .val (.int p2), .val (.int p3), .val (.int p4), .val (.ref c229), .unset, .unset, .unset, .unset, .unset, .unset, .unset, .unset]) rfl ?_
    show Steps p.tables e below (T229.setTop (mkF m 6 #[.val (.int p0), .val (.int p1), .val (.int p2), .val (.int p3), .val (.int p4), .val (.ref c229), .unset, .unset, .unset, .unset, .unset, .unset, .unset, .unset] [])) _
    refine XS.iloadN X229r.here hx rfl (hb hby at_6) rfl ?_
    show Steps p.tables e below (T229.setTop (mkF m 7 #[.val (.int p0), .val (.int p1), .val (.int p2), .val (.int p3), .val (.int p4), .val (.ref c229), .unset, .unset, .unset, .unset, .unset, .unset, .unset, .unset] [(.int p2)])) _
    exact k_
  obtain ⟨_, _, ⟨T233, L233, k233, n233⟩, -, X233, Sn233, gr233, ⟨Lc233, hQ233, l233, y233, z233, C233⟩, st233⟩ := callSS X229r hx (y := (⟨"com/example/prudent_annotator/prudentannotator/profile/FileChecksumEqualsPinLaw", "mk", "(I)Ljava/lang/String;"⟩ : MethodName)) hown229 (mvT hZ229 (hw _ (List.mem_of_getElem? (i := 0) rfl))) (mvT hZ229 (hw _ (List.mem_of_getElem? (i := 1) rfl))) (mvT hZ229 (hw _ (List.mem_of_getElem? (i := 2) rfl))) (mvT hZ229 (hw _ (List.mem_of_getElem? (i := 3) rfl))) (by decide) (backOfSH (s := s) (vm0 := T229.vm) (W := 0) (rm1 l Z a0 hw [] p2 z T229.heap n0 Z229 hEL f232 S0 hz) hZ229 (hw _ (List.mem_of_getElem? (i := 3) rfl)) (hw _ (List.mem_of_getElem? (i := 2) rfl)) (by decide) (by decide) hEL f230.1) (g := (mkF m 7 #[.val (.int p0), .val (.int p1), .val (.int p2), .val (.int p3), .val (.int p4), .val (.ref c229), .unset, .unset, .unset, .unset, .unset, .unset, .unset, .unset] [(.int p2)])) rfl (by rw [hml]; rfl) (argsL := [(.int p2)]) (rest := []) (lenOf pd__28_I_29_Ljava_2f_lang_2f_String_3b_ rfl) rfl (by show 2 * 0 + _ ≤ _; exact Nat.le_of_eq rfl) (hb hby at_7) (fun _ _ => ⟨rfl, rfl, (by decide : 6 + 6 ≤ _), (by decide : 14 + 14 ≤ _)⟩)
  dsimp only [Pt.U, Pt.locs, Pt.cells, Pt.slots] at X233 Sn233 gr233 l233 y233 z233 st233 hQ233 C233
  subst l233 y233 z233
  obtain ⟨X233r, hS233, hZ233, hown233⟩ := rebS (s := s) (vm0 := T229.vm) hS229 hkr229 X233 Sn233 gr233 hZ229 hown229
  have hkr233 : T233.heap.size ≤ T233.heap.size := Nat.le_refl _
  have f234 : CHr Z own_EL s.vm h0 T233.vm T233.heap := f230.trans C233
  obtain ⟨c233, t233, kb233, rfl, N233q, K233, Ex233, Fc233, Fv233, Va233⟩ := hQ233
  have N233 := Fr.app N229 N233q
  have hk235 : _ ≤ T233.heap.size := Nat.le_trans hkr229 K233.1
  have f236 : Old Z n0 T233.heap := f232.keep K233 all0
  have f237 : Exa Z T233.heap c229 "java/lang/String" := Ex229.keep K233
  have f238 : Fld Z T233.heap c229 "java/lang/String" "coder" "B" (.int 0) := Fc229.keep K233 nin0
  have f239 : Fld Z T233.heap c229 "java/lang/String" "value" "[B" (.ref t229) := Fv229.keep K233 nin0
  have f240 : Arv Z T233.heap t229 kb229 .byte (Int32.ofNat (own_cs p1).length) (own_bv p1) (.int 0) := Va229.keep K233 nin0
  have Z233 : n0 ≤ T233.heap.size := Nat.le_trans Z229 K233.1
  refine own_go (B := T233.setTop (mkF m 10 #[.val (.int p0), .val (.int p1), .val (.int p2), .val (.int p3), .val (.int p4), .val (.ref c229), .unset, .unset, .unset, .unset, .unset, .unset, .unset, .unset] [(.ref c233)])) (fun t_ k_ => st233.trans k_) ?_
  refine own_go (B := T233.setTop (mkF m 13 #[.val (.int p0), .val (.int p1), .val (.int p2), .val (.int p3), .val (.int p4), .val (.ref c229), .val (.ref c233), .unset, .unset, .unset, .unset, .unset, .unset, .unset] [(.int p3)])) (fun t_ k_ => ?_) ?_
  · show Steps p.tables e below (T233.setTop (mkF m 10 #[.val (.int p0), .val (.int p1), .val (.int p2), .val (.int p3), .val (.int p4), .val (.ref c229), .unset, .unset, .unset, .unset, .unset, .unset, .unset, .unset] [(.ref c233)])) _
    refine XS.astore X233r.here hx rfl (hb hby at_10) rfl rfl (l' := #[.val (.int p0), .val (.int p1), .val (.int p2), .val (.int p3), .val (.int p4), .val (.ref c229), .val (.ref c233), .unset, .unset, .unset, .unset, .unset, .unset, .unset]) rfl ?_
    show Steps p.tables e below (T233.setTop (mkF m 12 #[.val (.int p0), .val (.int p1), .val (.int p2), .val (.int p3), .val (.int p4), .val (.ref c229), .val (.ref c233), .unset, .unset, .unset, .unset, .unset, .unset, .unset] [])) _
    refine XS.iloadN X233r.here hx rfl (hb hby at_12) rfl ?_
    show Steps p.tables e below (T233.setTop (mkF m 13 #[.val (.int p0), .val (.int p1), .val (.int p2), .val (.int p3), .val (.int p4), .val (.ref c229), .val (.ref c233), .unset, .unset, .unset, .unset, .unset, .unset, .unset] [(.int p3)])) _
    exact k_
  obtain ⟨_, _, ⟨T241, L241, k241, n241⟩, -, X241, Sn241, gr241, ⟨Lc241, hQ241, l241, y241, z241, C241⟩, st241⟩ := callSS X233r hx (y := (⟨"com/example/prudent_annotator/prudentannotator/profile/FileChecksumEqualsPinLaw", "mk", "(I)Ljava/lang/String;"⟩ : MethodName)) hown233 (mvT hZ233 (hw _ (List.mem_of_getElem? (i := 0) rfl))) (mvT hZ233 (hw _ (List.mem_of_getElem? (i := 1) rfl))) (mvT hZ233 (hw _ (List.mem_of_getElem? (i := 2) rfl))) (mvT hZ233 (hw _ (List.mem_of_getElem? (i := 3) rfl))) (by decide) (backOfSH (s := s) (vm0 := T233.vm) (W := 0) (rm1 l Z a0 hw [] p3 z T233.heap n0 Z233 hEL f236 S0 hz) hZ233 (hw _ (List.mem_of_getElem? (i := 3) rfl)) (hw _ (List.mem_of_getElem? (i := 2) rfl)) (by decide) (by decide) hEL f234.1) (g := (mkF m 13 #[.val (.int p0), .val (.int p1), .val (.int p2), .val (.int p3), .val (.int p4), .val (.ref c229), .val (.ref c233), .unset, .unset, .unset, .unset, .unset, .unset, .unset] [(.int p3)])) rfl (by rw [hml]; rfl) (argsL := [(.int p3)]) (rest := []) (lenOf pd__28_I_29_Ljava_2f_lang_2f_String_3b_ rfl) rfl (by show 2 * 0 + _ ≤ _; exact Nat.le_of_eq rfl) (hb hby at_13) (fun _ _ => ⟨rfl, rfl, (by decide : 12 + 6 ≤ _), (by decide : 28 + 14 ≤ _)⟩)
  dsimp only [Pt.U, Pt.locs, Pt.cells, Pt.slots] at X241 Sn241 gr241 l241 y241 z241 st241 hQ241 C241
  subst l241 y241 z241
  obtain ⟨X241r, hS241, hZ241, hown241⟩ := rebS (s := s) (vm0 := T233.vm) hS233 hkr233 X241 Sn241 gr241 hZ233 hown233
  have hkr241 : T241.heap.size ≤ T241.heap.size := Nat.le_refl _
  have f242 : CHr Z own_EL s.vm h0 T241.vm T241.heap := f234.trans C241
  obtain ⟨c241, t241, kb241, rfl, N241q, K241, Ex241, Fc241, Fv241, Va241⟩ := hQ241
  have N241 := Fr.app N233 N241q
  have hk243 : _ ≤ T241.heap.size := Nat.le_trans hkr233 K241.1
  have f244 : Old Z n0 T241.heap := f236.keep K241 all0
  have f245 : Exa Z T241.heap c229 "java/lang/String" := f237.keep K241
  have f246 : Fld Z T241.heap c229 "java/lang/String" "coder" "B" (.int 0) := f238.keep K241 nin0
  have f247 : Fld Z T241.heap c229 "java/lang/String" "value" "[B" (.ref t229) := f239.keep K241 nin0
  have f248 : Arv Z T241.heap t229 kb229 .byte (Int32.ofNat (own_cs p1).length) (own_bv p1) (.int 0) := f240.keep K241 nin0
  have f249 : Exa Z T241.heap c233 "java/lang/String" := Ex233.keep K241
  have f250 : Fld Z T241.heap c233 "java/lang/String" "coder" "B" (.int 0) := Fc233.keep K241 nin0
  have f251 : Fld Z T241.heap c233 "java/lang/String" "value" "[B" (.ref t233) := Fv233.keep K241 nin0
  have f252 : Arv Z T241.heap t233 kb233 .byte (Int32.ofNat (own_cs p2).length) (own_bv p2) (.int 0) := Va233.keep K241 nin0
  have Z241 : n0 ≤ T241.heap.size := Nat.le_trans Z233 K241.1
  refine own_go (B := T241.setTop (mkF m 16 #[.val (.int p0), .val (.int p1), .val (.int p2), .val (.int p3), .val (.int p4), .val (.ref c229), .val (.ref c233), .unset, .unset, .unset, .unset, .unset, .unset, .unset] [(.ref c241)])) (fun t_ k_ => st241.trans k_) ?_
  refine own_go (B := T241.setTop (mkF m 20 #[.val (.int p0), .val (.int p1), .val (.int p2), .val (.int p3), .val (.int p4), .val (.ref c229), .val (.ref c233), .val (.ref c241), .unset, .unset, .unset, .unset, .unset, .unset] [(.int p4)])) (fun t_ k_ => ?_) ?_
  · show Steps p.tables e below (T241.setTop (mkF m 16 #[.val (.int p0), .val (.int p1), .val (.int p2), .val (.int p3), .val (.int p4), .val (.ref c229), .val (.ref c233), .unset, .unset, .unset, .unset, .unset, .unset, .unset] [(.ref c241)])) _
    refine XS.astore X241r.here hx rfl (hb hby at_16) rfl rfl (l' := #[.val (.int p0), .val (.int p1), .val (.int p2), .val (.int p3), .val (.int p4), .val (.ref c229), .val (.ref c233), .val (.ref c241), .unset, .unset, .unset, .unset, .unset, .unset]) rfl ?_
    show Steps p.tables e below (T241.setTop (mkF m 18 #[.val (.int p0), .val (.int p1), .val (.int p2), .val (.int p3), .val (.int p4), .val (.ref c229), .val (.ref c233), .val (.ref c241), .unset, .unset, .unset, .unset, .unset, .unset] [])) _
    refine XS.iload X241r.here hx rfl (hb hby at_18) rfl ?_
    show Steps p.tables e below (T241.setTop (mkF m 20 #[.val (.int p0), .val (.int p1), .val (.int p2), .val (.int p3), .val (.int p4), .val (.ref c229), .val (.ref c233), .val (.ref c241), .unset, .unset, .unset, .unset, .unset, .unset] [(.int p4)])) _
    exact k_
  obtain ⟨_, _, ⟨T253, L253, k253, n253⟩, -, X253, Sn253, gr253, ⟨Lc253, hQ253, l253, y253, z253, C253⟩, st253⟩ := callSS X241r hx (y := (⟨"com/example/prudent_annotator/prudentannotator/profile/FileChecksumEqualsPinLaw", "mk", "(I)Ljava/lang/String;"⟩ : MethodName)) hown241 (mvT hZ241 (hw _ (List.mem_of_getElem? (i := 0) rfl))) (mvT hZ241 (hw _ (List.mem_of_getElem? (i := 1) rfl))) (mvT hZ241 (hw _ (List.mem_of_getElem? (i := 2) rfl))) (mvT hZ241 (hw _ (List.mem_of_getElem? (i := 3) rfl))) (by decide) (backOfSH (s := s) (vm0 := T241.vm) (W := 0) (rm1 l Z a0 hw [] p4 z T241.heap n0 Z241 hEL f244 S0 hz) hZ241 (hw _ (List.mem_of_getElem? (i := 3) rfl)) (hw _ (List.mem_of_getElem? (i := 2) rfl)) (by decide) (by decide) hEL f242.1) (g := (mkF m 20 #[.val (.int p0), .val (.int p1), .val (.int p2), .val (.int p3), .val (.int p4), .val (.ref c229), .val (.ref c233), .val (.ref c241), .unset, .unset, .unset, .unset, .unset, .unset] [(.int p4)])) rfl (by rw [hml]; rfl) (argsL := [(.int p4)]) (rest := []) (lenOf pd__28_I_29_Ljava_2f_lang_2f_String_3b_ rfl) rfl (by show 2 * 0 + _ ≤ _; exact Nat.le_of_eq rfl) (hb hby at_20) (fun _ _ => ⟨rfl, rfl, (by decide : 18 + 6 ≤ _), (by decide : 42 + 14 ≤ _)⟩)
  dsimp only [Pt.U, Pt.locs, Pt.cells, Pt.slots] at X253 Sn253 gr253 l253 y253 z253 st253 hQ253 C253
  subst l253 y253 z253
  obtain ⟨X253r, hS253, hZ253, hown253⟩ := rebS (s := s) (vm0 := T241.vm) hS241 hkr241 X253 Sn253 gr253 hZ241 hown241
  have hkr253 : T253.heap.size ≤ T253.heap.size := Nat.le_refl _
  have f254 : CHr Z own_EL s.vm h0 T253.vm T253.heap := f242.trans C253
  obtain ⟨c253, t253, kb253, rfl, N253q, K253, Ex253, Fc253, Fv253, Va253⟩ := hQ253
  have N253 := Fr.app N241 N253q
  have hk255 : _ ≤ T253.heap.size := Nat.le_trans hkr241 K253.1
  have f256 : Old Z n0 T253.heap := f244.keep K253 all0
  have f257 : Exa Z T253.heap c229 "java/lang/String" := f245.keep K253
  have f258 : Fld Z T253.heap c229 "java/lang/String" "coder" "B" (.int 0) := f246.keep K253 nin0
  have f259 : Fld Z T253.heap c229 "java/lang/String" "value" "[B" (.ref t229) := f247.keep K253 nin0
  have f260 : Arv Z T253.heap t229 kb229 .byte (Int32.ofNat (own_cs p1).length) (own_bv p1) (.int 0) := f248.keep K253 nin0
  have f261 : Exa Z T253.heap c233 "java/lang/String" := f249.keep K253
  have f262 : Fld Z T253.heap c233 "java/lang/String" "coder" "B" (.int 0) := f250.keep K253 nin0
  have f263 : Fld Z T253.heap c233 "java/lang/String" "value" "[B" (.ref t233) := f251.keep K253 nin0
  have f264 : Arv Z T253.heap t233 kb233 .byte (Int32.ofNat (own_cs p2).length) (own_bv p2) (.int 0) := f252.keep K253 nin0
  have f265 : Exa Z T253.heap c241 "java/lang/String" := Ex241.keep K253
  have f266 : Fld Z T253.heap c241 "java/lang/String" "coder" "B" (.int 0) := Fc241.keep K253 nin0
  have f267 : Fld Z T253.heap c241 "java/lang/String" "value" "[B" (.ref t241) := Fv241.keep K253 nin0
  have f268 : Arv Z T253.heap t241 kb241 .byte (Int32.ofNat (own_cs p3).length) (own_bv p3) (.int 0) := Va241.keep K253 nin0
  have Z253 : n0 ≤ T253.heap.size := Nat.le_trans Z241 K253.1
  refine own_go (B := T253.setTop (mkF m 23 #[.val (.int p0), .val (.int p1), .val (.int p2), .val (.int p3), .val (.int p4), .val (.ref c229), .val (.ref c233), .val (.ref c241), .unset, .unset, .unset, .unset, .unset, .unset] [(.ref c253)])) (fun t_ k_ => st253.trans k_) ?_
  refine own_go (B := T253.setTop (mkF m 25 #[.val (.int p0), .val (.int p1), .val (.int p2), .val (.int p3), .val (.int p4), .val (.ref c229), .val (.ref c233), .val (.ref c241), .val (.ref c253), .unset, .unset, .unset, .unset, .unset] [])) (fun t_ k_ => ?_) ?_
  · show Steps p.tables e below (T253.setTop (mkF m 23 #[.val (.int p0), .val (.int p1), .val (.int p2), .val (.int p3), .val (.int p4), .val (.ref c229), .val (.ref c233), .val (.ref c241), .unset, .unset, .unset, .unset, .unset, .unset] [(.ref c253)])) _
    refine XS.astore X253r.here hx rfl (hb hby at_23) rfl rfl (l' := #[.val (.int p0), .val (.int p1), .val (.int p2), .val (.int p3), .val (.int p4), .val (.ref c229), .val (.ref c233), .val (.ref c241), .val (.ref c253), .unset, .unset, .unset, .unset, .unset]) rfl ?_
    show Steps p.tables e below (T253.setTop (mkF m 25 #[.val (.int p0), .val (.int p1), .val (.int p2), .val (.int p3), .val (.int p4), .val (.ref c229), .val (.ref c233), .val (.ref c241), .val (.ref c253), .unset, .unset, .unset, .unset, .unset] [])) _
    exact k_
  obtain ⟨T269, h269, X269, e269, E269, A269, D269, U269, st269⟩ := newO X253r hx hZ253 hown253 (hw _ (List.mem_of_getElem? (i := 46) rfl)) (hw _ (List.mem_of_getElem? (i := 47) rfl)) (hw _ (List.mem_of_getElem? (i := 48) rfl)) rfl (g := (mkF m 25 #[.val (.int p0), .val (.int p1), .val (.int p2), .val (.int p3), .val (.int p4), .val (.ref c229), .val (.ref c233), .val (.ref c241), .val (.ref c253), .unset, .unset, .unset, .unset, .unset] [])) rfl (hb hby at_25) (by decide) (by decide)
  obtain ⟨b269, g269⟩ : ∃ z, z = T253.heap.size := ⟨_, rfl⟩
  rw [← g269] at A269 D269 U269 st269
  have g_b269 : n0 ≤ b269 := Nat.le_trans Z253 (Nat.le_of_eq g269.symm)
  have ne_c229_b269 : c229 ≠ b269 := Nat.ne_of_lt (Nat.lt_of_lt_of_le f257.lt (Nat.le_of_eq g269.symm))
  have ne_t229_b269 : t229 ≠ b269 := Nat.ne_of_lt (Nat.lt_of_lt_of_le f260.lt (Nat.le_of_eq g269.symm))
  have ne_c233_b269 : c233 ≠ b269 := Nat.ne_of_lt (Nat.lt_of_lt_of_le f261.lt (Nat.le_of_eq g269.symm))
  have ne_t233_b269 : t233 ≠ b269 := Nat.ne_of_lt (Nat.lt_of_lt_of_le f264.lt (Nat.le_of_eq g269.symm))
  have ne_c241_b269 : c241 ≠ b269 := Nat.ne_of_lt (Nat.lt_of_lt_of_le f265.lt (Nat.le_of_eq g269.symm))
  have ne_t241_b269 : t241 ≠ b269 := Nat.ne_of_lt (Nat.lt_of_lt_of_le f268.lt (Nat.le_of_eq g269.symm))
  have ne_c253_b269 : c253 ≠ b269 := Nat.ne_of_lt (Nat.lt_of_lt_of_le Ex253.lt (Nat.le_of_eq g269.symm))
  have ne_t253_b269 : t253 ≠ b269 := Nat.ne_of_lt (Nat.lt_of_lt_of_le Va253.lt (Nat.le_of_eq g269.symm))
  have f270 : CHr Z own_EL s.vm h0 T253.vm h269 := f254.trans (CHr.ext E269 f254.1)
  have hk271 : _ ≤ h269.size := Nat.le_trans hkr253 E269.1
  have f272 : Old Z n0 h269 := f256.ext E269
  have f273 : Exa Z h269 c229 "java/lang/String" := f257.ext E269
  have f274 : Fld Z h269 c229 "java/lang/String" "coder" "B" (.int 0) := f258.ext E269
  have f275 : Fld Z h269 c229 "java/lang/String" "value" "[B" (.ref t229) := f259.ext E269
  have f276 : Arv Z h269 t229 kb229 .byte (Int32.ofNat (own_cs p1).length) (own_bv p1) (.int 0) := f260.ext E269
  have f277 : Exa Z h269 c233 "java/lang/String" := f261.ext E269
  have f278 : Fld Z h269 c233 "java/lang/String" "coder" "B" (.int 0) := f262.ext E269
  have f279 : Fld Z h269 c233 "java/lang/String" "value" "[B" (.ref t233) := f263.ext E269
  have f280 : Arv Z h269 t233 kb233 .byte (Int32.ofNat (own_cs p2).length) (own_bv p2) (.int 0) := f264.ext E269
  have f281 : Exa Z h269 c241 "java/lang/String" := f265.ext E269
  have f282 : Fld Z h269 c241 "java/lang/String" "coder" "B" (.int 0) := f266.ext E269
  have f283 : Fld Z h269 c241 "java/lang/String" "value" "[B" (.ref t241) := f267.ext E269
  have f284 : Arv Z h269 t241 kb241 .byte (Int32.ofNat (own_cs p3).length) (own_bv p3) (.int 0) := f268.ext E269
  have f285 : Exa Z h269 c253 "java/lang/String" := Ex253.ext E269
  have f286 : Fld Z h269 c253 "java/lang/String" "coder" "B" (.int 0) := Fc253.ext E269
  have f287 : Fld Z h269 c253 "java/lang/String" "value" "[B" (.ref t253) := Fv253.ext E269
  have f288 : Arv Z h269 t253 kb253 .byte (Int32.ofNat (own_cs p4).length) (own_bv p4) (.int 0) := Va253.ext E269
  have Z269 : n0 ≤ h269.size := Nat.le_trans Z253 E269.1
  have f289 : Fld Z h269 b269 "com/example/prudent_annotator/prudentannotator/profile/FileChecksum" "file" "Ljava/lang/String;" .null := D269 (Or.inr (hw _ (List.mem_of_getElem? (i := 60) rfl))) (ty := (.object "java/lang/String")) (by decide)
  have f290 : Fld Z h269 b269 "com/example/prudent_annotator/prudentannotator/profile/FileChecksum" "sha256" "Ljava/lang/String;" .null := D269 (Or.inr (hw _ (List.mem_of_getElem? (i := 63) rfl))) (ty := (.object "java/lang/String")) (by decide)
  refine own_go (B := T269.setTop (mkF m 28 #[.val (.int p0), .val (.int p1), .val (.int p2), .val (.int p3), .val (.int p4), .val (.ref c229), .val (.ref c233), .val (.ref c241), .val (.ref c253), .unset, .unset, .unset, .unset, .unset] [(.ref b269)])) (fun t_ k_ => st269 _ k_) ?_
  refine own_go (B := T269.setTop (mkF m 33 #[.val (.int p0), .val (.int p1), .val (.int p2), .val (.int p3), .val (.int p4), .val (.ref c229), .val (.ref c233), .val (.ref c241), .val (.ref c253), .unset, .unset, .unset, .unset, .unset] [(.ref c233), (.ref c229), (.ref b269), (.ref b269)])) (fun t_ k_ => ?_) ?_
  · show Steps p.tables e below (T269.setTop (mkF m 28 #[.val (.int p0), .val (.int p1), .val (.int p2), .val (.int p3), .val (.int p4), .val (.ref c229), .val (.ref c233), .val (.ref c241), .val (.ref c253), .unset, .unset, .unset, .unset, .unset] [(.ref b269)])) _
    refine XS.dup X269.here hx rfl (hb hby at_28) rfl rfl ?_
    show Steps p.tables e below (T269.setTop (mkF m 29 #[.val (.int p0), .val (.int p1), .val (.int p2), .val (.int p3), .val (.int p4), .val (.ref c229), .val (.ref c233), .val (.ref c241), .val (.ref c253), .unset, .unset, .unset, .unset, .unset] [(.ref b269), (.ref b269)])) _
    refine XS.aload X269.here hx rfl (hb hby at_29) rfl rfl ?_
    show Steps p.tables e below (T269.setTop (mkF m 31 #[.val (.int p0), .val (.int p1), .val (.int p2), .val (.int p3), .val (.int p4), .val (.ref c229), .val (.ref c233), .val (.ref c241), .val (.ref c253), .unset, .unset, .unset, .unset, .unset] [(.ref c229), (.ref b269), (.ref b269)])) _
    refine XS.aload X269.here hx rfl (hb hby at_31) rfl rfl ?_
    show Steps p.tables e below (T269.setTop (mkF m 33 #[.val (.int p0), .val (.int p1), .val (.int p2), .val (.int p3), .val (.int p4), .val (.ref c229), .val (.ref c233), .val (.ref c241), .val (.ref c253), .unset, .unset, .unset, .unset, .unset] [(.ref c233), (.ref c229), (.ref b269), (.ref b269)])) _
    exact k_
  obtain ⟨_, _, ⟨T291, L291, k291, n291⟩, -, X291, Sn291, gr291, ⟨Lc291, hQ291, l291, y291, z291, C291⟩, st291⟩ := X269.specialBackS hx (y := (⟨"com/example/prudent_annotator/prudentannotator/profile/FileChecksum", "<init>", "(Ljava/lang/String;Ljava/lang/String;)V"⟩ : MethodName)) rfl hown253 (mvT hZ253 (hw _ (List.mem_of_getElem? (i := 49) rfl))) (mvT hZ253 (hw _ (List.mem_of_getElem? (i := 50) rfl))) (mvT hZ253 (hw _ (List.mem_of_getElem? (i := 51) rfl))) (by decide) (backOfSH (s := s) (vm0 := T253.vm) (W := 1) (rm11 l Z a0 hw [] b269 c229 c233 h269 n0 Z269 hEL f289 f290 A269 f273 f277 g_b269) hZ253 (hw _ (List.mem_of_getElem? (i := 51) rfl)) (hw _ (List.mem_of_getElem? (i := 48) rfl)) (by decide) (by decide) hEL f270.1) (g := (mkF m 33 #[.val (.int p0), .val (.int p1), .val (.int p2), .val (.int p3), .val (.int p4), .val (.ref c229), .val (.ref c233), .val (.ref c241), .val (.ref c253), .unset, .unset, .unset, .unset, .unset] [(.ref c233), (.ref c229), (.ref b269), (.ref b269)])) rfl (by rw [hml]; rfl) (Steps.refl _) (a := b269) (argsL := [(.ref c229), (.ref c233)]) (rest := [(.ref b269)]) (lenOf pd__28_Ljava_2f_lang_2f_String_3b_Ljava_2f_lang_2f_String_3b__29_V rfl) rfl (by show 2 * 0 + _ ≤ _; exact Nat.le_of_eq rfl) (hb hby at_33) (fun _ _ => ⟨rfl, e269, (by decide : 25 + 4 ≤ _), (by decide : 58 + 48 ≤ _)⟩)
  dsimp only [Pt.U, Pt.locs, Pt.cells, Pt.slots] at X291 Sn291 gr291 l291 y291 z291 st291 hQ291 C291
  subst l291 y291 z291
  obtain ⟨X291r, hS291, hZ291, hown291⟩ := rebS (s := s) (vm0 := T253.vm) hS253 (by rw [e269]; exact hk271) X291 Sn291 gr291 hZ253 hown253
  have hkr291 : T291.heap.size ≤ T291.heap.size := Nat.le_refl _
  have f292 : CHr Z own_EL s.vm h0 T291.vm T291.heap := f270.trans C291
  obtain ⟨rfl, N291q, K291, Ff291, Fs291⟩ := hQ291
  have N291 := Fr.app N253 N291q
  have hk293 : _ ≤ T291.heap.size := Nat.le_trans hk271 K291.1
  have f294 : Old Z n0 T291.heap := f272.keep K291 (allS g_b269 all0)
  have f295 : Exa Z T291.heap c229 "java/lang/String" := f273.keep K291
  have f296 : Fld Z T291.heap c229 "java/lang/String" "coder" "B" (.int 0) := f274.keep K291 (ninS ne_c229_b269 nin0)
  have f297 : Fld Z T291.heap c229 "java/lang/String" "value" "[B" (.ref t229) := f275.keep K291 (ninS ne_c229_b269 nin0)
  have f298 : Arv Z T291.heap t229 kb229 .byte (Int32.ofNat (own_cs p1).length) (own_bv p1) (.int 0) := f276.keep K291 (ninS ne_t229_b269 nin0)
  have f299 : Exa Z T291.heap c233 "java/lang/String" := f277.keep K291
  have f300 : Fld Z T291.heap c233 "java/lang/String" "coder" "B" (.int 0) := f278.keep K291 (ninS ne_c233_b269 nin0)
  have f301 : Fld Z T291.heap c233 "java/lang/String" "value" "[B" (.ref t233) := f279.keep K291 (ninS ne_c233_b269 nin0)
  have f302 : Arv Z T291.heap t233 kb233 .byte (Int32.ofNat (own_cs p2).length) (own_bv p2) (.int 0) := f280.keep K291 (ninS ne_t233_b269 nin0)
  have f303 : Exa Z T291.heap c241 "java/lang/String" := f281.keep K291
  have f304 : Fld Z T291.heap c241 "java/lang/String" "coder" "B" (.int 0) := f282.keep K291 (ninS ne_c241_b269 nin0)
  have f305 : Fld Z T291.heap c241 "java/lang/String" "value" "[B" (.ref t241) := f283.keep K291 (ninS ne_c241_b269 nin0)
  have f306 : Arv Z T291.heap t241 kb241 .byte (Int32.ofNat (own_cs p3).length) (own_bv p3) (.int 0) := f284.keep K291 (ninS ne_t241_b269 nin0)
  have f307 : Exa Z T291.heap c253 "java/lang/String" := f285.keep K291
  have f308 : Fld Z T291.heap c253 "java/lang/String" "coder" "B" (.int 0) := f286.keep K291 (ninS ne_c253_b269 nin0)
  have f309 : Fld Z T291.heap c253 "java/lang/String" "value" "[B" (.ref t253) := f287.keep K291 (ninS ne_c253_b269 nin0)
  have f310 : Arv Z T291.heap t253 kb253 .byte (Int32.ofNat (own_cs p4).length) (own_bv p4) (.int 0) := f288.keep K291 (ninS ne_t253_b269 nin0)
  have f311 : Exa Z T291.heap b269 "com/example/prudent_annotator/prudentannotator/profile/FileChecksum" := A269.keep K291
  have Z291 : n0 ≤ T291.heap.size := Nat.le_trans Z269 K291.1
  refine own_go (B := T291.setTop (mkF m 36 #[.val (.int p0), .val (.int p1), .val (.int p2), .val (.int p3), .val (.int p4), .val (.ref c229), .val (.ref c233), .val (.ref c241), .val (.ref c253), .unset, .unset, .unset, .unset, .unset] [(.ref b269)])) (fun t_ k_ => st291.trans k_) ?_
  refine own_go (B := T291.setTop (mkF m 38 #[.val (.int p0), .val (.int p1), .val (.int p2), .val (.int p3), .val (.int p4), .val (.ref c229), .val (.ref c233), .val (.ref c241), .val (.ref c253), .val (.ref b269), .unset, .unset, .unset, .unset] [])) (fun t_ k_ => ?_) ?_
  · show Steps p.tables e below (T291.setTop (mkF m 36 #[.val (.int p0), .val (.int p1), .val (.int p2), .val (.int p3), .val (.int p4), .val (.ref c229), .val (.ref c233), .val (.ref c241), .val (.ref c253), .unset, .unset, .unset, .unset, .unset] [(.ref b269)])) _
    refine XS.astore X291r.here hx rfl (hb hby at_36) rfl rfl (l' := #[.val (.int p0), .val (.int p1), .val (.int p2), .val (.int p3), .val (.int p4), .val (.ref c229), .val (.ref c233), .val (.ref c241), .val (.ref c253), .val (.ref b269), .unset, .unset, .unset, .unset]) rfl ?_
    show Steps p.tables e below (T291.setTop (mkF m 38 #[.val (.int p0), .val (.int p1), .val (.int p2), .val (.int p3), .val (.int p4), .val (.ref c229), .val (.ref c233), .val (.ref c241), .val (.ref c253), .val (.ref b269), .unset, .unset, .unset, .unset] [])) _
    exact k_
  obtain ⟨T312, h312, X312, e312, E312, A312, D312, U312, st312⟩ := newO X291r hx hZ291 hown291 (hw _ (List.mem_of_getElem? (i := 46) rfl)) (hw _ (List.mem_of_getElem? (i := 47) rfl)) (hw _ (List.mem_of_getElem? (i := 48) rfl)) rfl (g := (mkF m 38 #[.val (.int p0), .val (.int p1), .val (.int p2), .val (.int p3), .val (.int p4), .val (.ref c229), .val (.ref c233), .val (.ref c241), .val (.ref c253), .val (.ref b269), .unset, .unset, .unset, .unset] [])) rfl (hb hby at_38) (by decide) (by decide)
  obtain ⟨b312, g312⟩ : ∃ z, z = T291.heap.size := ⟨_, rfl⟩
  rw [← g312] at A312 D312 U312 st312
  have g_b312 : n0 ≤ b312 := Nat.le_trans Z291 (Nat.le_of_eq g312.symm)
  have ne_c229_b312 : c229 ≠ b312 := Nat.ne_of_lt (Nat.lt_of_lt_of_le f295.lt (Nat.le_of_eq g312.symm))
  have ne_t229_b312 : t229 ≠ b312 := Nat.ne_of_lt (Nat.lt_of_lt_of_le f298.lt (Nat.le_of_eq g312.symm))
  have ne_c233_b312 : c233 ≠ b312 := Nat.ne_of_lt (Nat.lt_of_lt_of_le f299.lt (Nat.le_of_eq g312.symm))
  have ne_t233_b312 : t233 ≠ b312 := Nat.ne_of_lt (Nat.lt_of_lt_of_le f302.lt (Nat.le_of_eq g312.symm))
  have ne_c241_b312 : c241 ≠ b312 := Nat.ne_of_lt (Nat.lt_of_lt_of_le f303.lt (Nat.le_of_eq g312.symm))
  have ne_t241_b312 : t241 ≠ b312 := Nat.ne_of_lt (Nat.lt_of_lt_of_le f306.lt (Nat.le_of_eq g312.symm))
  have ne_c253_b312 : c253 ≠ b312 := Nat.ne_of_lt (Nat.lt_of_lt_of_le f307.lt (Nat.le_of_eq g312.symm))
  have ne_t253_b312 : t253 ≠ b312 := Nat.ne_of_lt (Nat.lt_of_lt_of_le f310.lt (Nat.le_of_eq g312.symm))
  have ne_b269_b312 : b269 ≠ b312 := Nat.ne_of_lt (Nat.lt_of_lt_of_le f311.lt (Nat.le_of_eq g312.symm))
  have f313 : CHr Z own_EL s.vm h0 T291.vm h312 := f292.trans (CHr.ext E312 f292.1)
  have hk314 : _ ≤ h312.size := Nat.le_trans hkr291 E312.1
  have f315 : Old Z n0 h312 := f294.ext E312
  have f316 : Exa Z h312 c229 "java/lang/String" := f295.ext E312
  have f317 : Fld Z h312 c229 "java/lang/String" "coder" "B" (.int 0) := f296.ext E312
  have f318 : Fld Z h312 c229 "java/lang/String" "value" "[B" (.ref t229) := f297.ext E312
  have f319 : Arv Z h312 t229 kb229 .byte (Int32.ofNat (own_cs p1).length) (own_bv p1) (.int 0) := f298.ext E312
  have f320 : Exa Z h312 c233 "java/lang/String" := f299.ext E312
  have f321 : Fld Z h312 c233 "java/lang/String" "coder" "B" (.int 0) := f300.ext E312
  have f322 : Fld Z h312 c233 "java/lang/String" "value" "[B" (.ref t233) := f301.ext E312
  have f323 : Arv Z h312 t233 kb233 .byte (Int32.ofNat (own_cs p2).length) (own_bv p2) (.int 0) := f302.ext E312
  have f324 : Exa Z h312 c241 "java/lang/String" := f303.ext E312
  have f325 : Fld Z h312 c241 "java/lang/String" "coder" "B" (.int 0) := f304.ext E312
  have f326 : Fld Z h312 c241 "java/lang/String" "value" "[B" (.ref t241) := f305.ext E312
  have f327 : Arv Z h312 t241 kb241 .byte (Int32.ofNat (own_cs p3).length) (own_bv p3) (.int 0) := f306.ext E312
  have f328 : Exa Z h312 c253 "java/lang/String" := f307.ext E312
  have f329 : Fld Z h312 c253 "java/lang/String" "coder" "B" (.int 0) := f308.ext E312
  have f330 : Fld Z h312 c253 "java/lang/String" "value" "[B" (.ref t253) := f309.ext E312
  have f331 : Arv Z h312 t253 kb253 .byte (Int32.ofNat (own_cs p4).length) (own_bv p4) (.int 0) := f310.ext E312
  have f332 : Exa Z h312 b269 "com/example/prudent_annotator/prudentannotator/profile/FileChecksum" := f311.ext E312
  have f333 : Fld Z h312 b269 "com/example/prudent_annotator/prudentannotator/profile/FileChecksum" "file" "Ljava/lang/String;" (.ref c229) := Ff291.ext E312
  have f334 : Fld Z h312 b269 "com/example/prudent_annotator/prudentannotator/profile/FileChecksum" "sha256" "Ljava/lang/String;" (.ref c233) := Fs291.ext E312
  have Z312 : n0 ≤ h312.size := Nat.le_trans Z291 E312.1
  have f335 : Fld Z h312 b312 "com/example/prudent_annotator/prudentannotator/profile/FileChecksum" "file" "Ljava/lang/String;" .null := D312 (Or.inr (hw _ (List.mem_of_getElem? (i := 60) rfl))) (ty := (.object "java/lang/String")) (by decide)
  have f336 : Fld Z h312 b312 "com/example/prudent_annotator/prudentannotator/profile/FileChecksum" "sha256" "Ljava/lang/String;" .null := D312 (Or.inr (hw _ (List.mem_of_getElem? (i := 63) rfl))) (ty := (.object "java/lang/String")) (by decide)
  refine own_go (B := T312.setTop (mkF m 41 #[.val (.int p0), .val (.int p1), .val (.int p2), .val (.int p3), .val (.int p4), .val (.ref c229), .val (.ref c233), .val (.ref c241), .val (.ref c253), .val (.ref b269), .unset, .unset, .unset, .unset] [(.ref b312)])) (fun t_ k_ => st312 _ k_) ?_
  refine own_go (B := T312.setTop (mkF m 46 #[.val (.int p0), .val (.int p1), .val (.int p2), .val (.int p3), .val (.int p4), .val (.ref c229), .val (.ref c233), .val (.ref c241), .val (.ref c253), .val (.ref b269), .unset, .unset, .unset, .unset] [(.ref c253), (.ref c241), (.ref b312), (.ref b312)])) (fun t_ k_ => ?_) ?_
  · show Steps p.tables e below (T312.setTop (mkF m 41 #[.val (.int p0), .val (.int p1), .val (.int p2), .val (.int p3), .val (.int p4), .val (.ref c229), .val (.ref c233), .val (.ref c241), .val (.ref c253), .val (.ref b269), .unset, .unset, .unset, .unset] [(.ref b312)])) _
    refine XS.dup X312.here hx rfl (hb hby at_41) rfl rfl ?_
    show Steps p.tables e below (T312.setTop (mkF m 42 #[.val (.int p0), .val (.int p1), .val (.int p2), .val (.int p3), .val (.int p4), .val (.ref c229), .val (.ref c233), .val (.ref c241), .val (.ref c253), .val (.ref b269), .unset, .unset, .unset, .unset] [(.ref b312), (.ref b312)])) _
    refine XS.aload X312.here hx rfl (hb hby at_42) rfl rfl ?_
    show Steps p.tables e below (T312.setTop (mkF m 44 #[.val (.int p0), .val (.int p1), .val (.int p2), .val (.int p3), .val (.int p4), .val (.ref c229), .val (.ref c233), .val (.ref c241), .val (.ref c253), .val (.ref b269), .unset, .unset, .unset, .unset] [(.ref c241), (.ref b312), (.ref b312)])) _
    refine XS.aload X312.here hx rfl (hb hby at_44) rfl rfl ?_
    show Steps p.tables e below (T312.setTop (mkF m 46 #[.val (.int p0), .val (.int p1), .val (.int p2), .val (.int p3), .val (.int p4), .val (.ref c229), .val (.ref c233), .val (.ref c241), .val (.ref c253), .val (.ref b269), .unset, .unset, .unset, .unset] [(.ref c253), (.ref c241), (.ref b312), (.ref b312)])) _
    exact k_
  obtain ⟨_, _, ⟨T337, L337, k337, n337⟩, -, X337, Sn337, gr337, ⟨Lc337, hQ337, l337, y337, z337, C337⟩, st337⟩ := X312.specialBackS hx (y := (⟨"com/example/prudent_annotator/prudentannotator/profile/FileChecksum", "<init>", "(Ljava/lang/String;Ljava/lang/String;)V"⟩ : MethodName)) rfl hown291 (mvT hZ291 (hw _ (List.mem_of_getElem? (i := 49) rfl))) (mvT hZ291 (hw _ (List.mem_of_getElem? (i := 50) rfl))) (mvT hZ291 (hw _ (List.mem_of_getElem? (i := 51) rfl))) (by decide) (backOfSH (s := s) (vm0 := T291.vm) (W := 1) (rm11 l Z a0 hw [] b312 c241 c253 h312 n0 Z312 hEL f335 f336 A312 f324 f328 g_b312) hZ291 (hw _ (List.mem_of_getElem? (i := 51) rfl)) (hw _ (List.mem_of_getElem? (i := 48) rfl)) (by decide) (by decide) hEL f313.1) (g := (mkF m 46 #[.val (.int p0), .val (.int p1), .val (.int p2), .val (.int p3), .val (.int p4), .val (.ref c229), .val (.ref c233), .val (.ref c241), .val (.ref c253), .val (.ref b269), .unset, .unset, .unset, .unset] [(.ref c253), (.ref c241), (.ref b312), (.ref b312)])) rfl (by rw [hml]; rfl) (Steps.refl _) (a := b312) (argsL := [(.ref c241), (.ref c253)]) (rest := [(.ref b312)]) (lenOf pd__28_Ljava_2f_lang_2f_String_3b_Ljava_2f_lang_2f_String_3b__29_V rfl) rfl (by show 2 * 0 + _ ≤ _; exact Nat.le_of_eq rfl) (hb hby at_46) (fun _ _ => ⟨rfl, e312, (by decide : 30 + 4 ≤ _), (by decide : 108 + 48 ≤ _)⟩)
  dsimp only [Pt.U, Pt.locs, Pt.cells, Pt.slots] at X337 Sn337 gr337 l337 y337 z337 st337 hQ337 C337
  subst l337 y337 z337
  obtain ⟨X337r, hS337, hZ337, hown337⟩ := rebS (s := s) (vm0 := T291.vm) hS291 (by rw [e312]; exact hk314) X337 Sn337 gr337 hZ291 hown291
  have hkr337 : T337.heap.size ≤ T337.heap.size := Nat.le_refl _
  have f338 : CHr Z own_EL s.vm h0 T337.vm T337.heap := f313.trans C337
  obtain ⟨rfl, N337q, K337, Ff337, Fs337⟩ := hQ337
  have N337 := Fr.app N291 N337q
  have hk339 : _ ≤ T337.heap.size := Nat.le_trans hk314 K337.1
  have f340 : Old Z n0 T337.heap := f315.keep K337 (allS g_b312 all0)
  have f341 : Exa Z T337.heap c229 "java/lang/String" := f316.keep K337
  have f342 : Fld Z T337.heap c229 "java/lang/String" "coder" "B" (.int 0) := f317.keep K337 (ninS ne_c229_b312 nin0)
  have f343 : Fld Z T337.heap c229 "java/lang/String" "value" "[B" (.ref t229) := f318.keep K337 (ninS ne_c229_b312 nin0)
  have f344 : Arv Z T337.heap t229 kb229 .byte (Int32.ofNat (own_cs p1).length) (own_bv p1) (.int 0) := f319.keep K337 (ninS ne_t229_b312 nin0)
  have f345 : Exa Z T337.heap c233 "java/lang/String" := f320.keep K337
  have f346 : Fld Z T337.heap c233 "java/lang/String" "coder" "B" (.int 0) := f321.keep K337 (ninS ne_c233_b312 nin0)
  have f347 : Fld Z T337.heap c233 "java/lang/String" "value" "[B" (.ref t233) := f322.keep K337 (ninS ne_c233_b312 nin0)
  have f348 : Arv Z T337.heap t233 kb233 .byte (Int32.ofNat (own_cs p2).length) (own_bv p2) (.int 0) := f323.keep K337 (ninS ne_t233_b312 nin0)
  have f349 : Exa Z T337.heap c241 "java/lang/String" := f324.keep K337
  have f350 : Fld Z T337.heap c241 "java/lang/String" "coder" "B" (.int 0) := f325.keep K337 (ninS ne_c241_b312 nin0)
  have f351 : Fld Z T337.heap c241 "java/lang/String" "value" "[B" (.ref t241) := f326.keep K337 (ninS ne_c241_b312 nin0)
  have f352 : Arv Z T337.heap t241 kb241 .byte (Int32.ofNat (own_cs p3).length) (own_bv p3) (.int 0) := f327.keep K337 (ninS ne_t241_b312 nin0)
  have f353 : Exa Z T337.heap c253 "java/lang/String" := f328.keep K337
  have f354 : Fld Z T337.heap c253 "java/lang/String" "coder" "B" (.int 0) := f329.keep K337 (ninS ne_c253_b312 nin0)
  have f355 : Fld Z T337.heap c253 "java/lang/String" "value" "[B" (.ref t253) := f330.keep K337 (ninS ne_c253_b312 nin0)
  have f356 : Arv Z T337.heap t253 kb253 .byte (Int32.ofNat (own_cs p4).length) (own_bv p4) (.int 0) := f331.keep K337 (ninS ne_t253_b312 nin0)
  have f357 : Exa Z T337.heap b269 "com/example/prudent_annotator/prudentannotator/profile/FileChecksum" := f332.keep K337
  have f358 : Fld Z T337.heap b269 "com/example/prudent_annotator/prudentannotator/profile/FileChecksum" "file" "Ljava/lang/String;" (.ref c229) := f333.keep K337 (ninS ne_b269_b312 nin0)
  have f359 : Fld Z T337.heap b269 "com/example/prudent_annotator/prudentannotator/profile/FileChecksum" "sha256" "Ljava/lang/String;" (.ref c233) := f334.keep K337 (ninS ne_b269_b312 nin0)
  have f360 : Exa Z T337.heap b312 "com/example/prudent_annotator/prudentannotator/profile/FileChecksum" := A312.keep K337
  have Z337 : n0 ≤ T337.heap.size := Nat.le_trans Z312 K337.1
  refine own_go (B := T337.setTop (mkF m 49 #[.val (.int p0), .val (.int p1), .val (.int p2), .val (.int p3), .val (.int p4), .val (.ref c229), .val (.ref c233), .val (.ref c241), .val (.ref c253), .val (.ref b269), .unset, .unset, .unset, .unset] [(.ref b312)])) (fun t_ k_ => st337.trans k_) ?_
  refine own_go (B := T337.setTop (mkF m 58 #[.val (.int p0), .val (.int p1), .val (.int p2), .val (.int p3), .val (.int p4), .val (.ref c229), .val (.ref c233), .val (.ref c241), .val (.ref c253), .val (.ref b269), .val (.ref b312), .val (.int (p0 &&& (3 : Int32))), .unset, .unset] [(.int (p0 &&& (3 : Int32)))])) (fun t_ k_ => ?_) ?_
  · show Steps p.tables e below (T337.setTop (mkF m 49 #[.val (.int p0), .val (.int p1), .val (.int p2), .val (.int p3), .val (.int p4), .val (.ref c229), .val (.ref c233), .val (.ref c241), .val (.ref c253), .val (.ref b269), .unset, .unset, .unset, .unset] [(.ref b312)])) _
    refine XS.astore X337r.here hx rfl (hb hby at_49) rfl rfl (l' := #[.val (.int p0), .val (.int p1), .val (.int p2), .val (.int p3), .val (.int p4), .val (.ref c229), .val (.ref c233), .val (.ref c241), .val (.ref c253), .val (.ref b269), .val (.ref b312), .unset, .unset, .unset]) rfl ?_
    show Steps p.tables e below (T337.setTop (mkF m 51 #[.val (.int p0), .val (.int p1), .val (.int p2), .val (.int p3), .val (.int p4), .val (.ref c229), .val (.ref c233), .val (.ref c241), .val (.ref c253), .val (.ref b269), .val (.ref b312), .unset, .unset, .unset] [])) _
    refine XS.iloadN X337r.here hx rfl (hb hby at_51) rfl ?_
    show Steps p.tables e below (T337.setTop (mkF m 52 #[.val (.int p0), .val (.int p1), .val (.int p2), .val (.int p3), .val (.int p4), .val (.ref c229), .val (.ref c233), .val (.ref c241), .val (.ref c253), .val (.ref b269), .val (.ref b312), .unset, .unset, .unset] [(.int p0)])) _
    refine XS.iconst X337r.here hx rfl (hb hby at_52) ?_
    show Steps p.tables e below (T337.setTop (mkF m 53 #[.val (.int p0), .val (.int p1), .val (.int p2), .val (.int p3), .val (.int p4), .val (.ref c229), .val (.ref c233), .val (.ref c241), .val (.ref c253), .val (.ref b269), .val (.ref b312), .unset, .unset, .unset] [(.int (3 : Int32)), (.int p0)])) _
    refine XS.iand X337r.here hx rfl (hb hby at_53) rfl ?_
    show Steps p.tables e below (T337.setTop (mkF m 54 #[.val (.int p0), .val (.int p1), .val (.int p2), .val (.int p3), .val (.int p4), .val (.ref c229), .val (.ref c233), .val (.ref c241), .val (.ref c253), .val (.ref b269), .val (.ref b312), .unset, .unset, .unset] [(.int (p0 &&& (3 : Int32)))])) _
    refine XS.istore X337r.here hx rfl (hb hby at_54) rfl (l' := #[.val (.int p0), .val (.int p1), .val (.int p2), .val (.int p3), .val (.int p4), .val (.ref c229), .val (.ref c233), .val (.ref c241), .val (.ref c253), .val (.ref b269), .val (.ref b312), .val (.int (p0 &&& (3 : Int32))), .unset, .unset]) rfl ?_
    show Steps p.tables e below (T337.setTop (mkF m 56 #[.val (.int p0), .val (.int p1), .val (.int p2), .val (.int p3), .val (.int p4), .val (.ref c229), .val (.ref c233), .val (.ref c241), .val (.ref c253), .val (.ref b269), .val (.ref b312), .val (.int (p0 &&& (3 : Int32))), .unset, .unset] [])) _
    refine XS.iload X337r.here hx rfl (hb hby at_56) rfl ?_
    show Steps p.tables e below (T337.setTop (mkF m 58 #[.val (.int p0), .val (.int p1), .val (.int p2), .val (.int p3), .val (.int p4), .val (.ref c229), .val (.ref c233), .val (.ref c241), .val (.ref c253), .val (.ref b269), .val (.ref b312), .val (.int (p0 &&& (3 : Int32))), .unset, .unset] [(.int (p0 &&& (3 : Int32)))])) _
    exact k_
  by_cases hc58 : (p0 &&& (3 : Int32)) = (0 : Int32)
  · refine own_go (B := T337.setTop (mkF m 67 #[.val (.int p0), .val (.int p1), .val (.int p2), .val (.int p3), .val (.int p4), .val (.ref c229), .val (.ref c233), .val (.ref c241), .val (.ref c253), .val (.ref b269), .val (.ref b312), .val (.int (p0 &&& (3 : Int32))), .val (.ref b312), .unset] [(.int p3), (.int p1)])) (fun t_ k_ => ?_) ?_
    · show Steps p.tables e below (T337.setTop (mkF m 58 #[.val (.int p0), .val (.int p1), .val (.int p2), .val (.int p3), .val (.int p4), .val (.ref c229), .val (.ref c233), .val (.ref c241), .val (.ref c253), .val (.ref b269), .val (.ref b312), .val (.int (p0 &&& (3 : Int32))), .unset, .unset] [(.int (p0 &&& (3 : Int32)))])) _
      refine XS.ifNo X337r.here hx rfl (hb hby at_58) rfl ((if0 _ _).trans (teq hc58).2) ?_
      show Steps p.tables e below (T337.setTop (mkF m 61 #[.val (.int p0), .val (.int p1), .val (.int p2), .val (.int p3), .val (.int p4), .val (.ref c229), .val (.ref c233), .val (.ref c241), .val (.ref c253), .val (.ref b269), .val (.ref b312), .val (.int (p0 &&& (3 : Int32))), .unset, .unset] [])) _
      refine XS.aload X337r.here hx rfl (hb hby at_61) rfl rfl ?_
      show Steps p.tables e below (T337.setTop (mkF m 63 #[.val (.int p0), .val (.int p1), .val (.int p2), .val (.int p3), .val (.int p4), .val (.ref c229), .val (.ref c233), .val (.ref c241), .val (.ref c253), .val (.ref b269), .val (.ref b312), .val (.int (p0 &&& (3 : Int32))), .unset, .unset] [(.ref b312)])) _
      refine XS.astore X337r.here hx rfl (hb hby at_63) rfl rfl (l' := #[.val (.int p0), .val (.int p1), .val (.int p2), .val (.int p3), .val (.int p4), .val (.ref c229), .val (.ref c233), .val (.ref c241), .val (.ref c253), .val (.ref b269), .val (.ref b312), .val (.int (p0 &&& (3 : Int32))), .val (.ref b312), .unset]) rfl ?_
      show Steps p.tables e below (T337.setTop (mkF m 65 #[.val (.int p0), .val (.int p1), .val (.int p2), .val (.int p3), .val (.int p4), .val (.ref c229), .val (.ref c233), .val (.ref c241), .val (.ref c253), .val (.ref b269), .val (.ref b312), .val (.int (p0 &&& (3 : Int32))), .val (.ref b312), .unset] [])) _
      refine XS.iloadN X337r.here hx rfl (hb hby at_65) rfl ?_
      show Steps p.tables e below (T337.setTop (mkF m 66 #[.val (.int p0), .val (.int p1), .val (.int p2), .val (.int p3), .val (.int p4), .val (.ref c229), .val (.ref c233), .val (.ref c241), .val (.ref c253), .val (.ref b269), .val (.ref b312), .val (.int (p0 &&& (3 : Int32))), .val (.ref b312), .unset] [(.int p1)])) _
      refine XS.iloadN X337r.here hx rfl (hb hby at_66) rfl ?_
      show Steps p.tables e below (T337.setTop (mkF m 67 #[.val (.int p0), .val (.int p1), .val (.int p2), .val (.int p3), .val (.int p4), .val (.ref c229), .val (.ref c233), .val (.ref c241), .val (.ref c253), .val (.ref b269), .val (.ref b312), .val (.int (p0 &&& (3 : Int32))), .val (.ref b312), .unset] [(.int p3), (.int p1)])) _
      exact k_
    obtain ⟨vv361, _, ⟨T361, L361, k361, n361⟩, -, X361, ⟨Lc361, hQ361, l361, y361, z361⟩, st361⟩ := Jvm.LawKit.callS X337r hx (y := (⟨"com/example/prudent_annotator/prudentannotator/profile/FileChecksumEqualsPinLaw", "same", "(II)Z"⟩ : MethodName)) hown337 (mvT hZ337 (hw _ (List.mem_of_getElem? (i := 64) rfl))) (mvT hZ337 (hw _ (List.mem_of_getElem? (i := 65) rfl))) (mvT hZ337 (hw _ (List.mem_of_getElem? (i := 2) rfl))) (mvT hZ337 (hw _ (List.mem_of_getElem? (i := 66) rfl))) (by decide) (backOf (W := 0) (rm13 l Z a0 hw [] p1 p3 T337.heap n0 Z337) hZ337 (hw _ (List.mem_of_getElem? (i := 66) rfl)) (hw _ (List.mem_of_getElem? (i := 2) rfl)) (by decide) (by decide)) (g := (mkF m 67 #[.val (.int p0), .val (.int p1), .val (.int p2), .val (.int p3), .val (.int p4), .val (.ref c229), .val (.ref c233), .val (.ref c241), .val (.ref c253), .val (.ref b269), .val (.ref b312), .val (.int (p0 &&& (3 : Int32))), .val (.ref b312), .unset] [(.int p3), (.int p1)])) rfl (by rw [hml]; rfl) (argsL := [(.int p1), (.int p3)]) (rest := []) (lenOf pd__28_II_29_Z rfl) rfl (by show 2 * 0 + _ ≤ _; exact Nat.le_of_eq rfl) (hb hby at_67) (fun _ _ => ⟨rfl, rfl, (by decide : 34 + 0 ≤ _), (by decide : 156 + 0 ≤ _)⟩)
    dsimp only [Pt.U, Pt.locs, Pt.cells, Pt.slots] at X361 l361 y361 z361 st361 hQ361
    subst l361 y361 z361
    obtain ⟨rfl, N361q, e361q⟩ := hQ361
    have N361 := Fr.app N337 N361q
    refine own_go (B := T361.setTop (mkF m 70 #[.val (.int p0), .val (.int p1), .val (.int p2), .val (.int p3), .val (.int p4), .val (.ref c229), .val (.ref c233), .val (.ref c241), .val (.ref c253), .val (.ref b269), .val (.ref b312), .val (.int (p0 &&& (3 : Int32))), .val (.ref b312), .unset] [(.int (own_same p1 p3))])) (fun t_ k_ => st361 _ k_) ?_
    by_cases hc70 : (own_same p1 p3) = (0 : Int32)
    · refine own_go (B := T361.setTop (mkF m 134 #[.val (.int p0), .val (.int p1), .val (.int p2), .val (.int p3), .val (.int p4), .val (.ref c229), .val (.ref c233), .val (.ref c241), .val (.ref c253), .val (.ref b269), .val (.ref b312), .val (.int (p0 &&& (3 : Int32))), .val (.ref b312), .val (.int (0 : Int32))] [(.ref b312), (.ref b269)])) (fun t_ k_ => ?_) ?_
      · show Steps p.tables e below (T361.setTop (mkF m 70 #[.val (.int p0), .val (.int p1), .val (.int p2), .val (.int p3), .val (.int p4), .val (.ref c229), .val (.ref c233), .val (.ref c241), .val (.ref c253), .val (.ref b269), .val (.ref b312), .val (.int (p0 &&& (3 : Int32))), .val (.ref b312), .unset] [(.int (own_same p1 p3))])) _
        refine XS.ifYes X361.here hx rfl (pc0 := 70) (pc' := 86) rfl (hb hby at_70) rfl ((if0 _ _).trans (teq hc70).1) (by decide) (by decide) ?_
        show Steps p.tables e below (T361.setTop (mkF m 86 #[.val (.int p0), .val (.int p1), .val (.int p2), .val (.int p3), .val (.int p4), .val (.ref c229), .val (.ref c233), .val (.ref c241), .val (.ref c253), .val (.ref b269), .val (.ref b312), .val (.int (p0 &&& (3 : Int32))), .val (.ref b312), .unset] [])) _
        refine XS.iconst X361.here hx rfl (hb hby at_86) ?_
        show Steps p.tables e below (T361.setTop (mkF m 87 #[.val (.int p0), .val (.int p1), .val (.int p2), .val (.int p3), .val (.int p4), .val (.ref c229), .val (.ref c233), .val (.ref c241), .val (.ref c253), .val (.ref b269), .val (.ref b312), .val (.int (p0 &&& (3 : Int32))), .val (.ref b312), .unset] [(.int (0 : Int32))])) _
        refine XS.istore X361.here hx rfl (hb hby at_87) rfl (l' := #[.val (.int p0), .val (.int p1), .val (.int p2), .val (.int p3), .val (.int p4), .val (.ref c229), .val (.ref c233), .val (.ref c241), .val (.ref c253), .val (.ref b269), .val (.ref b312), .val (.int (p0 &&& (3 : Int32))), .val (.ref b312), .val (.int (0 : Int32))]) rfl ?_
        show Steps p.tables e below (T361.setTop (mkF m 89 #[.val (.int p0), .val (.int p1), .val (.int p2), .val (.int p3), .val (.int p4), .val (.ref c229), .val (.ref c233), .val (.ref c241), .val (.ref c253), .val (.ref b269), .val (.ref b312), .val (.int (p0 &&& (3 : Int32))), .val (.ref b312), .val (.int (0 : Int32))] [])) _
        refine XS.goto X361.here hx rfl (pc0 := 89) (pc' := 130) rfl (hb hby at_89) (by decide) (by decide) ?_
        show Steps p.tables e below (T361.setTop (mkF m 130 #[.val (.int p0), .val (.int p1), .val (.int p2), .val (.int p3), .val (.int p4), .val (.ref c229), .val (.ref c233), .val (.ref c241), .val (.ref c253), .val (.ref b269), .val (.ref b312), .val (.int (p0 &&& (3 : Int32))), .val (.ref b312), .val (.int (0 : Int32))] [])) _
        refine XS.aload X361.here hx rfl (hb hby at_130) rfl rfl ?_
        show Steps p.tables e below (T361.setTop (mkF m 132 #[.val (.int p0), .val (.int p1), .val (.int p2), .val (.int p3), .val (.int p4), .val (.ref c229), .val (.ref c233), .val (.ref c241), .val (.ref c253), .val (.ref b269), .val (.ref b312), .val (.int (p0 &&& (3 : Int32))), .val (.ref b312), .val (.int (0 : Int32))] [(.ref b269)])) _
        refine XS.aload X361.here hx rfl (hb hby at_132) rfl rfl ?_
        show Steps p.tables e below (T361.setTop (mkF m 134 #[.val (.int p0), .val (.int p1), .val (.int p2), .val (.int p3), .val (.int p4), .val (.ref c229), .val (.ref c233), .val (.ref c241), .val (.ref c253), .val (.ref b269), .val (.ref b312), .val (.int (p0 &&& (3 : Int32))), .val (.ref b312), .val (.int (0 : Int32))] [(.ref b312), (.ref b269)])) _
        exact k_
      obtain ⟨cq362, kq362, q362a, q362b, q362c⟩ := isOf hZ337 e361q f357
      obtain ⟨vv362, _, ⟨T362, L362, k362, n362⟩, -, X362, ⟨Lc362, hQ362, l362, y362, z362⟩, st362⟩ := X361.virtualBack hx (y := (⟨"com/example/prudent_annotator/prudentannotator/profile/FileChecksum", "equals", "(Ljava/lang/Object;)Z"⟩ : MethodName)) (z := (⟨"com/example/prudent_annotator/prudentannotator/profile/FileChecksum", "equals", "(Ljava/lang/Object;)Z"⟩ : MethodName)) hown337 (mvT hZ337 (hw _ (List.mem_of_getElem? (i := 67) rfl))) (mvT hZ337 (hw _ (List.mem_of_getElem? (i := 68) rfl))) (notFace_of_selects (args := #[]) (mvT hZ337 (hw _ (List.mem_of_getElem? (i := 70) rfl)))) (mvT hZ337 (hw _ (List.mem_of_getElem? (i := 70) rfl))) (mvT hZ337 (hw _ (List.mem_of_getElem? (i := 69) rfl))) (by decide) (backOf (W := 0) (rmEq l Z a0 hw [] b269 b312 z c229 t229 kb229 p1 c233 t233 kb233 p2 c241 t241 kb241 p3 c253 t253 kb253 p4 T337.heap n0 Z337 f340 S0 hz f357 f360 f358 f359 Ff337 Fs337 f341 f342 f343 f344 f345 f346 f347 f348 f349 f350 f351 f352 f353 f354 f355 f356) hZ337 (hw _ (List.mem_of_getElem? (i := 71) rfl)) (hw _ (List.mem_of_getElem? (i := 48) rfl)) (by decide) (by decide)) q362a q362c (g := (mkF m 134 #[.val (.int p0), .val (.int p1), .val (.int p2), .val (.int p3), .val (.int p4), .val (.ref c229), .val (.ref c233), .val (.ref c241), .val (.ref c253), .val (.ref b269), .val (.ref b312), .val (.int (p0 &&& (3 : Int32))), .val (.ref b312), .val (.int (0 : Int32))] [(.ref b312), (.ref b269)])) rfl (by rw [hml]; rfl) (Steps.refl _) (argsL := [(.ref b312)]) (rest := []) (lenOf pd__28_Ljava_2f_lang_2f_Object_3b__29_Z rfl) rfl (by show 2 * 0 + _ ≤ _; exact Nat.le_of_eq rfl) (hb hby at_134) (fun _ _ => ⟨rfl, e361q, (by decide : 34 + 0 ≤ _), (by decide : 156 + 0 ≤ _)⟩)
      dsimp only [Pt.U, Pt.locs, Pt.cells, Pt.slots] at X362 l362 y362 z362 st362 hQ362
      subst l362 y362 z362
      obtain ⟨rfl, N362q, e362q⟩ := hQ362
      have N362 := Fr.app N361 N362q
      refine own_go (B := T362.setTop (mkF m 137 #[.val (.int p0), .val (.int p1), .val (.int p2), .val (.int p3), .val (.int p4), .val (.ref c229), .val (.ref c233), .val (.ref c241), .val (.ref c253), .val (.ref b269), .val (.ref b312), .val (.int (p0 &&& (3 : Int32))), .val (.ref b312), .val (.int (0 : Int32))] [(.int (if own_cs p1 = own_cs p3 ∧ own_cs p2 = own_cs p4 then 1 else 0))])) (fun t_ k_ => st362.trans k_) ?_
      refine own_go (B := T362.setTop (mkF m 147 #[.val (.int p0), .val (.int p1), .val (.int p2), .val (.int p3), .val (.int p4), .val (.ref c229), .val (.ref c233), .val (.ref c241), .val (.ref c253), .val (.ref b269), .val (.ref b312), .val (.int (p0 &&& (3 : Int32))), .val (.ref b312), .val (.int (0 : Int32))] [(.int (1 : Int32))])) (fun t_ k_ => ?_) ?_
      · show Steps p.tables e below (T362.setTop (mkF m 137 #[.val (.int p0), .val (.int p1), .val (.int p2), .val (.int p3), .val (.int p4), .val (.ref c229), .val (.ref c233), .val (.ref c241), .val (.ref c253), .val (.ref b269), .val (.ref b312), .val (.int (p0 &&& (3 : Int32))), .val (.ref b312), .val (.int (0 : Int32))] [(.int (if own_cs p1 = own_cs p3 ∧ own_cs p2 = own_cs p4 then 1 else 0))])) _
        refine XS.iload X362.here hx rfl (hb hby at_137) rfl ?_
        show Steps p.tables e below (T362.setTop (mkF m 139 #[.val (.int p0), .val (.int p1), .val (.int p2), .val (.int p3), .val (.int p4), .val (.ref c229), .val (.ref c233), .val (.ref c241), .val (.ref c253), .val (.ref b269), .val (.ref b312), .val (.int (p0 &&& (3 : Int32))), .val (.ref b312), .val (.int (0 : Int32))] [(.int (0 : Int32)), (.int (if own_cs p1 = own_cs p3 ∧ own_cs p2 = own_cs p4 then 1 else 0))])) _
        refine XS.icmpNo X362.here hx rfl (hb hby at_139) rfl (teq (if_neg (fun q => by rw [own_sy q.1] at hc70; exact absurd hc70 (by decide)))).2 ?_
        show Steps p.tables e below (T362.setTop (mkF m 142 #[.val (.int p0), .val (.int p1), .val (.int p2), .val (.int p3), .val (.int p4), .val (.ref c229), .val (.ref c233), .val (.ref c241), .val (.ref c253), .val (.ref b269), .val (.ref b312), .val (.int (p0 &&& (3 : Int32))), .val (.ref b312), .val (.int (0 : Int32))] [])) _
        refine XS.iconst X362.here hx rfl (hb hby at_142) ?_
        show Steps p.tables e below (T362.setTop (mkF m 143 #[.val (.int p0), .val (.int p1), .val (.int p2), .val (.int p3), .val (.int p4), .val (.ref c229), .val (.ref c233), .val (.ref c241), .val (.ref c253), .val (.ref b269), .val (.ref b312), .val (.int (p0 &&& (3 : Int32))), .val (.ref b312), .val (.int (0 : Int32))] [(.int (1 : Int32))])) _
        refine XS.goto X362.here hx rfl (pc0 := 143) (pc' := 147) rfl (hb hby at_143) (by decide) (by decide) ?_
        show Steps p.tables e below (T362.setTop (mkF m 147 #[.val (.int p0), .val (.int p1), .val (.int p2), .val (.int p3), .val (.int p4), .val (.ref c229), .val (.ref c233), .val (.ref c241), .val (.ref c253), .val (.ref b269), .val (.ref b312), .val (.int (p0 &&& (3 : Int32))), .val (.ref b312), .val (.int (0 : Int32))] [(.int (1 : Int32))])) _
        exact k_
      obtain ⟨fs, hr, hrun, hended, hRW⟩ := Jvm.Stand.leaveW (s := s) (vm₁ := T337.vm) X362 hS337 (by rw [e362q]; exact hkr337) (v := some (.int (1 : Int32))) (fun h => by rw [Bd.returns] at h; cases h)
      have CRf : CHr Z own_EL s.vm s.heap (T362.setFrames fs).vm (T362.setFrames fs).heap := by
        show CHr Z own_EL s.vm s.heap T362.vm T362.heap
        rw [hh, e362q]
        exact f338.trans (CHv.at (s := s) (vm0 := T337.vm) X362 hZ337 hEL f338.1)
      refine own_at ?_ (hG _ _ ⟨hrun, hended, _, _, rfl, ?_, CRf, hRW.1, hRW.2.1, hRW.2.2.1, hRW.2.2.2.mono (by decide) (by decide)⟩)
      · show Steps p.tables e below (T362.setTop (mkF m 147 #[.val (.int p0), .val (.int p1), .val (.int p2), .val (.int p3), .val (.int p4), .val (.ref c229), .val (.ref c233), .val (.ref c241), .val (.ref c253), .val (.ref b269), .val (.ref b312), .val (.int (p0 &&& (3 : Int32))), .val (.ref b312), .val (.int (0 : Int32))] [(.int (1 : Int32))])) _
        exact retN X362 hx (t := .boolean) Bd.returns (by simp) (hb hby at_147) hr
      · show Q0 Z p0 p1 p2 p3 p4 z h0 n0 _ T362.heap _
        rw [e362q]
        exact ⟨rfl, N362⟩
    · refine own_go (B := T361.setTop (mkF m 76 #[.val (.int p0), .val (.int p1), .val (.int p2), .val (.int p3), .val (.int p4), .val (.ref c229), .val (.ref c233), .val (.ref c241), .val (.ref c253), .val (.ref b269), .val (.ref b312), .val (.int (p0 &&& (3 : Int32))), .val (.ref b312), .unset] [(.int p4), (.int p2)])) (fun t_ k_ => ?_) ?_
      · show Steps p.tables e below (T361.setTop (mkF m 70 #[.val (.int p0), .val (.int p1), .val (.int p2), .val (.int p3), .val (.int p4), .val (.ref c229), .val (.ref c233), .val (.ref c241), .val (.ref c253), .val (.ref b269), .val (.ref b312), .val (.int (p0 &&& (3 : Int32))), .val (.ref b312), .unset] [(.int (own_same p1 p3))])) _
        refine XS.ifNo X361.here hx rfl (hb hby at_70) rfl ((if0 _ _).trans (feq hc70).1) ?_
        show Steps p.tables e below (T361.setTop (mkF m 73 #[.val (.int p0), .val (.int p1), .val (.int p2), .val (.int p3), .val (.int p4), .val (.ref c229), .val (.ref c233), .val (.ref c241), .val (.ref c253), .val (.ref b269), .val (.ref b312), .val (.int (p0 &&& (3 : Int32))), .val (.ref b312), .unset] [])) _
        refine XS.iloadN X361.here hx rfl (hb hby at_73) rfl ?_
        show Steps p.tables e below (T361.setTop (mkF m 74 #[.val (.int p0), .val (.int p1), .val (.int p2), .val (.int p3), .val (.int p4), .val (.ref c229), .val (.ref c233), .val (.ref c241), .val (.ref c253), .val (.ref b269), .val (.ref b312), .val (.int (p0 &&& (3 : Int32))), .val (.ref b312), .unset] [(.int p2)])) _
        refine XS.iload X361.here hx rfl (hb hby at_74) rfl ?_
        show Steps p.tables e below (T361.setTop (mkF m 76 #[.val (.int p0), .val (.int p1), .val (.int p2), .val (.int p3), .val (.int p4), .val (.ref c229), .val (.ref c233), .val (.ref c241), .val (.ref c253), .val (.ref b269), .val (.ref b312), .val (.int (p0 &&& (3 : Int32))), .val (.ref b312), .unset] [(.int p4), (.int p2)])) _
        exact k_
      obtain ⟨vv364, _, ⟨T364, L364, k364, n364⟩, -, X364, ⟨Lc364, hQ364, l364, y364, z364⟩, st364⟩ := Jvm.LawKit.callS X361 hx (y := (⟨"com/example/prudent_annotator/prudentannotator/profile/FileChecksumEqualsPinLaw", "same", "(II)Z"⟩ : MethodName)) hown337 (mvT hZ337 (hw _ (List.mem_of_getElem? (i := 64) rfl))) (mvT hZ337 (hw _ (List.mem_of_getElem? (i := 65) rfl))) (mvT hZ337 (hw _ (List.mem_of_getElem? (i := 2) rfl))) (mvT hZ337 (hw _ (List.mem_of_getElem? (i := 66) rfl))) (by decide) (backOf (W := 0) (rm13 l Z a0 hw [] p2 p4 T337.heap n0 Z337) hZ337 (hw _ (List.mem_of_getElem? (i := 66) rfl)) (hw _ (List.mem_of_getElem? (i := 2) rfl)) (by decide) (by decide)) (g := (mkF m 76 #[.val (.int p0), .val (.int p1), .val (.int p2), .val (.int p3), .val (.int p4), .val (.ref c229), .val (.ref c233), .val (.ref c241), .val (.ref c253), .val (.ref b269), .val (.ref b312), .val (.int (p0 &&& (3 : Int32))), .val (.ref b312), .unset] [(.int p4), (.int p2)])) rfl (by rw [hml]; rfl) (argsL := [(.int p2), (.int p4)]) (rest := []) (lenOf pd__28_II_29_Z rfl) rfl (by show 2 * 0 + _ ≤ _; exact Nat.le_of_eq rfl) (hb hby at_76) (fun _ _ => ⟨rfl, e361q, (by decide : 34 + 0 ≤ _), (by decide : 156 + 0 ≤ _)⟩)
      dsimp only [Pt.U, Pt.locs, Pt.cells, Pt.slots] at X364 l364 y364 z364 st364 hQ364
      subst l364 y364 z364
      obtain ⟨rfl, N364q, e364q⟩ := hQ364
      have N364 := Fr.app N361 N364q
      refine own_go (B := T364.setTop (mkF m 79 #[.val (.int p0), .val (.int p1), .val (.int p2), .val (.int p3), .val (.int p4), .val (.ref c229), .val (.ref c233), .val (.ref c241), .val (.ref c253), .val (.ref b269), .val (.ref b312), .val (.int (p0 &&& (3 : Int32))), .val (.ref b312), .unset] [(.int (own_same p2 p4))])) (fun t_ k_ => st364 _ k_) ?_
      by_cases hc79 : (own_same p2 p4) = (0 : Int32)
      · refine own_go (B := T364.setTop (mkF m 134 #[.val (.int p0), .val (.int p1), .val (.int p2), .val (.int p3), .val (.int p4), .val (.ref c229), .val (.ref c233), .val (.ref c241), .val (.ref c253), .val (.ref b269), .val (.ref b312), .val (.int (p0 &&& (3 : Int32))), .val (.ref b312), .val (.int (0 : Int32))] [(.ref b312), (.ref b269)])) (fun t_ k_ => ?_) ?_
        · show Steps p.tables e below (T364.setTop (mkF m 79 #[.val (.int p0), .val (.int p1), .val (.int p2), .val (.int p3), .val (.int p4), .val (.ref c229), .val (.ref c233), .val (.ref c241), .val (.ref c253), .val (.ref b269), .val (.ref b312), .val (.int (p0 &&& (3 : Int32))), .val (.ref b312), .unset] [(.int (own_same p2 p4))])) _
          refine XS.ifYes X364.here hx rfl (pc0 := 79) (pc' := 86) rfl (hb hby at_79) rfl ((if0 _ _).trans (teq hc79).1) (by decide) (by decide) ?_
          show Steps p.tables e below (T364.setTop (mkF m 86 #[.val (.int p0), .val (.int p1), .val (.int p2), .val (.int p3), .val (.int p4), .val (.ref c229), .val (.ref c233), .val (.ref c241), .val (.ref c253), .val (.ref b269), .val (.ref b312), .val (.int (p0 &&& (3 : Int32))), .val (.ref b312), .unset] [])) _
          refine XS.iconst X364.here hx rfl (hb hby at_86) ?_
          show Steps p.tables e below (T364.setTop (mkF m 87 #[.val (.int p0), .val (.int p1), .val (.int p2), .val (.int p3), .val (.int p4), .val (.ref c229), .val (.ref c233), .val (.ref c241), .val (.ref c253), .val (.ref b269), .val (.ref b312), .val (.int (p0 &&& (3 : Int32))), .val (.ref b312), .unset] [(.int (0 : Int32))])) _
          refine XS.istore X364.here hx rfl (hb hby at_87) rfl (l' := #[.val (.int p0), .val (.int p1), .val (.int p2), .val (.int p3), .val (.int p4), .val (.ref c229), .val (.ref c233), .val (.ref c241), .val (.ref c253), .val (.ref b269), .val (.ref b312), .val (.int (p0 &&& (3 : Int32))), .val (.ref b312), .val (.int (0 : Int32))]) rfl ?_
          show Steps p.tables e below (T364.setTop (mkF m 89 #[.val (.int p0), .val (.int p1), .val (.int p2), .val (.int p3), .val (.int p4), .val (.ref c229), .val (.ref c233), .val (.ref c241), .val (.ref c253), .val (.ref b269), .val (.ref b312), .val (.int (p0 &&& (3 : Int32))), .val (.ref b312), .val (.int (0 : Int32))] [])) _
          refine XS.goto X364.here hx rfl (pc0 := 89) (pc' := 130) rfl (hb hby at_89) (by decide) (by decide) ?_
          show Steps p.tables e below (T364.setTop (mkF m 130 #[.val (.int p0), .val (.int p1), .val (.int p2), .val (.int p3), .val (.int p4), .val (.ref c229), .val (.ref c233), .val (.ref c241), .val (.ref c253), .val (.ref b269), .val (.ref b312), .val (.int (p0 &&& (3 : Int32))), .val (.ref b312), .val (.int (0 : Int32))] [])) _
          refine XS.aload X364.here hx rfl (hb hby at_130) rfl rfl ?_
          show Steps p.tables e below (T364.setTop (mkF m 132 #[.val (.int p0), .val (.int p1), .val (.int p2), .val (.int p3), .val (.int p4), .val (.ref c229), .val (.ref c233), .val (.ref c241), .val (.ref c253), .val (.ref b269), .val (.ref b312), .val (.int (p0 &&& (3 : Int32))), .val (.ref b312), .val (.int (0 : Int32))] [(.ref b269)])) _
          refine XS.aload X364.here hx rfl (hb hby at_132) rfl rfl ?_
          show Steps p.tables e below (T364.setTop (mkF m 134 #[.val (.int p0), .val (.int p1), .val (.int p2), .val (.int p3), .val (.int p4), .val (.ref c229), .val (.ref c233), .val (.ref c241), .val (.ref c253), .val (.ref b269), .val (.ref b312), .val (.int (p0 &&& (3 : Int32))), .val (.ref b312), .val (.int (0 : Int32))] [(.ref b312), (.ref b269)])) _
          exact k_
        obtain ⟨cq365, kq365, q365a, q365b, q365c⟩ := isOf hZ337 e364q f357
        obtain ⟨vv365, _, ⟨T365, L365, k365, n365⟩, -, X365, ⟨Lc365, hQ365, l365, y365, z365⟩, st365⟩ := X364.virtualBack hx (y := (⟨"com/example/prudent_annotator/prudentannotator/profile/FileChecksum", "equals", "(Ljava/lang/Object;)Z"⟩ : MethodName)) (z := (⟨"com/example/prudent_annotator/prudentannotator/profile/FileChecksum", "equals", "(Ljava/lang/Object;)Z"⟩ : MethodName)) hown337 (mvT hZ337 (hw _ (List.mem_of_getElem? (i := 67) rfl))) (mvT hZ337 (hw _ (List.mem_of_getElem? (i := 68) rfl))) (notFace_of_selects (args := #[]) (mvT hZ337 (hw _ (List.mem_of_getElem? (i := 70) rfl)))) (mvT hZ337 (hw _ (List.mem_of_getElem? (i := 70) rfl))) (mvT hZ337 (hw _ (List.mem_of_getElem? (i := 69) rfl))) (by decide) (backOf (W := 0) (rmEq l Z a0 hw [] b269 b312 z c229 t229 kb229 p1 c233 t233 kb233 p2 c241 t241 kb241 p3 c253 t253 kb253 p4 T337.heap n0 Z337 f340 S0 hz f357 f360 f358 f359 Ff337 Fs337 f341 f342 f343 f344 f345 f346 f347 f348 f349 f350 f351 f352 f353 f354 f355 f356) hZ337 (hw _ (List.mem_of_getElem? (i := 71) rfl)) (hw _ (List.mem_of_getElem? (i := 48) rfl)) (by decide) (by decide)) q365a q365c (g := (mkF m 134 #[.val (.int p0), .val (.int p1), .val (.int p2), .val (.int p3), .val (.int p4), .val (.ref c229), .val (.ref c233), .val (.ref c241), .val (.ref c253), .val (.ref b269), .val (.ref b312), .val (.int (p0 &&& (3 : Int32))), .val (.ref b312), .val (.int (0 : Int32))] [(.ref b312), (.ref b269)])) rfl (by rw [hml]; rfl) (Steps.refl _) (argsL := [(.ref b312)]) (rest := []) (lenOf pd__28_Ljava_2f_lang_2f_Object_3b__29_Z rfl) rfl (by show 2 * 0 + _ ≤ _; exact Nat.le_of_eq rfl) (hb hby at_134) (fun _ _ => ⟨rfl, e364q, (by decide : 34 + 0 ≤ _), (by decide : 156 + 0 ≤ _)⟩)
        dsimp only [Pt.U, Pt.locs, Pt.cells, Pt.slots] at X365 l365 y365 z365 st365 hQ365
        subst l365 y365 z365
        obtain ⟨rfl, N365q, e365q⟩ := hQ365
        have N365 := Fr.app N364 N365q
        refine own_go (B := T365.setTop (mkF m 137 #[.val (.int p0), .val (.int p1), .val (.int p2), .val (.int p3), .val (.int p4), .val (.ref c229), .val (.ref c233), .val (.ref c241), .val (.ref c253), .val (.ref b269), .val (.ref b312), .val (.int (p0 &&& (3 : Int32))), .val (.ref b312), .val (.int (0 : Int32))] [(.int (if own_cs p1 = own_cs p3 ∧ own_cs p2 = own_cs p4 then 1 else 0))])) (fun t_ k_ => st365.trans k_) ?_
        refine own_go (B := T365.setTop (mkF m 147 #[.val (.int p0), .val (.int p1), .val (.int p2), .val (.int p3), .val (.int p4), .val (.ref c229), .val (.ref c233), .val (.ref c241), .val (.ref c253), .val (.ref b269), .val (.ref b312), .val (.int (p0 &&& (3 : Int32))), .val (.ref b312), .val (.int (0 : Int32))] [(.int (1 : Int32))])) (fun t_ k_ => ?_) ?_
        · show Steps p.tables e below (T365.setTop (mkF m 137 #[.val (.int p0), .val (.int p1), .val (.int p2), .val (.int p3), .val (.int p4), .val (.ref c229), .val (.ref c233), .val (.ref c241), .val (.ref c253), .val (.ref b269), .val (.ref b312), .val (.int (p0 &&& (3 : Int32))), .val (.ref b312), .val (.int (0 : Int32))] [(.int (if own_cs p1 = own_cs p3 ∧ own_cs p2 = own_cs p4 then 1 else 0))])) _
          refine XS.iload X365.here hx rfl (hb hby at_137) rfl ?_
          show Steps p.tables e below (T365.setTop (mkF m 139 #[.val (.int p0), .val (.int p1), .val (.int p2), .val (.int p3), .val (.int p4), .val (.ref c229), .val (.ref c233), .val (.ref c241), .val (.ref c253), .val (.ref b269), .val (.ref b312), .val (.int (p0 &&& (3 : Int32))), .val (.ref b312), .val (.int (0 : Int32))] [(.int (0 : Int32)), (.int (if own_cs p1 = own_cs p3 ∧ own_cs p2 = own_cs p4 then 1 else 0))])) _
          refine XS.icmpNo X365.here hx rfl (hb hby at_139) rfl (teq (if_neg (fun q => by rw [own_sy q.2] at hc79; exact absurd hc79 (by decide)))).2 ?_
          show Steps p.tables e below (T365.setTop (mkF m 142 #[.val (.int p0), .val (.int p1), .val (.int p2), .val (.int p3), .val (.int p4), .val (.ref c229), .val (.ref c233), .val (.ref c241), .val (.ref c253), .val (.ref b269), .val (.ref b312), .val (.int (p0 &&& (3 : Int32))), .val (.ref b312), .val (.int (0 : Int32))] [])) _
          refine XS.iconst X365.here hx rfl (hb hby at_142) ?_
          show Steps p.tables e below (T365.setTop (mkF m 143 #[.val (.int p0), .val (.int p1), .val (.int p2), .val (.int p3), .val (.int p4), .val (.ref c229), .val (.ref c233), .val (.ref c241), .val (.ref c253), .val (.ref b269), .val (.ref b312), .val (.int (p0 &&& (3 : Int32))), .val (.ref b312), .val (.int (0 : Int32))] [(.int (1 : Int32))])) _
          refine XS.goto X365.here hx rfl (pc0 := 143) (pc' := 147) rfl (hb hby at_143) (by decide) (by decide) ?_
          show Steps p.tables e below (T365.setTop (mkF m 147 #[.val (.int p0), .val (.int p1), .val (.int p2), .val (.int p3), .val (.int p4), .val (.ref c229), .val (.ref c233), .val (.ref c241), .val (.ref c253), .val (.ref b269), .val (.ref b312), .val (.int (p0 &&& (3 : Int32))), .val (.ref b312), .val (.int (0 : Int32))] [(.int (1 : Int32))])) _
          exact k_
        obtain ⟨fs, hr, hrun, hended, hRW⟩ := Jvm.Stand.leaveW (s := s) (vm₁ := T337.vm) X365 hS337 (by rw [e365q]; exact hkr337) (v := some (.int (1 : Int32))) (fun h => by rw [Bd.returns] at h; cases h)
        have CRf : CHr Z own_EL s.vm s.heap (T365.setFrames fs).vm (T365.setFrames fs).heap := by
          show CHr Z own_EL s.vm s.heap T365.vm T365.heap
          rw [hh, e365q]
          exact f338.trans (CHv.at (s := s) (vm0 := T337.vm) X365 hZ337 hEL f338.1)
        refine own_at ?_ (hG _ _ ⟨hrun, hended, _, _, rfl, ?_, CRf, hRW.1, hRW.2.1, hRW.2.2.1, hRW.2.2.2.mono (by decide) (by decide)⟩)
        · show Steps p.tables e below (T365.setTop (mkF m 147 #[.val (.int p0), .val (.int p1), .val (.int p2), .val (.int p3), .val (.int p4), .val (.ref c229), .val (.ref c233), .val (.ref c241), .val (.ref c253), .val (.ref b269), .val (.ref b312), .val (.int (p0 &&& (3 : Int32))), .val (.ref b312), .val (.int (0 : Int32))] [(.int (1 : Int32))])) _
          exact retN X365 hx (t := .boolean) Bd.returns (by simp) (hb hby at_147) hr
        · show Q0 Z p0 p1 p2 p3 p4 z h0 n0 _ T365.heap _
          rw [e365q]
          exact ⟨rfl, N365⟩
      · refine own_go (B := T364.setTop (mkF m 134 #[.val (.int p0), .val (.int p1), .val (.int p2), .val (.int p3), .val (.int p4), .val (.ref c229), .val (.ref c233), .val (.ref c241), .val (.ref c253), .val (.ref b269), .val (.ref b312), .val (.int (p0 &&& (3 : Int32))), .val (.ref b312), .val (.int (1 : Int32))] [(.ref b312), (.ref b269)])) (fun t_ k_ => ?_) ?_
        · show Steps p.tables e below (T364.setTop (mkF m 79 #[.val (.int p0), .val (.int p1), .val (.int p2), .val (.int p3), .val (.int p4), .val (.ref c229), .val (.ref c233), .val (.ref c241), .val (.ref c253), .val (.ref b269), .val (.ref b312), .val (.int (p0 &&& (3 : Int32))), .val (.ref b312), .unset] [(.int (own_same p2 p4))])) _
          refine XS.ifNo X364.here hx rfl (hb hby at_79) rfl ((if0 _ _).trans (feq hc79).1) ?_
          show Steps p.tables e below (T364.setTop (mkF m 82 #[.val (.int p0), .val (.int p1), .val (.int p2), .val (.int p3), .val (.int p4), .val (.ref c229), .val (.ref c233), .val (.ref c241), .val (.ref c253), .val (.ref b269), .val (.ref b312), .val (.int (p0 &&& (3 : Int32))), .val (.ref b312), .unset] [])) _
          refine XS.iconst X364.here hx rfl (hb hby at_82) ?_
          show Steps p.tables e below (T364.setTop (mkF m 83 #[.val (.int p0), .val (.int p1), .val (.int p2), .val (.int p3), .val (.int p4), .val (.ref c229), .val (.ref c233), .val (.ref c241), .val (.ref c253), .val (.ref b269), .val (.ref b312), .val (.int (p0 &&& (3 : Int32))), .val (.ref b312), .unset] [(.int (1 : Int32))])) _
          refine XS.goto X364.here hx rfl (pc0 := 83) (pc' := 87) rfl (hb hby at_83) (by decide) (by decide) ?_
          show Steps p.tables e below (T364.setTop (mkF m 87 #[.val (.int p0), .val (.int p1), .val (.int p2), .val (.int p3), .val (.int p4), .val (.ref c229), .val (.ref c233), .val (.ref c241), .val (.ref c253), .val (.ref b269), .val (.ref b312), .val (.int (p0 &&& (3 : Int32))), .val (.ref b312), .unset] [(.int (1 : Int32))])) _
          refine XS.istore X364.here hx rfl (hb hby at_87) rfl (l' := #[.val (.int p0), .val (.int p1), .val (.int p2), .val (.int p3), .val (.int p4), .val (.ref c229), .val (.ref c233), .val (.ref c241), .val (.ref c253), .val (.ref b269), .val (.ref b312), .val (.int (p0 &&& (3 : Int32))), .val (.ref b312), .val (.int (1 : Int32))]) rfl ?_
          show Steps p.tables e below (T364.setTop (mkF m 89 #[.val (.int p0), .val (.int p1), .val (.int p2), .val (.int p3), .val (.int p4), .val (.ref c229), .val (.ref c233), .val (.ref c241), .val (.ref c253), .val (.ref b269), .val (.ref b312), .val (.int (p0 &&& (3 : Int32))), .val (.ref b312), .val (.int (1 : Int32))] [])) _
          refine XS.goto X364.here hx rfl (pc0 := 89) (pc' := 130) rfl (hb hby at_89) (by decide) (by decide) ?_
          show Steps p.tables e below (T364.setTop (mkF m 130 #[.val (.int p0), .val (.int p1), .val (.int p2), .val (.int p3), .val (.int p4), .val (.ref c229), .val (.ref c233), .val (.ref c241), .val (.ref c253), .val (.ref b269), .val (.ref b312), .val (.int (p0 &&& (3 : Int32))), .val (.ref b312), .val (.int (1 : Int32))] [])) _
          refine XS.aload X364.here hx rfl (hb hby at_130) rfl rfl ?_
          show Steps p.tables e below (T364.setTop (mkF m 132 #[.val (.int p0), .val (.int p1), .val (.int p2), .val (.int p3), .val (.int p4), .val (.ref c229), .val (.ref c233), .val (.ref c241), .val (.ref c253), .val (.ref b269), .val (.ref b312), .val (.int (p0 &&& (3 : Int32))), .val (.ref b312), .val (.int (1 : Int32))] [(.ref b269)])) _
          refine XS.aload X364.here hx rfl (hb hby at_132) rfl rfl ?_
          show Steps p.tables e below (T364.setTop (mkF m 134 #[.val (.int p0), .val (.int p1), .val (.int p2), .val (.int p3), .val (.int p4), .val (.ref c229), .val (.ref c233), .val (.ref c241), .val (.ref c253), .val (.ref b269), .val (.ref b312), .val (.int (p0 &&& (3 : Int32))), .val (.ref b312), .val (.int (1 : Int32))] [(.ref b312), (.ref b269)])) _
          exact k_
        obtain ⟨cq367, kq367, q367a, q367b, q367c⟩ := isOf hZ337 e364q f357
        obtain ⟨vv367, _, ⟨T367, L367, k367, n367⟩, -, X367, ⟨Lc367, hQ367, l367, y367, z367⟩, st367⟩ := X364.virtualBack hx (y := (⟨"com/example/prudent_annotator/prudentannotator/profile/FileChecksum", "equals", "(Ljava/lang/Object;)Z"⟩ : MethodName)) (z := (⟨"com/example/prudent_annotator/prudentannotator/profile/FileChecksum", "equals", "(Ljava/lang/Object;)Z"⟩ : MethodName)) hown337 (mvT hZ337 (hw _ (List.mem_of_getElem? (i := 67) rfl))) (mvT hZ337 (hw _ (List.mem_of_getElem? (i := 68) rfl))) (notFace_of_selects (args := #[]) (mvT hZ337 (hw _ (List.mem_of_getElem? (i := 70) rfl)))) (mvT hZ337 (hw _ (List.mem_of_getElem? (i := 70) rfl))) (mvT hZ337 (hw _ (List.mem_of_getElem? (i := 69) rfl))) (by decide) (backOf (W := 0) (rmEq l Z a0 hw [] b269 b312 z c229 t229 kb229 p1 c233 t233 kb233 p2 c241 t241 kb241 p3 c253 t253 kb253 p4 T337.heap n0 Z337 f340 S0 hz f357 f360 f358 f359 Ff337 Fs337 f341 f342 f343 f344 f345 f346 f347 f348 f349 f350 f351 f352 f353 f354 f355 f356) hZ337 (hw _ (List.mem_of_getElem? (i := 71) rfl)) (hw _ (List.mem_of_getElem? (i := 48) rfl)) (by decide) (by decide)) q367a q367c (g := (mkF m 134 #[.val (.int p0), .val (.int p1), .val (.int p2), .val (.int p3), .val (.int p4), .val (.ref c229), .val (.ref c233), .val (.ref c241), .val (.ref c253), .val (.ref b269), .val (.ref b312), .val (.int (p0 &&& (3 : Int32))), .val (.ref b312), .val (.int (1 : Int32))] [(.ref b312), (.ref b269)])) rfl (by rw [hml]; rfl) (Steps.refl _) (argsL := [(.ref b312)]) (rest := []) (lenOf pd__28_Ljava_2f_lang_2f_Object_3b__29_Z rfl) rfl (by show 2 * 0 + _ ≤ _; exact Nat.le_of_eq rfl) (hb hby at_134) (fun _ _ => ⟨rfl, e364q, (by decide : 34 + 0 ≤ _), (by decide : 156 + 0 ≤ _)⟩)
        dsimp only [Pt.U, Pt.locs, Pt.cells, Pt.slots] at X367 l367 y367 z367 st367 hQ367
        subst l367 y367 z367
        obtain ⟨rfl, N367q, e367q⟩ := hQ367
        have N367 := Fr.app N364 N367q
        refine own_go (B := T367.setTop (mkF m 137 #[.val (.int p0), .val (.int p1), .val (.int p2), .val (.int p3), .val (.int p4), .val (.ref c229), .val (.ref c233), .val (.ref c241), .val (.ref c253), .val (.ref b269), .val (.ref b312), .val (.int (p0 &&& (3 : Int32))), .val (.ref b312), .val (.int (1 : Int32))] [(.int (if own_cs p1 = own_cs p3 ∧ own_cs p2 = own_cs p4 then 1 else 0))])) (fun t_ k_ => st367.trans k_) ?_
        refine own_go (B := T367.setTop (mkF m 147 #[.val (.int p0), .val (.int p1), .val (.int p2), .val (.int p3), .val (.int p4), .val (.ref c229), .val (.ref c233), .val (.ref c241), .val (.ref c253), .val (.ref b269), .val (.ref b312), .val (.int (p0 &&& (3 : Int32))), .val (.ref b312), .val (.int (1 : Int32))] [(.int (1 : Int32))])) (fun t_ k_ => ?_) ?_
        · show Steps p.tables e below (T367.setTop (mkF m 137 #[.val (.int p0), .val (.int p1), .val (.int p2), .val (.int p3), .val (.int p4), .val (.ref c229), .val (.ref c233), .val (.ref c241), .val (.ref c253), .val (.ref b269), .val (.ref b312), .val (.int (p0 &&& (3 : Int32))), .val (.ref b312), .val (.int (1 : Int32))] [(.int (if own_cs p1 = own_cs p3 ∧ own_cs p2 = own_cs p4 then 1 else 0))])) _
          refine XS.iload X367.here hx rfl (hb hby at_137) rfl ?_
          show Steps p.tables e below (T367.setTop (mkF m 139 #[.val (.int p0), .val (.int p1), .val (.int p2), .val (.int p3), .val (.int p4), .val (.ref c229), .val (.ref c233), .val (.ref c241), .val (.ref c253), .val (.ref b269), .val (.ref b312), .val (.int (p0 &&& (3 : Int32))), .val (.ref b312), .val (.int (1 : Int32))] [(.int (1 : Int32)), (.int (if own_cs p1 = own_cs p3 ∧ own_cs p2 = own_cs p4 then 1 else 0))])) _
          refine XS.icmpNo X367.here hx rfl (hb hby at_139) rfl (teq (if_pos ⟨Classical.byContradiction fun q => hc70 (own_sn q), Classical.byContradiction fun q => hc79 (own_sn q)⟩)).2 ?_
          show Steps p.tables e below (T367.setTop (mkF m 142 #[.val (.int p0), .val (.int p1), .val (.int p2), .val (.int p3), .val (.int p4), .val (.ref c229), .val (.ref c233), .val (.ref c241), .val (.ref c253), .val (.ref b269), .val (.ref b312), .val (.int (p0 &&& (3 : Int32))), .val (.ref b312), .val (.int (1 : Int32))] [])) _
          refine XS.iconst X367.here hx rfl (hb hby at_142) ?_
          show Steps p.tables e below (T367.setTop (mkF m 143 #[.val (.int p0), .val (.int p1), .val (.int p2), .val (.int p3), .val (.int p4), .val (.ref c229), .val (.ref c233), .val (.ref c241), .val (.ref c253), .val (.ref b269), .val (.ref b312), .val (.int (p0 &&& (3 : Int32))), .val (.ref b312), .val (.int (1 : Int32))] [(.int (1 : Int32))])) _
          refine XS.goto X367.here hx rfl (pc0 := 143) (pc' := 147) rfl (hb hby at_143) (by decide) (by decide) ?_
          show Steps p.tables e below (T367.setTop (mkF m 147 #[.val (.int p0), .val (.int p1), .val (.int p2), .val (.int p3), .val (.int p4), .val (.ref c229), .val (.ref c233), .val (.ref c241), .val (.ref c253), .val (.ref b269), .val (.ref b312), .val (.int (p0 &&& (3 : Int32))), .val (.ref b312), .val (.int (1 : Int32))] [(.int (1 : Int32))])) _
          exact k_
        obtain ⟨fs, hr, hrun, hended, hRW⟩ := Jvm.Stand.leaveW (s := s) (vm₁ := T337.vm) X367 hS337 (by rw [e367q]; exact hkr337) (v := some (.int (1 : Int32))) (fun h => by rw [Bd.returns] at h; cases h)
        have CRf : CHr Z own_EL s.vm s.heap (T367.setFrames fs).vm (T367.setFrames fs).heap := by
          show CHr Z own_EL s.vm s.heap T367.vm T367.heap
          rw [hh, e367q]
          exact f338.trans (CHv.at (s := s) (vm0 := T337.vm) X367 hZ337 hEL f338.1)
        refine own_at ?_ (hG _ _ ⟨hrun, hended, _, _, rfl, ?_, CRf, hRW.1, hRW.2.1, hRW.2.2.1, hRW.2.2.2.mono (by decide) (by decide)⟩)
        · show Steps p.tables e below (T367.setTop (mkF m 147 #[.val (.int p0), .val (.int p1), .val (.int p2), .val (.int p3), .val (.int p4), .val (.ref c229), .val (.ref c233), .val (.ref c241), .val (.ref c253), .val (.ref b269), .val (.ref b312), .val (.int (p0 &&& (3 : Int32))), .val (.ref b312), .val (.int (1 : Int32))] [(.int (1 : Int32))])) _
          exact retN X367 hx (t := .boolean) Bd.returns (by simp) (hb hby at_147) hr
        · show Q0 Z p0 p1 p2 p3 p4 z h0 n0 _ T367.heap _
          rw [e367q]
          exact ⟨rfl, N367⟩
  · refine own_go (B := T337.setTop (mkF m 95 #[.val (.int p0), .val (.int p1), .val (.int p2), .val (.int p3), .val (.int p4), .val (.ref c229), .val (.ref c233), .val (.ref c241), .val (.ref c253), .val (.ref b269), .val (.ref b312), .val (.int (p0 &&& (3 : Int32))), .unset, .unset] [(.int (1 : Int32)), (.int (p0 &&& (3 : Int32)))])) (fun t_ k_ => ?_) ?_
    · show Steps p.tables e below (T337.setTop (mkF m 58 #[.val (.int p0), .val (.int p1), .val (.int p2), .val (.int p3), .val (.int p4), .val (.ref c229), .val (.ref c233), .val (.ref c241), .val (.ref c253), .val (.ref b269), .val (.ref b312), .val (.int (p0 &&& (3 : Int32))), .unset, .unset] [(.int (p0 &&& (3 : Int32)))])) _
      refine XS.ifYes X337r.here hx rfl (pc0 := 58) (pc' := 92) rfl (hb hby at_58) rfl ((if0 _ _).trans (feq hc58).2) (by decide) (by decide) ?_
      show Steps p.tables e below (T337.setTop (mkF m 92 #[.val (.int p0), .val (.int p1), .val (.int p2), .val (.int p3), .val (.int p4), .val (.ref c229), .val (.ref c233), .val (.ref c241), .val (.ref c253), .val (.ref b269), .val (.ref b312), .val (.int (p0 &&& (3 : Int32))), .unset, .unset] [])) _
      refine XS.iload X337r.here hx rfl (hb hby at_92) rfl ?_
      show Steps p.tables e below (T337.setTop (mkF m 94 #[.val (.int p0), .val (.int p1), .val (.int p2), .val (.int p3), .val (.int p4), .val (.ref c229), .val (.ref c233), .val (.ref c241), .val (.ref c253), .val (.ref b269), .val (.ref b312), .val (.int (p0 &&& (3 : Int32))), .unset, .unset] [(.int (p0 &&& (3 : Int32)))])) _
      refine XS.iconst X337r.here hx rfl (hb hby at_94) ?_
      show Steps p.tables e below (T337.setTop (mkF m 95 #[.val (.int p0), .val (.int p1), .val (.int p2), .val (.int p3), .val (.int p4), .val (.ref c229), .val (.ref c233), .val (.ref c241), .val (.ref c253), .val (.ref b269), .val (.ref b312), .val (.int (p0 &&& (3 : Int32))), .unset, .unset] [(.int (1 : Int32)), (.int (p0 &&& (3 : Int32)))])) _
      exact k_
    by_cases hc95 : (p0 &&& (3 : Int32)) = (1 : Int32)
    · refine own_go (B := T337.setTop (mkF m 134 #[.val (.int p0), .val (.int p1), .val (.int p2), .val (.int p3), .val (.int p4), .val (.ref c229), .val (.ref c233), .val (.ref c241), .val (.ref c253), .val (.ref b269), .val (.ref b312), .val (.int (p0 &&& (3 : Int32))), .val (.ref b269), .val (.int (1 : Int32))] [(.ref b269), (.ref b269)])) (fun t_ k_ => ?_) ?_
      · show Steps p.tables e below (T337.setTop (mkF m 95 #[.val (.int p0), .val (.int p1), .val (.int p2), .val (.int p3), .val (.int p4), .val (.ref c229), .val (.ref c233), .val (.ref c241), .val (.ref c253), .val (.ref b269), .val (.ref b312), .val (.int (p0 &&& (3 : Int32))), .unset, .unset] [(.int (1 : Int32)), (.int (p0 &&& (3 : Int32)))])) _
        refine XS.icmpNo X337r.here hx rfl (hb hby at_95) rfl (teq hc95).2 ?_
        show Steps p.tables e below (T337.setTop (mkF m 98 #[.val (.int p0), .val (.int p1), .val (.int p2), .val (.int p3), .val (.int p4), .val (.ref c229), .val (.ref c233), .val (.ref c241), .val (.ref c253), .val (.ref b269), .val (.ref b312), .val (.int (p0 &&& (3 : Int32))), .unset, .unset] [])) _
        refine XS.aload X337r.here hx rfl (hb hby at_98) rfl rfl ?_
        show Steps p.tables e below (T337.setTop (mkF m 100 #[.val (.int p0), .val (.int p1), .val (.int p2), .val (.int p3), .val (.int p4), .val (.ref c229), .val (.ref c233), .val (.ref c241), .val (.ref c253), .val (.ref b269), .val (.ref b312), .val (.int (p0 &&& (3 : Int32))), .unset, .unset] [(.ref b269)])) _
        refine XS.astore X337r.here hx rfl (hb hby at_100) rfl rfl (l' := #[.val (.int p0), .val (.int p1), .val (.int p2), .val (.int p3), .val (.int p4), .val (.ref c229), .val (.ref c233), .val (.ref c241), .val (.ref c253), .val (.ref b269), .val (.ref b312), .val (.int (p0 &&& (3 : Int32))), .val (.ref b269), .unset]) rfl ?_
        show Steps p.tables e below (T337.setTop (mkF m 102 #[.val (.int p0), .val (.int p1), .val (.int p2), .val (.int p3), .val (.int p4), .val (.ref c229), .val (.ref c233), .val (.ref c241), .val (.ref c253), .val (.ref b269), .val (.ref b312), .val (.int (p0 &&& (3 : Int32))), .val (.ref b269), .unset] [])) _
        refine XS.iconst X337r.here hx rfl (hb hby at_102) ?_
        show Steps p.tables e below (T337.setTop (mkF m 103 #[.val (.int p0), .val (.int p1), .val (.int p2), .val (.int p3), .val (.int p4), .val (.ref c229), .val (.ref c233), .val (.ref c241), .val (.ref c253), .val (.ref b269), .val (.ref b312), .val (.int (p0 &&& (3 : Int32))), .val (.ref b269), .unset] [(.int (1 : Int32))])) _
        refine XS.istore X337r.here hx rfl (hb hby at_103) rfl (l' := #[.val (.int p0), .val (.int p1), .val (.int p2), .val (.int p3), .val (.int p4), .val (.ref c229), .val (.ref c233), .val (.ref c241), .val (.ref c253), .val (.ref b269), .val (.ref b312), .val (.int (p0 &&& (3 : Int32))), .val (.ref b269), .val (.int (1 : Int32))]) rfl ?_
        show Steps p.tables e below (T337.setTop (mkF m 105 #[.val (.int p0), .val (.int p1), .val (.int p2), .val (.int p3), .val (.int p4), .val (.ref c229), .val (.ref c233), .val (.ref c241), .val (.ref c253), .val (.ref b269), .val (.ref b312), .val (.int (p0 &&& (3 : Int32))), .val (.ref b269), .val (.int (1 : Int32))] [])) _
        refine XS.goto X337r.here hx rfl (pc0 := 105) (pc' := 130) rfl (hb hby at_105) (by decide) (by decide) ?_
        show Steps p.tables e below (T337.setTop (mkF m 130 #[.val (.int p0), .val (.int p1), .val (.int p2), .val (.int p3), .val (.int p4), .val (.ref c229), .val (.ref c233), .val (.ref c241), .val (.ref c253), .val (.ref b269), .val (.ref b312), .val (.int (p0 &&& (3 : Int32))), .val (.ref b269), .val (.int (1 : Int32))] [])) _
        refine XS.aload X337r.here hx rfl (hb hby at_130) rfl rfl ?_
        show Steps p.tables e below (T337.setTop (mkF m 132 #[.val (.int p0), .val (.int p1), .val (.int p2), .val (.int p3), .val (.int p4), .val (.ref c229), .val (.ref c233), .val (.ref c241), .val (.ref c253), .val (.ref b269), .val (.ref b312), .val (.int (p0 &&& (3 : Int32))), .val (.ref b269), .val (.int (1 : Int32))] [(.ref b269)])) _
        refine XS.aload X337r.here hx rfl (hb hby at_132) rfl rfl ?_
        show Steps p.tables e below (T337.setTop (mkF m 134 #[.val (.int p0), .val (.int p1), .val (.int p2), .val (.int p3), .val (.int p4), .val (.ref c229), .val (.ref c233), .val (.ref c241), .val (.ref c253), .val (.ref b269), .val (.ref b312), .val (.int (p0 &&& (3 : Int32))), .val (.ref b269), .val (.int (1 : Int32))] [(.ref b269), (.ref b269)])) _
        exact k_
      obtain ⟨cq369, kq369, q369a, q369b, q369c⟩ := isOf hZ337 rfl f357
      obtain ⟨vv369, _, ⟨T369, L369, k369, n369⟩, -, X369, ⟨Lc369, hQ369, l369, y369, z369⟩, st369⟩ := X337r.virtualBack hx (y := (⟨"com/example/prudent_annotator/prudentannotator/profile/FileChecksum", "equals", "(Ljava/lang/Object;)Z"⟩ : MethodName)) (z := (⟨"com/example/prudent_annotator/prudentannotator/profile/FileChecksum", "equals", "(Ljava/lang/Object;)Z"⟩ : MethodName)) hown337 (mvT hZ337 (hw _ (List.mem_of_getElem? (i := 67) rfl))) (mvT hZ337 (hw _ (List.mem_of_getElem? (i := 68) rfl))) (notFace_of_selects (args := #[]) (mvT hZ337 (hw _ (List.mem_of_getElem? (i := 70) rfl)))) (mvT hZ337 (hw _ (List.mem_of_getElem? (i := 70) rfl))) (mvT hZ337 (hw _ (List.mem_of_getElem? (i := 69) rfl))) (by decide) (backOf (W := 0) (rmEq l Z a0 hw [] b269 b269 z c229 t229 kb229 p1 c233 t233 kb233 p2 c229 t229 kb229 p1 c233 t233 kb233 p2 T337.heap n0 Z337 f340 S0 hz f357 f357 f358 f359 f358 f359 f341 f342 f343 f344 f345 f346 f347 f348 f341 f342 f343 f344 f345 f346 f347 f348) hZ337 (hw _ (List.mem_of_getElem? (i := 71) rfl)) (hw _ (List.mem_of_getElem? (i := 48) rfl)) (by decide) (by decide)) q369a q369c (g := (mkF m 134 #[.val (.int p0), .val (.int p1), .val (.int p2), .val (.int p3), .val (.int p4), .val (.ref c229), .val (.ref c233), .val (.ref c241), .val (.ref c253), .val (.ref b269), .val (.ref b312), .val (.int (p0 &&& (3 : Int32))), .val (.ref b269), .val (.int (1 : Int32))] [(.ref b269), (.ref b269)])) rfl (by rw [hml]; rfl) (Steps.refl _) (argsL := [(.ref b269)]) (rest := []) (lenOf pd__28_Ljava_2f_lang_2f_Object_3b__29_Z rfl) rfl (by show 2 * 0 + _ ≤ _; exact Nat.le_of_eq rfl) (hb hby at_134) (fun _ _ => ⟨rfl, rfl, (by decide : 34 + 0 ≤ _), (by decide : 156 + 0 ≤ _)⟩)
      dsimp only [Pt.U, Pt.locs, Pt.cells, Pt.slots] at X369 l369 y369 z369 st369 hQ369
      subst l369 y369 z369
      obtain ⟨rfl, N369q, e369q⟩ := hQ369
      have N369 := Fr.app N337 N369q
      refine own_go (B := T369.setTop (mkF m 137 #[.val (.int p0), .val (.int p1), .val (.int p2), .val (.int p3), .val (.int p4), .val (.ref c229), .val (.ref c233), .val (.ref c241), .val (.ref c253), .val (.ref b269), .val (.ref b312), .val (.int (p0 &&& (3 : Int32))), .val (.ref b269), .val (.int (1 : Int32))] [(.int (if own_cs p1 = own_cs p1 ∧ own_cs p2 = own_cs p2 then 1 else 0))])) (fun t_ k_ => st369.trans k_) ?_
      refine own_go (B := T369.setTop (mkF m 147 #[.val (.int p0), .val (.int p1), .val (.int p2), .val (.int p3), .val (.int p4), .val (.ref c229), .val (.ref c233), .val (.ref c241), .val (.ref c253), .val (.ref b269), .val (.ref b312), .val (.int (p0 &&& (3 : Int32))), .val (.ref b269), .val (.int (1 : Int32))] [(.int (1 : Int32))])) (fun t_ k_ => ?_) ?_
      · show Steps p.tables e below (T369.setTop (mkF m 137 #[.val (.int p0), .val (.int p1), .val (.int p2), .val (.int p3), .val (.int p4), .val (.ref c229), .val (.ref c233), .val (.ref c241), .val (.ref c253), .val (.ref b269), .val (.ref b312), .val (.int (p0 &&& (3 : Int32))), .val (.ref b269), .val (.int (1 : Int32))] [(.int (if own_cs p1 = own_cs p1 ∧ own_cs p2 = own_cs p2 then 1 else 0))])) _
        refine XS.iload X369.here hx rfl (hb hby at_137) rfl ?_
        show Steps p.tables e below (T369.setTop (mkF m 139 #[.val (.int p0), .val (.int p1), .val (.int p2), .val (.int p3), .val (.int p4), .val (.ref c229), .val (.ref c233), .val (.ref c241), .val (.ref c253), .val (.ref b269), .val (.ref b312), .val (.int (p0 &&& (3 : Int32))), .val (.ref b269), .val (.int (1 : Int32))] [(.int (1 : Int32)), (.int (if own_cs p1 = own_cs p1 ∧ own_cs p2 = own_cs p2 then 1 else 0))])) _
        refine XS.icmpNo X369.here hx rfl (hb hby at_139) rfl (teq (if_pos ⟨rfl, rfl⟩)).2 ?_
        show Steps p.tables e below (T369.setTop (mkF m 142 #[.val (.int p0), .val (.int p1), .val (.int p2), .val (.int p3), .val (.int p4), .val (.ref c229), .val (.ref c233), .val (.ref c241), .val (.ref c253), .val (.ref b269), .val (.ref b312), .val (.int (p0 &&& (3 : Int32))), .val (.ref b269), .val (.int (1 : Int32))] [])) _
        refine XS.iconst X369.here hx rfl (hb hby at_142) ?_
        show Steps p.tables e below (T369.setTop (mkF m 143 #[.val (.int p0), .val (.int p1), .val (.int p2), .val (.int p3), .val (.int p4), .val (.ref c229), .val (.ref c233), .val (.ref c241), .val (.ref c253), .val (.ref b269), .val (.ref b312), .val (.int (p0 &&& (3 : Int32))), .val (.ref b269), .val (.int (1 : Int32))] [(.int (1 : Int32))])) _
        refine XS.goto X369.here hx rfl (pc0 := 143) (pc' := 147) rfl (hb hby at_143) (by decide) (by decide) ?_
        show Steps p.tables e below (T369.setTop (mkF m 147 #[.val (.int p0), .val (.int p1), .val (.int p2), .val (.int p3), .val (.int p4), .val (.ref c229), .val (.ref c233), .val (.ref c241), .val (.ref c253), .val (.ref b269), .val (.ref b312), .val (.int (p0 &&& (3 : Int32))), .val (.ref b269), .val (.int (1 : Int32))] [(.int (1 : Int32))])) _
        exact k_
      obtain ⟨fs, hr, hrun, hended, hRW⟩ := Jvm.Stand.leaveW (s := s) (vm₁ := T337.vm) X369 hS337 (by rw [e369q]; exact hkr337) (v := some (.int (1 : Int32))) (fun h => by rw [Bd.returns] at h; cases h)
      have CRf : CHr Z own_EL s.vm s.heap (T369.setFrames fs).vm (T369.setFrames fs).heap := by
        show CHr Z own_EL s.vm s.heap T369.vm T369.heap
        rw [hh, e369q]
        exact f338.trans (CHv.at (s := s) (vm0 := T337.vm) X369 hZ337 hEL f338.1)
      refine own_at ?_ (hG _ _ ⟨hrun, hended, _, _, rfl, ?_, CRf, hRW.1, hRW.2.1, hRW.2.2.1, hRW.2.2.2.mono (by decide) (by decide)⟩)
      · show Steps p.tables e below (T369.setTop (mkF m 147 #[.val (.int p0), .val (.int p1), .val (.int p2), .val (.int p3), .val (.int p4), .val (.ref c229), .val (.ref c233), .val (.ref c241), .val (.ref c253), .val (.ref b269), .val (.ref b312), .val (.int (p0 &&& (3 : Int32))), .val (.ref b269), .val (.int (1 : Int32))] [(.int (1 : Int32))])) _
        exact retN X369 hx (t := .boolean) Bd.returns (by simp) (hb hby at_147) hr
      · show Q0 Z p0 p1 p2 p3 p4 z h0 n0 _ T369.heap _
        rw [e369q]
        exact ⟨rfl, N369⟩
    · refine own_go (B := T337.setTop (mkF m 111 #[.val (.int p0), .val (.int p1), .val (.int p2), .val (.int p3), .val (.int p4), .val (.ref c229), .val (.ref c233), .val (.ref c241), .val (.ref c253), .val (.ref b269), .val (.ref b312), .val (.int (p0 &&& (3 : Int32))), .unset, .unset] [(.int (2 : Int32)), (.int (p0 &&& (3 : Int32)))])) (fun t_ k_ => ?_) ?_
      · show Steps p.tables e below (T337.setTop (mkF m 95 #[.val (.int p0), .val (.int p1), .val (.int p2), .val (.int p3), .val (.int p4), .val (.ref c229), .val (.ref c233), .val (.ref c241), .val (.ref c253), .val (.ref b269), .val (.ref b312), .val (.int (p0 &&& (3 : Int32))), .unset, .unset] [(.int (1 : Int32)), (.int (p0 &&& (3 : Int32)))])) _
        refine XS.icmpYes X337r.here hx rfl (pc0 := 95) (pc' := 108) rfl (hb hby at_95) rfl (feq hc95).2 (by decide) (by decide) ?_
        show Steps p.tables e below (T337.setTop (mkF m 108 #[.val (.int p0), .val (.int p1), .val (.int p2), .val (.int p3), .val (.int p4), .val (.ref c229), .val (.ref c233), .val (.ref c241), .val (.ref c253), .val (.ref b269), .val (.ref b312), .val (.int (p0 &&& (3 : Int32))), .unset, .unset] [])) _
        refine XS.iload X337r.here hx rfl (hb hby at_108) rfl ?_
        show Steps p.tables e below (T337.setTop (mkF m 110 #[.val (.int p0), .val (.int p1), .val (.int p2), .val (.int p3), .val (.int p4), .val (.ref c229), .val (.ref c233), .val (.ref c241), .val (.ref c253), .val (.ref b269), .val (.ref b312), .val (.int (p0 &&& (3 : Int32))), .unset, .unset] [(.int (p0 &&& (3 : Int32)))])) _
        refine XS.iconst X337r.here hx rfl (hb hby at_110) ?_
        show Steps p.tables e below (T337.setTop (mkF m 111 #[.val (.int p0), .val (.int p1), .val (.int p2), .val (.int p3), .val (.int p4), .val (.ref c229), .val (.ref c233), .val (.ref c241), .val (.ref c253), .val (.ref b269), .val (.ref b312), .val (.int (p0 &&& (3 : Int32))), .unset, .unset] [(.int (2 : Int32)), (.int (p0 &&& (3 : Int32)))])) _
        exact k_
      by_cases hc111 : (p0 &&& (3 : Int32)) = (2 : Int32)
      · refine own_go (B := T337.setTop (mkF m 134 #[.val (.int p0), .val (.int p1), .val (.int p2), .val (.int p3), .val (.int p4), .val (.ref c229), .val (.ref c233), .val (.ref c241), .val (.ref c253), .val (.ref b269), .val (.ref b312), .val (.int (p0 &&& (3 : Int32))), .val .null, .val (.int (0 : Int32))] [.null, (.ref b269)])) (fun t_ k_ => ?_) ?_
        · show Steps p.tables e below (T337.setTop (mkF m 111 #[.val (.int p0), .val (.int p1), .val (.int p2), .val (.int p3), .val (.int p4), .val (.ref c229), .val (.ref c233), .val (.ref c241), .val (.ref c253), .val (.ref b269), .val (.ref b312), .val (.int (p0 &&& (3 : Int32))), .unset, .unset] [(.int (2 : Int32)), (.int (p0 &&& (3 : Int32)))])) _
          refine XS.icmpNo X337r.here hx rfl (hb hby at_111) rfl (teq hc111).2 ?_
          show Steps p.tables e below (T337.setTop (mkF m 114 #[.val (.int p0), .val (.int p1), .val (.int p2), .val (.int p3), .val (.int p4), .val (.ref c229), .val (.ref c233), .val (.ref c241), .val (.ref c253), .val (.ref b269), .val (.ref b312), .val (.int (p0 &&& (3 : Int32))), .unset, .unset] [])) _
          refine XS.aconstNull X337r.here hx rfl (hb hby at_114) ?_
          show Steps p.tables e below (T337.setTop (mkF m 115 #[.val (.int p0), .val (.int p1), .val (.int p2), .val (.int p3), .val (.int p4), .val (.ref c229), .val (.ref c233), .val (.ref c241), .val (.ref c253), .val (.ref b269), .val (.ref b312), .val (.int (p0 &&& (3 : Int32))), .unset, .unset] [.null])) _
          refine XS.astore X337r.here hx rfl (hb hby at_115) rfl rfl (l' := #[.val (.int p0), .val (.int p1), .val (.int p2), .val (.int p3), .val (.int p4), .val (.ref c229), .val (.ref c233), .val (.ref c241), .val (.ref c253), .val (.ref b269), .val (.ref b312), .val (.int (p0 &&& (3 : Int32))), .val .null, .unset]) rfl ?_
          show Steps p.tables e below (T337.setTop (mkF m 117 #[.val (.int p0), .val (.int p1), .val (.int p2), .val (.int p3), .val (.int p4), .val (.ref c229), .val (.ref c233), .val (.ref c241), .val (.ref c253), .val (.ref b269), .val (.ref b312), .val (.int (p0 &&& (3 : Int32))), .val .null, .unset] [])) _
          refine XS.iconst X337r.here hx rfl (hb hby at_117) ?_
          show Steps p.tables e below (T337.setTop (mkF m 118 #[.val (.int p0), .val (.int p1), .val (.int p2), .val (.int p3), .val (.int p4), .val (.ref c229), .val (.ref c233), .val (.ref c241), .val (.ref c253), .val (.ref b269), .val (.ref b312), .val (.int (p0 &&& (3 : Int32))), .val .null, .unset] [(.int (0 : Int32))])) _
          refine XS.istore X337r.here hx rfl (hb hby at_118) rfl (l' := #[.val (.int p0), .val (.int p1), .val (.int p2), .val (.int p3), .val (.int p4), .val (.ref c229), .val (.ref c233), .val (.ref c241), .val (.ref c253), .val (.ref b269), .val (.ref b312), .val (.int (p0 &&& (3 : Int32))), .val .null, .val (.int (0 : Int32))]) rfl ?_
          show Steps p.tables e below (T337.setTop (mkF m 120 #[.val (.int p0), .val (.int p1), .val (.int p2), .val (.int p3), .val (.int p4), .val (.ref c229), .val (.ref c233), .val (.ref c241), .val (.ref c253), .val (.ref b269), .val (.ref b312), .val (.int (p0 &&& (3 : Int32))), .val .null, .val (.int (0 : Int32))] [])) _
          refine XS.goto X337r.here hx rfl (pc0 := 120) (pc' := 130) rfl (hb hby at_120) (by decide) (by decide) ?_
          show Steps p.tables e below (T337.setTop (mkF m 130 #[.val (.int p0), .val (.int p1), .val (.int p2), .val (.int p3), .val (.int p4), .val (.ref c229), .val (.ref c233), .val (.ref c241), .val (.ref c253), .val (.ref b269), .val (.ref b312), .val (.int (p0 &&& (3 : Int32))), .val .null, .val (.int (0 : Int32))] [])) _
          refine XS.aload X337r.here hx rfl (hb hby at_130) rfl rfl ?_
          show Steps p.tables e below (T337.setTop (mkF m 132 #[.val (.int p0), .val (.int p1), .val (.int p2), .val (.int p3), .val (.int p4), .val (.ref c229), .val (.ref c233), .val (.ref c241), .val (.ref c253), .val (.ref b269), .val (.ref b312), .val (.int (p0 &&& (3 : Int32))), .val .null, .val (.int (0 : Int32))] [(.ref b269)])) _
          refine XS.aload X337r.here hx rfl (hb hby at_132) rfl rfl ?_
          show Steps p.tables e below (T337.setTop (mkF m 134 #[.val (.int p0), .val (.int p1), .val (.int p2), .val (.int p3), .val (.int p4), .val (.ref c229), .val (.ref c233), .val (.ref c241), .val (.ref c253), .val (.ref b269), .val (.ref b312), .val (.int (p0 &&& (3 : Int32))), .val .null, .val (.int (0 : Int32))] [.null, (.ref b269)])) _
          exact k_
        obtain ⟨cq371, kq371, q371a, q371b, q371c⟩ := isOf hZ337 rfl f357
        obtain ⟨vv371, _, ⟨T371, L371, k371, n371⟩, -, X371, ⟨Lc371, hQ371, l371, y371, z371⟩, st371⟩ := X337r.virtualBack hx (y := (⟨"com/example/prudent_annotator/prudentannotator/profile/FileChecksum", "equals", "(Ljava/lang/Object;)Z"⟩ : MethodName)) (z := (⟨"com/example/prudent_annotator/prudentannotator/profile/FileChecksum", "equals", "(Ljava/lang/Object;)Z"⟩ : MethodName)) hown337 (mvT hZ337 (hw _ (List.mem_of_getElem? (i := 67) rfl))) (mvT hZ337 (hw _ (List.mem_of_getElem? (i := 68) rfl))) (notFace_of_selects (args := #[]) (mvT hZ337 (hw _ (List.mem_of_getElem? (i := 70) rfl)))) (mvT hZ337 (hw _ (List.mem_of_getElem? (i := 70) rfl))) (mvT hZ337 (hw _ (List.mem_of_getElem? (i := 69) rfl))) (by decide) (backOf (W := 0) (rmEqN l Z a0 hw [] b269 T337.heap n0 Z337) hZ337 (hw _ (List.mem_of_getElem? (i := 71) rfl)) (hw _ (List.mem_of_getElem? (i := 48) rfl)) (by decide) (by decide)) q371a q371c (g := (mkF m 134 #[.val (.int p0), .val (.int p1), .val (.int p2), .val (.int p3), .val (.int p4), .val (.ref c229), .val (.ref c233), .val (.ref c241), .val (.ref c253), .val (.ref b269), .val (.ref b312), .val (.int (p0 &&& (3 : Int32))), .val .null, .val (.int (0 : Int32))] [.null, (.ref b269)])) rfl (by rw [hml]; rfl) (Steps.refl _) (argsL := [.null]) (rest := []) (lenOf pd__28_Ljava_2f_lang_2f_Object_3b__29_Z rfl) rfl (by show 2 * 0 + _ ≤ _; exact Nat.le_of_eq rfl) (hb hby at_134) (fun _ _ => ⟨rfl, rfl, (by decide : 34 + 0 ≤ _), (by decide : 156 + 0 ≤ _)⟩)
        dsimp only [Pt.U, Pt.locs, Pt.cells, Pt.slots] at X371 l371 y371 z371 st371 hQ371
        subst l371 y371 z371
        obtain ⟨rfl, N371q, e371q⟩ := hQ371
        have N371 := Fr.app N337 N371q
        refine own_go (B := T371.setTop (mkF m 137 #[.val (.int p0), .val (.int p1), .val (.int p2), .val (.int p3), .val (.int p4), .val (.ref c229), .val (.ref c233), .val (.ref c241), .val (.ref c253), .val (.ref b269), .val (.ref b312), .val (.int (p0 &&& (3 : Int32))), .val .null, .val (.int (0 : Int32))] [(.int (0 : Int32))])) (fun t_ k_ => st371.trans k_) ?_
        refine own_go (B := T371.setTop (mkF m 147 #[.val (.int p0), .val (.int p1), .val (.int p2), .val (.int p3), .val (.int p4), .val (.ref c229), .val (.ref c233), .val (.ref c241), .val (.ref c253), .val (.ref b269), .val (.ref b312), .val (.int (p0 &&& (3 : Int32))), .val .null, .val (.int (0 : Int32))] [(.int (1 : Int32))])) (fun t_ k_ => ?_) ?_
        · show Steps p.tables e below (T371.setTop (mkF m 137 #[.val (.int p0), .val (.int p1), .val (.int p2), .val (.int p3), .val (.int p4), .val (.ref c229), .val (.ref c233), .val (.ref c241), .val (.ref c253), .val (.ref b269), .val (.ref b312), .val (.int (p0 &&& (3 : Int32))), .val .null, .val (.int (0 : Int32))] [(.int (0 : Int32))])) _
          refine XS.iload X371.here hx rfl (hb hby at_137) rfl ?_
          show Steps p.tables e below (T371.setTop (mkF m 139 #[.val (.int p0), .val (.int p1), .val (.int p2), .val (.int p3), .val (.int p4), .val (.ref c229), .val (.ref c233), .val (.ref c241), .val (.ref c253), .val (.ref b269), .val (.ref b312), .val (.int (p0 &&& (3 : Int32))), .val .null, .val (.int (0 : Int32))] [(.int (0 : Int32)), (.int (0 : Int32))])) _
          refine XS.icmpNo X371.here hx rfl (hb hby at_139) rfl (teq (by decide : (0 : Int32) = (0 : Int32))).2 ?_
          show Steps p.tables e below (T371.setTop (mkF m 142 #[.val (.int p0), .val (.int p1), .val (.int p2), .val (.int p3), .val (.int p4), .val (.ref c229), .val (.ref c233), .val (.ref c241), .val (.ref c253), .val (.ref b269), .val (.ref b312), .val (.int (p0 &&& (3 : Int32))), .val .null, .val (.int (0 : Int32))] [])) _
          refine XS.iconst X371.here hx rfl (hb hby at_142) ?_
          show Steps p.tables e below (T371.setTop (mkF m 143 #[.val (.int p0), .val (.int p1), .val (.int p2), .val (.int p3), .val (.int p4), .val (.ref c229), .val (.ref c233), .val (.ref c241), .val (.ref c253), .val (.ref b269), .val (.ref b312), .val (.int (p0 &&& (3 : Int32))), .val .null, .val (.int (0 : Int32))] [(.int (1 : Int32))])) _
          refine XS.goto X371.here hx rfl (pc0 := 143) (pc' := 147) rfl (hb hby at_143) (by decide) (by decide) ?_
          show Steps p.tables e below (T371.setTop (mkF m 147 #[.val (.int p0), .val (.int p1), .val (.int p2), .val (.int p3), .val (.int p4), .val (.ref c229), .val (.ref c233), .val (.ref c241), .val (.ref c253), .val (.ref b269), .val (.ref b312), .val (.int (p0 &&& (3 : Int32))), .val .null, .val (.int (0 : Int32))] [(.int (1 : Int32))])) _
          exact k_
        obtain ⟨fs, hr, hrun, hended, hRW⟩ := Jvm.Stand.leaveW (s := s) (vm₁ := T337.vm) X371 hS337 (by rw [e371q]; exact hkr337) (v := some (.int (1 : Int32))) (fun h => by rw [Bd.returns] at h; cases h)
        have CRf : CHr Z own_EL s.vm s.heap (T371.setFrames fs).vm (T371.setFrames fs).heap := by
          show CHr Z own_EL s.vm s.heap T371.vm T371.heap
          rw [hh, e371q]
          exact f338.trans (CHv.at (s := s) (vm0 := T337.vm) X371 hZ337 hEL f338.1)
        refine own_at ?_ (hG _ _ ⟨hrun, hended, _, _, rfl, ?_, CRf, hRW.1, hRW.2.1, hRW.2.2.1, hRW.2.2.2.mono (by decide) (by decide)⟩)
        · show Steps p.tables e below (T371.setTop (mkF m 147 #[.val (.int p0), .val (.int p1), .val (.int p2), .val (.int p3), .val (.int p4), .val (.ref c229), .val (.ref c233), .val (.ref c241), .val (.ref c253), .val (.ref b269), .val (.ref b312), .val (.int (p0 &&& (3 : Int32))), .val .null, .val (.int (0 : Int32))] [(.int (1 : Int32))])) _
          exact retN X371 hx (t := .boolean) Bd.returns (by simp) (hb hby at_147) hr
        · show Q0 Z p0 p1 p2 p3 p4 z h0 n0 _ T371.heap _
          rw [e371q]
          exact ⟨rfl, N371⟩
      · refine own_go (B := T337.setTop (mkF m 134 #[.val (.int p0), .val (.int p1), .val (.int p2), .val (.int p3), .val (.int p4), .val (.ref c229), .val (.ref c233), .val (.ref c241), .val (.ref c253), .val (.ref b269), .val (.ref b312), .val (.int (p0 &&& (3 : Int32))), .val (.ref c229), .val (.int (0 : Int32))] [(.ref c229), (.ref b269)])) (fun t_ k_ => ?_) ?_
        · show Steps p.tables e below (T337.setTop (mkF m 111 #[.val (.int p0), .val (.int p1), .val (.int p2), .val (.int p3), .val (.int p4), .val (.ref c229), .val (.ref c233), .val (.ref c241), .val (.ref c253), .val (.ref b269), .val (.ref b312), .val (.int (p0 &&& (3 : Int32))), .unset, .unset] [(.int (2 : Int32)), (.int (p0 &&& (3 : Int32)))])) _
          refine XS.icmpYes X337r.here hx rfl (pc0 := 111) (pc' := 123) rfl (hb hby at_111) rfl (feq hc111).2 (by decide) (by decide) ?_
          show Steps p.tables e below (T337.setTop (mkF m 123 #[.val (.int p0), .val (.int p1), .val (.int p2), .val (.int p3), .val (.int p4), .val (.ref c229), .val (.ref c233), .val (.ref c241), .val (.ref c253), .val (.ref b269), .val (.ref b312), .val (.int (p0 &&& (3 : Int32))), .unset, .unset] [])) _
          refine XS.aload X337r.here hx rfl (hb hby at_123) rfl rfl ?_
          show Steps p.tables e below (T337.setTop (mkF m 125 #[.val (.int p0), .val (.int p1), .val (.int p2), .val (.int p3), .val (.int p4), .val (.ref c229), .val (.ref c233), .val (.ref c241), .val (.ref c253), .val (.ref b269), .val (.ref b312), .val (.int (p0 &&& (3 : Int32))), .unset, .unset] [(.ref c229)])) _
          refine XS.astore X337r.here hx rfl (hb hby at_125) rfl rfl (l' := #[.val (.int p0), .val (.int p1), .val (.int p2), .val (.int p3), .val (.int p4), .val (.ref c229), .val (.ref c233), .val (.ref c241), .val (.ref c253), .val (.ref b269), .val (.ref b312), .val (.int (p0 &&& (3 : Int32))), .val (.ref c229), .unset]) rfl ?_
          show Steps p.tables e below (T337.setTop (mkF m 127 #[.val (.int p0), .val (.int p1), .val (.int p2), .val (.int p3), .val (.int p4), .val (.ref c229), .val (.ref c233), .val (.ref c241), .val (.ref c253), .val (.ref b269), .val (.ref b312), .val (.int (p0 &&& (3 : Int32))), .val (.ref c229), .unset] [])) _
          refine XS.iconst X337r.here hx rfl (hb hby at_127) ?_
          show Steps p.tables e below (T337.setTop (mkF m 128 #[.val (.int p0), .val (.int p1), .val (.int p2), .val (.int p3), .val (.int p4), .val (.ref c229), .val (.ref c233), .val (.ref c241), .val (.ref c253), .val (.ref b269), .val (.ref b312), .val (.int (p0 &&& (3 : Int32))), .val (.ref c229), .unset] [(.int (0 : Int32))])) _
          refine XS.istore X337r.here hx rfl (hb hby at_128) rfl (l' := #[.val (.int p0), .val (.int p1), .val (.int p2), .val (.int p3), .val (.int p4), .val (.ref c229), .val (.ref c233), .val (.ref c241), .val (.ref c253), .val (.ref b269), .val (.ref b312), .val (.int (p0 &&& (3 : Int32))), .val (.ref c229), .val (.int (0 : Int32))]) rfl ?_
          show Steps p.tables e below (T337.setTop (mkF m 130 #[.val (.int p0), .val (.int p1), .val (.int p2), .val (.int p3), .val (.int p4), .val (.ref c229), .val (.ref c233), .val (.ref c241), .val (.ref c253), .val (.ref b269), .val (.ref b312), .val (.int (p0 &&& (3 : Int32))), .val (.ref c229), .val (.int (0 : Int32))] [])) _
          refine XS.aload X337r.here hx rfl (hb hby at_130) rfl rfl ?_
          show Steps p.tables e below (T337.setTop (mkF m 132 #[.val (.int p0), .val (.int p1), .val (.int p2), .val (.int p3), .val (.int p4), .val (.ref c229), .val (.ref c233), .val (.ref c241), .val (.ref c253), .val (.ref b269), .val (.ref b312), .val (.int (p0 &&& (3 : Int32))), .val (.ref c229), .val (.int (0 : Int32))] [(.ref b269)])) _
          refine XS.aload X337r.here hx rfl (hb hby at_132) rfl rfl ?_
          show Steps p.tables e below (T337.setTop (mkF m 134 #[.val (.int p0), .val (.int p1), .val (.int p2), .val (.int p3), .val (.int p4), .val (.ref c229), .val (.ref c233), .val (.ref c241), .val (.ref c253), .val (.ref b269), .val (.ref b312), .val (.int (p0 &&& (3 : Int32))), .val (.ref c229), .val (.int (0 : Int32))] [(.ref c229), (.ref b269)])) _
          exact k_
        obtain ⟨cq373, kq373, q373a, q373b, q373c⟩ := isOf hZ337 rfl f357
        obtain ⟨vv373, _, ⟨T373, L373, k373, n373⟩, -, X373, ⟨Lc373, hQ373, l373, y373, z373⟩, st373⟩ := X337r.virtualBack hx (y := (⟨"com/example/prudent_annotator/prudentannotator/profile/FileChecksum", "equals", "(Ljava/lang/Object;)Z"⟩ : MethodName)) (z := (⟨"com/example/prudent_annotator/prudentannotator/profile/FileChecksum", "equals", "(Ljava/lang/Object;)Z"⟩ : MethodName)) hown337 (mvT hZ337 (hw _ (List.mem_of_getElem? (i := 67) rfl))) (mvT hZ337 (hw _ (List.mem_of_getElem? (i := 68) rfl))) (notFace_of_selects (args := #[]) (mvT hZ337 (hw _ (List.mem_of_getElem? (i := 70) rfl)))) (mvT hZ337 (hw _ (List.mem_of_getElem? (i := 70) rfl))) (mvT hZ337 (hw _ (List.mem_of_getElem? (i := 69) rfl))) (by decide) (backOf (W := 0) (rmEqS l Z a0 hw [] b269 c229 T337.heap n0 Z337 f341) hZ337 (hw _ (List.mem_of_getElem? (i := 71) rfl)) (hw _ (List.mem_of_getElem? (i := 48) rfl)) (by decide) (by decide)) q373a q373c (g := (mkF m 134 #[.val (.int p0), .val (.int p1), .val (.int p2), .val (.int p3), .val (.int p4), .val (.ref c229), .val (.ref c233), .val (.ref c241), .val (.ref c253), .val (.ref b269), .val (.ref b312), .val (.int (p0 &&& (3 : Int32))), .val (.ref c229), .val (.int (0 : Int32))] [(.ref c229), (.ref b269)])) rfl (by rw [hml]; rfl) (Steps.refl _) (argsL := [(.ref c229)]) (rest := []) (lenOf pd__28_Ljava_2f_lang_2f_Object_3b__29_Z rfl) rfl (by show 2 * 0 + _ ≤ _; exact Nat.le_of_eq rfl) (hb hby at_134) (fun _ _ => ⟨rfl, rfl, (by decide : 34 + 0 ≤ _), (by decide : 156 + 0 ≤ _)⟩)
        dsimp only [Pt.U, Pt.locs, Pt.cells, Pt.slots] at X373 l373 y373 z373 st373 hQ373
        subst l373 y373 z373
        obtain ⟨rfl, N373q, e373q⟩ := hQ373
        have N373 := Fr.app N337 N373q
        refine own_go (B := T373.setTop (mkF m 137 #[.val (.int p0), .val (.int p1), .val (.int p2), .val (.int p3), .val (.int p4), .val (.ref c229), .val (.ref c233), .val (.ref c241), .val (.ref c253), .val (.ref b269), .val (.ref b312), .val (.int (p0 &&& (3 : Int32))), .val (.ref c229), .val (.int (0 : Int32))] [(.int (0 : Int32))])) (fun t_ k_ => st373.trans k_) ?_
        refine own_go (B := T373.setTop (mkF m 147 #[.val (.int p0), .val (.int p1), .val (.int p2), .val (.int p3), .val (.int p4), .val (.ref c229), .val (.ref c233), .val (.ref c241), .val (.ref c253), .val (.ref b269), .val (.ref b312), .val (.int (p0 &&& (3 : Int32))), .val (.ref c229), .val (.int (0 : Int32))] [(.int (1 : Int32))])) (fun t_ k_ => ?_) ?_
        · show Steps p.tables e below (T373.setTop (mkF m 137 #[.val (.int p0), .val (.int p1), .val (.int p2), .val (.int p3), .val (.int p4), .val (.ref c229), .val (.ref c233), .val (.ref c241), .val (.ref c253), .val (.ref b269), .val (.ref b312), .val (.int (p0 &&& (3 : Int32))), .val (.ref c229), .val (.int (0 : Int32))] [(.int (0 : Int32))])) _
          refine XS.iload X373.here hx rfl (hb hby at_137) rfl ?_
          show Steps p.tables e below (T373.setTop (mkF m 139 #[.val (.int p0), .val (.int p1), .val (.int p2), .val (.int p3), .val (.int p4), .val (.ref c229), .val (.ref c233), .val (.ref c241), .val (.ref c253), .val (.ref b269), .val (.ref b312), .val (.int (p0 &&& (3 : Int32))), .val (.ref c229), .val (.int (0 : Int32))] [(.int (0 : Int32)), (.int (0 : Int32))])) _
          refine XS.icmpNo X373.here hx rfl (hb hby at_139) rfl (teq (by decide : (0 : Int32) = (0 : Int32))).2 ?_
          show Steps p.tables e below (T373.setTop (mkF m 142 #[.val (.int p0), .val (.int p1), .val (.int p2), .val (.int p3), .val (.int p4), .val (.ref c229), .val (.ref c233), .val (.ref c241), .val (.ref c253), .val (.ref b269), .val (.ref b312), .val (.int (p0 &&& (3 : Int32))), .val (.ref c229), .val (.int (0 : Int32))] [])) _
          refine XS.iconst X373.here hx rfl (hb hby at_142) ?_
          show Steps p.tables e below (T373.setTop (mkF m 143 #[.val (.int p0), .val (.int p1), .val (.int p2), .val (.int p3), .val (.int p4), .val (.ref c229), .val (.ref c233), .val (.ref c241), .val (.ref c253), .val (.ref b269), .val (.ref b312), .val (.int (p0 &&& (3 : Int32))), .val (.ref c229), .val (.int (0 : Int32))] [(.int (1 : Int32))])) _
          refine XS.goto X373.here hx rfl (pc0 := 143) (pc' := 147) rfl (hb hby at_143) (by decide) (by decide) ?_
          show Steps p.tables e below (T373.setTop (mkF m 147 #[.val (.int p0), .val (.int p1), .val (.int p2), .val (.int p3), .val (.int p4), .val (.ref c229), .val (.ref c233), .val (.ref c241), .val (.ref c253), .val (.ref b269), .val (.ref b312), .val (.int (p0 &&& (3 : Int32))), .val (.ref c229), .val (.int (0 : Int32))] [(.int (1 : Int32))])) _
          exact k_
        obtain ⟨fs, hr, hrun, hended, hRW⟩ := Jvm.Stand.leaveW (s := s) (vm₁ := T337.vm) X373 hS337 (by rw [e373q]; exact hkr337) (v := some (.int (1 : Int32))) (fun h => by rw [Bd.returns] at h; cases h)
        have CRf : CHr Z own_EL s.vm s.heap (T373.setFrames fs).vm (T373.setFrames fs).heap := by
          show CHr Z own_EL s.vm s.heap T373.vm T373.heap
          rw [hh, e373q]
          exact f338.trans (CHv.at (s := s) (vm0 := T337.vm) X373 hZ337 hEL f338.1)
        refine own_at ?_ (hG _ _ ⟨hrun, hended, _, _, rfl, ?_, CRf, hRW.1, hRW.2.1, hRW.2.2.1, hRW.2.2.2.mono (by decide) (by decide)⟩)
        · show Steps p.tables e below (T373.setTop (mkF m 147 #[.val (.int p0), .val (.int p1), .val (.int p2), .val (.int p3), .val (.int p4), .val (.ref c229), .val (.ref c233), .val (.ref c241), .val (.ref c253), .val (.ref b269), .val (.ref b312), .val (.int (p0 &&& (3 : Int32))), .val (.ref c229), .val (.int (0 : Int32))] [(.int (1 : Int32))])) _
          exact retN X373 hx (t := .boolean) Bd.returns (by simp) (hb hby at_147) hr
        · show Q0 Z p0 p1 p2 p3 p4 z h0 n0 _ T373.heap _
          rw [e373q]
          exact ⟨rfl, N373⟩
set_option maxRecDepth 65536 in
set_option maxHeartbeats 40000000 in
theorem comes_1 {Post : Tables → Env → Array Value → State → Outcome → State → Prop} (hpost : ∀ tb e args s v u, (limb_1_1.after args s (.returned v) u = true ∧ limb_1_2.after args s (.returned v) u = true ∧ True) → ReturnedEndW s (.returned v) u (Jvm.fieldLocs frame_1_writes args s ++ Jvm.arrayLocs frame_1_arrays args s ++ Jvm.staticLocs frame_1_statics s) 48 3264 → Post tb e args s (.returned v) u) :
    ArmFor flags0 classFile x code maxLocals ret World_1 tables_1 room_1 Calls_1 rest_1 Pre_1 Post := by
  intro l hfl _ _ p e ha hc hk s m args below hf hA hF happ hP
  obtain ⟨hcalls, hrest, hpre⟩ := hP
  obtain ⟨-, -, -, hnamed, -, -, -, hat⟩ := (Spec.applies_iff hf).mp happ
  obtain ⟨hg, hn⟩ := and_e (Cond.before_iff.mp (show (Jvm.Cond.and given_1 narrow_1).before args s = true from hpre))
  obtain ⟨hcnt, gs0⟩ := and_e hg
  obtain ⟨ga0, gs1⟩ := and_e gs0
  obtain ⟨ga1, gs2⟩ := and_e gs1
  obtain ⟨ga2, gs3⟩ := and_e gs2
  obtain ⟨ga3, gs4⟩ := and_e gs3
  obtain ⟨w0, w1, w2, w3, w4, rfl⟩ : ∃ w0 w1 w2 w3 w4 : Value, args = #[w0, w1, w2, w3, w4] := by
    have hs : args.size = 5 := by simpa [Cond.value, given_1] using hcnt
    obtain ⟨L⟩ := args
    match L, hs with
    | [w0, w1, w2, w3, w4], _ => exact ⟨w0, w1, w2, w3, w4, rfl⟩
  have hw := fun d (hd : d ∈ tables_1) => atoms_spec (ws := Jvm.Cond.code x code maxLocals ret :: tables_1) hat d (List.mem_cons_of_mem _ hd)
  have hfit : Fit s := fun {y c} hc i hi => by
    obtain ⟨ha, rfl⟩ := Array.getElem?_eq_some_iff.mp hc
    have q := List.all_eq_true.mp ((Array.all_eq_true_iff_forall_mem.mp hF) _ (Array.getElem_mem ha)) i (List.mem_range.mpr hi)
    simpa [Array.getElem?_eq_getElem hi] using q
  obtain ⟨hsets, hown0⟩ := atoms_of _ (rest_1_c_eq ▸ (show rest_1_c.before _ s = true from hrest))
  have hr0 := Cond.before_iff.mp hown0
  obtain ⟨i0, ei0⟩ := is_v ga0
  obtain rfl : w0 = (.int i0) := Option.some.inj ei0
  obtain ⟨i1, ei1⟩ := is_v ga1
  obtain rfl : w1 = (.int i1) := Option.some.inj ei1
  obtain ⟨i2, ei2⟩ := is_v ga2
  obtain rfl : w2 = (.int i2) := Option.some.inj ei2
  obtain ⟨i3, ei3⟩ := is_v ga3
  obtain rfl : w3 = (.int i3) := Option.some.inj ei3
  obtain ⟨i4, ei4⟩ := is_v gs4
  obtain rfl : w4 = (.int i4) := Option.some.inj ei4
  obtain ⟨zc, ez⟩ := is_v (Cond.before_iff.mp (hsets _ (List.mem_of_getElem? (i := 1) rfl)))
  have S0 : Sta s s.heap "java/lang/String" "COMPACT_STRINGS" "Z" (.int zc) := Sta.start ez (Or.inl (hsets _ (List.mem_of_getElem? (i := 0) rfl)))
  have hz : ¬ (zc = (0 : Int32)) := gotF (Cond.eq_ints ez (Term.int_eval (0))) (not_v (Cond.before_iff.mp (hsets _ (List.mem_of_getElem? (i := 2) rfl))))
  have hEL : EW s _ own_EL := EW.cons (hw _ (List.mem_of_getElem? (i := 21) rfl)) (by decide) EW.nil
  have hCH : CHv s own_EL s.vm s.heap := CHv.start hEL (fun p hp => hcalls.1 p (by simp only [own_EL, List.mem_cons, List.not_mem_nil, or_false] at hp; subst hp; simp [consts_1])) (hsets _ (List.mem_of_getElem? (i := 2) rfl)) (hw _ (List.mem_of_getElem? (i := 22) rfl)) (hw _ (List.mem_of_getElem? (i := 9) rfl))
  obtain ⟨n, o, h1, h2, h3, _, L, rfl, ⟨rfl, N⟩, -, hq⟩ := rm0 l s _ hw tables_1 i0 i1 i2 i3 i4 zc s.heap s.heap.size (Nat.le_refl _) hEL (Old.start s) S0 hz p e ha hc hk s m _ below hf ((Spec.applies_iff_loose hf).mp happ).1 ⟨rfl, State.Warmed39.refl s, rfl, hCH⟩ trivial
  refine ⟨n, _, h1, h2, h3, hpost _ _ _ _ _ _ ⟨Cond.after_iff.mpr rfl, Cond.after_iff.mpr (eq_i res_at (Term.int_eval (1)) rfl), trivial⟩ ⟨hq.1, hq.2.1, hq.2.2.1, (hq.2.2.2.sift fun y hy => Or.inr (N y hy)).mono (by decide) (by decide)⟩⟩
theorem main_1_1 : Claimed_1_1 := comes_1 fun _ _ _ _ _ _ h hF => ⟨h.1, hF⟩
theorem main_1_2 : Claimed_1_2 := comes_1 fun _ _ _ _ _ _ h hF => ⟨h.2.1, hF⟩
end Jvm.Pilot.@@N@@
namespace Jvm.Pilot.@@N@@
open Jvm Jvm.ClassFile Sem Op Lib Jvm.Free Jvm.Stand Jvm.Pilot.@@N@@.Jvm.D
/-! MADE BY PROGRAM (witnessworld.py) out of the Statement's table words and the real class files: 21 classes; the members and pool entries that the words name. The judged class is class 1, her method 6. -/
namespace start1
open Jvm.ClassFile
def u (s : String) : CpInfo := .utf8 (stringToUtf16 s)
/-- a pool by its gaps: so many unusable entries, then the entry; so many at the end -/
def gap : Nat → List CpInfo → List CpInfo
  | 0, r => r
  | n + 1, r => .unusable :: gap n r
def poolList (es : List (Nat × CpInfo)) (last : Nat) : List CpInfo := es.foldr (fun e r => gap e.1 (e.2 :: r)) (gap last [])
def pool (es : List (Nat × CpInfo)) (last : Nat) : Array CpInfo := ⟨poolList es last⟩
def fileOf (pool : Array CpInfo) (this : Nat) (attrs : Array Attribute := #[]) (ms : Array MethodInfo := #[]) (fl : Nat := 33) (sup : Nat := 0) (ifs : Array Nat := #[]) (fds : Array FieldInfo := #[]) : ClassFile where
  minorVersion := 0
  majorVersion := 65
  constantPool := pool
  accessFlags := fl
  thisClass := this
  superClass := sup
  interfaces := ifs
  fields := fds
  methods := ms
  attributes := attrs
def plain (name : String) (sup : Option ClassId) : Class where
  name := name
  kind := .ordinary
  loader := none
  accessFlags := 33
  super := sup
  interfaces := #[]
  cf := none
  fields := #[]
  methods := #[]
  instanceTypes := #[]
  staticTypes := #[]
  resolved := #[]
  callSites := []
  init := .initialized
  statics := none
  mirror := none

def pool0 : Array CpInfo := pool [(5, u "<init>"), (0, u "()V"), (1, .class_ 10), (1, u "java/lang/Object")] 113

def k0c0 : Code := { maxStack := 0, maxLocals := 1, code := object_method_1_code, exceptionTable := #[], attributes := #[] }
def k0m0 : Method := { name := "<init>", desc := "()V", sig := { parameters := [], returnType := none }, accessFlags := 1, code := some k0c0 }
/-- java/lang/Object -/
def k0 : Class := { plain "java/lang/Object" none with
  accessFlags := 33
  interfaces := #[]
  cf := some (fileOf pool0 8 #[] #[{ accessFlags := 1, nameIndex := 5, descriptorIndex := 6, attributes := #[] }] 33 0 #[] #[])
  fields := #[]
  methods := #[k0m0]
  instanceTypes := #[]
  staticTypes := #[]
  resolved := Array.replicate 124 none
  statics := none }

def pool1 : Array CpInfo := pool [(2, .class_ 4), (1, u "java/lang/Object"), (0, u "<init>"), (0, u "()V"), (0, .methodref 8 9), (0, .class_ 10), (0, .nameAndType 11 12), (0, u "com/example/prudent_annotator/prudentannotator/profile/FileChecksumEqualsPinLaw"), (0, u "len"), (0, u "(I)I"), (0, .methodref 8 14), (0, .nameAndType 15 16), (0, u "c0"), (0, u "(I)C"), (0, .methodref 8 18), (0, .nameAndType 19 16), (0, u "c1"), (0, .class_ 21), (0, u "java/lang/String"), (0, .methodref 20 23), (0, .nameAndType 5 24), (0, u "([C)V"), (0, .methodref 8 26), (0, .nameAndType 27 28), (0, u "mk"), (0, u "(I)Ljava/lang/String;"), (0, .class_ 30), (0, u "com/example/prudent_annotator/prudentannotator/profile/FileChecksum"), (0, .methodref 29 32), (0, .nameAndType 5 33), (0, u "(Ljava/lang/String;Ljava/lang/String;)V"), (0, .methodref 8 35), (0, .nameAndType 36 37), (0, u "same"), (0, u "(II)Z"), (0, .methodref 29 39), (0, .nameAndType 40 41), (0, u "equals"), (0, u "(Ljava/lang/Object;)Z"), (5, u "law"), (0, u "(IIIII)Z")] 2

def k1m0 : Method := { name := "<init>", desc := "()V", sig := { parameters := [], returnType := none }, accessFlags := 1, code := none }
def k1c1 : Code := { maxStack := 2, maxLocals := 1, code := method_2_code, exceptionTable := #[], attributes := #[] }
def k1m1 : Method := { name := "len", desc := "(I)I", sig := { parameters := [.int], returnType := some .int }, accessFlags := 10, code := some k1c1 }
def k1c2 : Code := { maxStack := 2, maxLocals := 1, code := method_3_code, exceptionTable := #[], attributes := #[] }
def k1m2 : Method := { name := "c0", desc := "(I)C", sig := { parameters := [.int], returnType := some .char }, accessFlags := 10, code := some k1c2 }
def k1c3 : Code := { maxStack := 2, maxLocals := 1, code := method_4_code, exceptionTable := #[], attributes := #[] }
def k1m3 : Method := { name := "c1", desc := "(I)C", sig := { parameters := [.int], returnType := some .char }, accessFlags := 10, code := some k1c3 }
def k1c4 : Code := { maxStack := 3, maxLocals := 3, code := method_5_code, exceptionTable := #[], attributes := #[] }
def k1m4 : Method := { name := "mk", desc := "(I)Ljava/lang/String;", sig := { parameters := [.int], returnType := some (.object "java/lang/String") }, accessFlags := 10, code := some k1c4 }
def k1c5 : Code := { maxStack := 2, maxLocals := 4, code := method_6_code, exceptionTable := #[], attributes := #[] }
def k1m5 : Method := { name := "same", desc := "(II)Z", sig := { parameters := [.int, .int], returnType := some .boolean }, accessFlags := 10, code := some k1c5 }
def k1c6 : Code := { maxStack := 4, maxLocals := 14, code := code, exceptionTable := #[], attributes := #[] }
def k1m6 : Method := { name := "law", desc := "(IIIII)Z", sig := { parameters := [.int, .int, .int, .int, .int], returnType := some .boolean }, accessFlags := 9, code := some k1c6 }
/-- com/example/prudent_annotator/prudentannotator/profile/FileChecksumEqualsPinLaw -/
def k1 : Class := { plain "com/example/prudent_annotator/prudentannotator/profile/FileChecksumEqualsPinLaw" (some 0) with
  accessFlags := 49
  interfaces := #[]
  cf := some (fileOf pool1 8 #[] #[{ accessFlags := 1, nameIndex := 5, descriptorIndex := 6, attributes := #[] }, { accessFlags := 10, nameIndex := 11, descriptorIndex := 12, attributes := #[] }, { accessFlags := 10, nameIndex := 15, descriptorIndex := 16, attributes := #[] }, { accessFlags := 10, nameIndex := 19, descriptorIndex := 16, attributes := #[] }, { accessFlags := 10, nameIndex := 27, descriptorIndex := 28, attributes := #[] }, { accessFlags := 10, nameIndex := 36, descriptorIndex := 37, attributes := #[] }, { accessFlags := 9, nameIndex := 47, descriptorIndex := 48, attributes := #[] }] 49 2 #[] #[])
  fields := #[]
  methods := #[k1m0, k1m1, k1m2, k1m3, k1m4, k1m5, k1m6]
  instanceTypes := #[]
  staticTypes := #[]
  resolved := Array.replicate 51 none
  statics := none }

def pool2 : Array CpInfo := pool [(1, .class_ 2), (0, u "java/io/Serializable"), (0, .class_ 4), (0, u "java/lang/Object")] 2

/-- java/io/Serializable -/
def k2 : Class := { plain "java/io/Serializable" (some 0) with
  accessFlags := 1537
  interfaces := #[]
  cf := some (fileOf pool2 1 #[] #[] 1537 3 #[] #[])
  fields := #[]
  methods := #[]
  instanceTypes := #[]
  staticTypes := #[]
  resolved := Array.replicate 7 none
  statics := none }

def pool3 : Array CpInfo := pool [(1, .class_ 2), (0, u "java/lang/Comparable"), (0, .class_ 4), (0, u "java/lang/Object")] 7

/-- java/lang/Comparable -/
def k3 : Class := { plain "java/lang/Comparable" (some 0) with
  accessFlags := 1537
  interfaces := #[]
  cf := some (fileOf pool3 1 #[] #[] 1537 3 #[] #[])
  fields := #[]
  methods := #[]
  instanceTypes := #[]
  staticTypes := #[]
  resolved := Array.replicate 12 none
  statics := none }

def pool4 : Array CpInfo := pool [(2, .class_ 4), (1, u "java/lang/CharSequence"), (42, .class_ 48), (0, u "java/lang/CharSequence$1CodePointIterator"), (10, .class_ 60), (0, u "java/lang/CharSequence$1CharIterator"), (5, .class_ 67), (0, u "java/lang/Object")] 63

/-- java/lang/CharSequence -/
def k4 : Class := { plain "java/lang/CharSequence" (some 0) with
  accessFlags := 1537
  interfaces := #[]
  cf := some (fileOf pool4 2 #[.nestMembers #[47, 59]] #[] 1537 66 #[] #[])
  fields := #[]
  methods := #[]
  instanceTypes := #[]
  staticTypes := #[]
  resolved := Array.replicate 131 none
  statics := none }

def pool5 : Array CpInfo := pool [(1, .class_ 2), (0, u "java/lang/constant/Constable"), (0, .class_ 4), (0, u "java/lang/Object")] 6

/-- java/lang/constant/Constable -/
def k5 : Class := { plain "java/lang/constant/Constable" (some 0) with
  accessFlags := 1537
  interfaces := #[]
  cf := some (fileOf pool5 1 #[] #[] 1537 3 #[] #[])
  fields := #[]
  methods := #[]
  instanceTypes := #[]
  staticTypes := #[]
  resolved := Array.replicate 11 none
  statics := none }

def pool6 : Array CpInfo := pool [(1, .class_ 2), (0, u "java/lang/constant/ConstantDesc"), (0, .class_ 4), (0, u "java/lang/Object")] 32

/-- java/lang/constant/ConstantDesc -/
def k6 : Class := { plain "java/lang/constant/ConstantDesc" (some 0) with
  accessFlags := 1537
  interfaces := #[]
  cf := some (fileOf pool6 1 #[] #[] 1537 3 #[] #[])
  fields := #[]
  methods := #[]
  instanceTypes := #[]
  staticTypes := #[]
  resolved := Array.replicate 37 none
  statics := none }

def pool7 : Array CpInfo := pool [(1, .methodref 2 3), (0, .class_ 4), (0, .nameAndType 5 6), (0, u "java/lang/Object"), (0, u "<init>"), (0, u "()V"), (0, .string 8), (0, u ""), (0, .fieldref 10 11), (0, .class_ 12), (0, .nameAndType 13 14), (0, u "java/lang/String"), (0, u "value"), (0, u "[B"), (0, .fieldref 10 16), (0, .nameAndType 17 18), (0, u "coder"), (0, u "B"), (2, u "hash"), (0, u "I"), (2, u "hashIsZero"), (0, u "Z"), (0, .methodref 10 28), (0, .nameAndType 5 29), (0, u "([CIILjava/lang/Void;)V"), (8, .fieldref 10 39), (0, .nameAndType 40 26), (0, u "COMPACT_STRINGS"), (1, .class_ 44), (1, u "java/lang/StringUTF16"), (0, u "compress"), (1, .methodref 42 48), (0, .nameAndType 49 50), (0, u "coderFromArrayLen"), (0, u "([BI)B"), (56, .class_ 109), (1, u "java/lang/StringLatin1"), (67, .methodref 42 178), (0, .nameAndType 45 179), (0, u "([CII)[B"), (361, .methodref 107 542), (0, .nameAndType 543 544), (0, u "equals"), (0, u "([B[B)Z"), (28, u "(Ljava/lang/Object;)Z"), (1, .class_ 576), (0, u "java/lang/CharSequence"), (22, u "CASE_INSENSITIVE_ORDER"), (0, u "Ljava/util/Comparator;"), (409, u "([C)V"), (90, u "serialPersistentFields"), (0, u "[Ljava/io/ObjectStreamField;"), (0, .class_ 1104), (0, u "java/lang/String$CaseInsensitiveComparator"), (1, .class_ 1107), (0, u "java/io/Serializable"), (0, .class_ 1109), (0, u "java/lang/Comparable"), (0, .class_ 1111), (0, u "java/lang/constant/Constable"), (0, .class_ 1113), (0, u "java/lang/constant/ConstantDesc"), (2, u "serialVersionUID"), (0, u "J"), (3, u "REPL"), (0, u "C"), (2, u "LATIN1"), (1, u "UTF16")] 323

def k7m0 : Method := { name := "<init>", desc := "()V", sig := { parameters := [], returnType := none }, accessFlags := 1, code := none }
def k7c1 : Code := { maxStack := 5, maxLocals := 2, code := jdk_42_method_3_code, exceptionTable := #[], attributes := #[] }
def k7m1 : Method := { name := "<init>", desc := "([C)V", sig := { parameters := [(.array .char)], returnType := none }, accessFlags := 1, code := some k7c1 }
def k7c2 : Code := { maxStack := 2, maxLocals := 3, code := jdk_42_method_66_code, exceptionTable := #[], attributes := #[] }
def k7m2 : Method := { name := "equals", desc := "(Ljava/lang/Object;)Z", sig := { parameters := [(.object "java/lang/Object")], returnType := some .boolean }, accessFlags := 1, code := some k7c2 }
def k7c3 : Code := { maxStack := 4, maxLocals := 6, code := jdk_42_method_149_code, exceptionTable := #[], attributes := #[] }
def k7m3 : Method := { name := "<init>", desc := "([CIILjava/lang/Void;)V", sig := { parameters := [(.array .char), .int, .int, (.object "java/lang/Void")], returnType := none }, accessFlags := 2, code := some k7c3 }
/-- java/lang/String -/
def k7 : Class := { plain "java/lang/String" (some 0) with
  accessFlags := 49
  interfaces := #[2, 3, 4, 5, 6]
  cf := some (fileOf pool7 10 #[.nestMembers #[1103]] #[{ accessFlags := 1, nameIndex := 5, descriptorIndex := 6, attributes := #[] }, { accessFlags := 1, nameIndex := 5, descriptorIndex := 1010, attributes := #[] }, { accessFlags := 1, nameIndex := 543, descriptorIndex := 573, attributes := #[] }, { accessFlags := 2, nameIndex := 5, descriptorIndex := 29, attributes := #[] }] 49 2 #[1106, 1108, 575, 1110, 1112] #[{ accessFlags := 18, nameIndex := 13, descriptorIndex := 14, attributes := #[] }, { accessFlags := 18, nameIndex := 17, descriptorIndex := 18, attributes := #[] }, { accessFlags := 2, nameIndex := 21, descriptorIndex := 22, attributes := #[] }, { accessFlags := 2, nameIndex := 25, descriptorIndex := 26, attributes := #[] }, { accessFlags := 26, nameIndex := 1116, descriptorIndex := 1117, attributes := #[] }, { accessFlags := 24, nameIndex := 40, descriptorIndex := 26, attributes := #[] }, { accessFlags := 26, nameIndex := 1101, descriptorIndex := 1102, attributes := #[] }, { accessFlags := 26, nameIndex := 1121, descriptorIndex := 1122, attributes := #[] }, { accessFlags := 25, nameIndex := 599, descriptorIndex := 600, attributes := #[] }, { accessFlags := 24, nameIndex := 1125, descriptorIndex := 18, attributes := #[] }, { accessFlags := 24, nameIndex := 1127, descriptorIndex := 18, attributes := #[] }])
  fields := #[{ name := "value", type := (.array .byte), accessFlags := 18, slot := 0, constantValue := 0 }, { name := "coder", type := .byte, accessFlags := 18, slot := 1, constantValue := 0 }, { name := "hash", type := .int, accessFlags := 2, slot := 2, constantValue := 0 }, { name := "hashIsZero", type := .boolean, accessFlags := 2, slot := 3, constantValue := 0 }, { name := "serialVersionUID", type := .long, accessFlags := 26, slot := 0, constantValue := 0 }, { name := "COMPACT_STRINGS", type := .boolean, accessFlags := 24, slot := 1, constantValue := 0 }, { name := "serialPersistentFields", type := (.array (.object "java/io/ObjectStreamField")), accessFlags := 26, slot := 2, constantValue := 0 }, { name := "REPL", type := .char, accessFlags := 26, slot := 3, constantValue := 0 }, { name := "CASE_INSENSITIVE_ORDER", type := (.object "java/util/Comparator"), accessFlags := 25, slot := 4, constantValue := 0 }, { name := "LATIN1", type := .byte, accessFlags := 24, slot := 5, constantValue := 0 }, { name := "UTF16", type := .byte, accessFlags := 24, slot := 6, constantValue := 0 }]
  methods := #[k7m0, k7m1, k7m2, k7m3]
  instanceTypes := #[(.array .byte), .byte, .int, .boolean]
  staticTypes := #[.long, .boolean, (.array (.object "java/io/ObjectStreamField")), .char, (.object "java/util/Comparator"), .byte, .byte]
  resolved := Array.replicate 1451 none
  statics := some 0 }

def pool8 : Array CpInfo := pool [(6, .class_ 8), (1, u "java/lang/Object"), (0, u "<init>"), (0, u "()V"), (1, .class_ 14), (1, u "java/lang/StringUTF16"), (31, u "$assertionsDisabled"), (0, u "Z"), (13, u "HI_BYTE_SHIFT"), (0, u "I"), (2, u "LO_BYTE_SHIFT"), (49, .methodref 12 116), (0, .nameAndType 117 118), (0, u "compress"), (0, u "([CI[BII)I"), (3, u "([CII)[B"), (138, u "coderFromArrayLen"), (0, u "([BI)B"), (106, .class_ 371), (1, u "java/lang/StringUTF16$LinesSpliterator"), (58, u "MAX_LENGTH"), (196, .class_ 628), (0, u "java/lang/StringUTF16$CodePointsSpliterator"), (0, .class_ 630), (0, u "java/lang/StringUTF16$CharsSpliterator")] 4

def k8m0 : Method := { name := "<init>", desc := "()V", sig := { parameters := [], returnType := none }, accessFlags := 0, code := none }
def k8c1 : Code := { maxStack := 2, maxLocals := 2, code := jdk_52_method_15_code, exceptionTable := #[], attributes := #[] }
def k8m1 : Method := { name := "coderFromArrayLen", desc := "([BI)B", sig := { parameters := [(.array .byte), .int], returnType := some .byte }, accessFlags := 8, code := some k8c1 }
def k8c2 : Code := { maxStack := 5, maxLocals := 6, code := jdk_52_method_16_code, exceptionTable := #[], attributes := #[] }
def k8m2 : Method := { name := "compress", desc := "([CII)[B", sig := { parameters := [(.array .char), .int, .int], returnType := some (.array .byte) }, accessFlags := 9, code := some k8c2 }
def k8c3 : Code := { maxStack := 3, maxLocals := 7, code := jdk_52_method_21_code, exceptionTable := #[], attributes := #[] }
def k8m3 : Method := { name := "compress", desc := "([CI[BII)I", sig := { parameters := [(.array .char), .int, (.array .byte), .int, .int], returnType := some .int }, accessFlags := 9, code := some k8c3 }
/-- java/lang/StringUTF16 -/
def k8 : Class := { plain "java/lang/StringUTF16" (some 0) with
  accessFlags := 48
  interfaces := #[]
  cf := some (fileOf pool8 12 #[.nestMembers #[627, 629, 369]] #[{ accessFlags := 0, nameIndex := 9, descriptorIndex := 10, attributes := #[] }, { accessFlags := 8, nameIndex := 261, descriptorIndex := 262, attributes := #[] }, { accessFlags := 9, nameIndex := 117, descriptorIndex := 122, attributes := #[] }, { accessFlags := 9, nameIndex := 117, descriptorIndex := 118, attributes := #[] }] 48 6 #[] #[{ accessFlags := 26, nameIndex := 61, descriptorIndex := 62, attributes := #[] }, { accessFlags := 26, nameIndex := 65, descriptorIndex := 62, attributes := #[] }, { accessFlags := 24, nameIndex := 430, descriptorIndex := 62, attributes := #[] }, { accessFlags := 4120, nameIndex := 46, descriptorIndex := 47, attributes := #[] }])
  fields := #[{ name := "HI_BYTE_SHIFT", type := .int, accessFlags := 26, slot := 0, constantValue := 0 }, { name := "LO_BYTE_SHIFT", type := .int, accessFlags := 26, slot := 1, constantValue := 0 }, { name := "MAX_LENGTH", type := .int, accessFlags := 24, slot := 2, constantValue := 0 }, { name := "$assertionsDisabled", type := .boolean, accessFlags := 4120, slot := 3, constantValue := 0 }]
  methods := #[k8m0, k8m1, k8m2, k8m3]
  instanceTypes := #[]
  staticTypes := #[.int, .int, .int, .boolean]
  resolved := Array.replicate 635 none
  statics := none }

def pool9 : Array CpInfo := pool [(1, .methodref 2 3), (0, .class_ 4), (0, .nameAndType 5 6), (0, u "java/lang/Object"), (0, u "<init>"), (0, u "()V"), (0, .string 8), (0, u "file"), (0, .methodref 10 11), (0, .class_ 12), (0, .nameAndType 13 14), (0, u "java/util/Objects"), (0, u "requireNonNull"), (0, u "(Ljava/lang/Object;Ljava/lang/String;)Ljava/lang/Object;"), (0, .class_ 16), (0, u "java/lang/String"), (0, .fieldref 18 19), (0, .class_ 20), (0, .nameAndType 8 21), (0, u "com/example/prudent_annotator/prudentannotator/profile/FileChecksum"), (0, u "Ljava/lang/String;"), (0, .string 23), (0, u "sha256"), (0, .fieldref 18 25), (0, .nameAndType 23 21), (76, u "(Ljava/lang/String;Ljava/lang/String;)V"), (0, .methodref 15 104), (0, .nameAndType 105 106), (0, u "equals"), (0, u "(Ljava/lang/Object;)Z"), (4, u "ALGORITHM")] 17

def k9c0 : Code := { maxStack := 3, maxLocals := 3, code := prog_53_method_1_code, exceptionTable := #[], attributes := #[] }
def k9m0 : Method := { name := "<init>", desc := "(Ljava/lang/String;Ljava/lang/String;)V", sig := { parameters := [(.object "java/lang/String"), (.object "java/lang/String")], returnType := none }, accessFlags := 1, code := some k9c0 }
def k9c1 : Code := { maxStack := 2, maxLocals := 2, code := prog_53_method_8_code, exceptionTable := #[], attributes := #[] }
def k9m1 : Method := { name := "equals", desc := "(Ljava/lang/Object;)Z", sig := { parameters := [(.object "java/lang/Object")], returnType := some .boolean }, accessFlags := 1, code := some k9c1 }
/-- com/example/prudent_annotator/prudentannotator/profile/FileChecksum -/
def k9 : Class := { plain "com/example/prudent_annotator/prudentannotator/profile/FileChecksum" (some 0) with
  accessFlags := 49
  interfaces := #[]
  cf := some (fileOf pool9 18 #[] #[{ accessFlags := 1, nameIndex := 5, descriptorIndex := 102, attributes := #[] }, { accessFlags := 1, nameIndex := 105, descriptorIndex := 106, attributes := #[] }] 49 2 #[] #[{ accessFlags := 26, nameIndex := 111, descriptorIndex := 21, attributes := #[] }, { accessFlags := 18, nameIndex := 8, descriptorIndex := 21, attributes := #[] }, { accessFlags := 18, nameIndex := 23, descriptorIndex := 21, attributes := #[] }])
  fields := #[{ name := "ALGORITHM", type := (.object "java/lang/String"), accessFlags := 26, slot := 0, constantValue := 0 }, { name := "file", type := (.object "java/lang/String"), accessFlags := 18, slot := 0, constantValue := 0 }, { name := "sha256", type := (.object "java/lang/String"), accessFlags := 18, slot := 1, constantValue := 0 }]
  methods := #[k9m0, k9m1]
  instanceTypes := #[(.object "java/lang/String"), (.object "java/lang/String")]
  staticTypes := #[(.object "java/lang/String")]
  resolved := Array.replicate 129 none
  statics := none }

def pool10 : Array CpInfo := pool [(2, .class_ 4), (1, u "java/lang/Object"), (0, u "<init>"), (0, u "()V"), (35, .class_ 44), (1, u "java/util/Objects"), (0, u "requireNonNull"), (48, u "(Ljava/lang/Object;Ljava/lang/String;)Ljava/lang/Object;")] 89

def k10m0 : Method := { name := "<init>", desc := "()V", sig := { parameters := [], returnType := none }, accessFlags := 2, code := none }
def k10c1 : Code := { maxStack := 3, maxLocals := 2, code := jdk_31_method_11_code, exceptionTable := #[], attributes := #[] }
def k10m1 : Method := { name := "requireNonNull", desc := "(Ljava/lang/Object;Ljava/lang/String;)Ljava/lang/Object;", sig := { parameters := [(.object "java/lang/Object"), (.object "java/lang/String")], returnType := some (.object "java/lang/Object") }, accessFlags := 9, code := some k10c1 }
/-- java/util/Objects -/
def k10 : Class := { plain "java/util/Objects" (some 0) with
  accessFlags := 49
  interfaces := #[]
  cf := some (fileOf pool10 42 #[] #[{ accessFlags := 2, nameIndex := 5, descriptorIndex := 6, attributes := #[] }, { accessFlags := 9, nameIndex := 45, descriptorIndex := 94, attributes := #[] }] 49 2 #[] #[])
  fields := #[]
  methods := #[k10m0, k10m1]
  instanceTypes := #[]
  staticTypes := #[]
  resolved := Array.replicate 184 none
  statics := none }

def pool11 : Array CpInfo := pool [(4, .class_ 6), (1, u "java/lang/Object"), (0, u "<init>"), (0, u "()V"), (5, .class_ 16), (1, u "java/lang/StringLatin1"), (104, u "$assertionsDisabled"), (0, u "Z"), (98, .class_ 223), (1, u "java/lang/StringLatin1$LinesSpliterator"), (57, u "equals"), (0, u "([B[B)Z"), (107, .class_ 391), (0, u "java/lang/StringLatin1$CharsSpliterator")] 3

def k11m0 : Method := { name := "<init>", desc := "()V", sig := { parameters := [], returnType := none }, accessFlags := 0, code := none }
def k11c1 : Code := { maxStack := 3, maxLocals := 3, code := jdk_43_method_13_code, exceptionTable := #[], attributes := #[] }
def k11m1 : Method := { name := "equals", desc := "([B[B)Z", sig := { parameters := [(.array .byte), (.array .byte)], returnType := some .boolean }, accessFlags := 9, code := some k11c1 }
/-- java/lang/StringLatin1 -/
def k11 : Class := { plain "java/lang/StringLatin1" (some 0) with
  accessFlags := 48
  interfaces := #[]
  cf := some (fileOf pool11 14 #[.nestMembers #[390, 221]] #[{ accessFlags := 0, nameIndex := 7, descriptorIndex := 8, attributes := #[] }, { accessFlags := 9, nameIndex := 281, descriptorIndex := 282, attributes := #[] }] 48 4 #[] #[{ accessFlags := 4120, nameIndex := 121, descriptorIndex := 122, attributes := #[] }])
  fields := #[{ name := "$assertionsDisabled", type := .boolean, accessFlags := 4120, slot := 0, constantValue := 0 }]
  methods := #[k11m0, k11m1]
  instanceTypes := #[]
  staticTypes := #[.boolean]
  resolved := Array.replicate 395 none
  statics := none }

def pool12 : Array CpInfo := pool [(2, .class_ 4), (1, u "java/lang/Object"), (0, u "<init>"), (0, u "()V"), (17, .class_ 26), (1, u "jdk/internal/util/Preconditions"), (28, .class_ 56), (0, u "jdk/internal/util/Preconditions$4"), (57, .class_ 115), (0, u "jdk/internal/util/Preconditions$1"), (7, u "SIOOBE_FORMATTER"), (0, u "Ljava/util/function/BiFunction;"), (0, .class_ 126), (0, u "jdk/internal/util/Preconditions$2"), (3, u "AIOOBE_FORMATTER"), (0, .class_ 132), (0, u "jdk/internal/util/Preconditions$3"), (3, u "IOOBE_FORMATTER")] 57

def k12m0 : Method := { name := "<init>", desc := "()V", sig := { parameters := [], returnType := none }, accessFlags := 1, code := none }
/-- jdk/internal/util/Preconditions -/
def k12 : Class := { plain "jdk/internal/util/Preconditions" (some 0) with
  accessFlags := 33
  interfaces := #[]
  cf := some (fileOf pool12 24 #[.nestMembers #[55, 131, 125, 114]] #[{ accessFlags := 1, nameIndex := 5, descriptorIndex := 6, attributes := #[] }] 33 2 #[] #[{ accessFlags := 25, nameIndex := 123, descriptorIndex := 124, attributes := #[] }, { accessFlags := 25, nameIndex := 130, descriptorIndex := 124, attributes := #[] }, { accessFlags := 25, nameIndex := 136, descriptorIndex := 124, attributes := #[] }])
  fields := #[{ name := "SIOOBE_FORMATTER", type := (.object "java/util/function/BiFunction"), accessFlags := 25, slot := 0, constantValue := 0 }, { name := "AIOOBE_FORMATTER", type := (.object "java/util/function/BiFunction"), accessFlags := 25, slot := 1, constantValue := 0 }, { name := "IOOBE_FORMATTER", type := (.object "java/util/function/BiFunction"), accessFlags := 25, slot := 2, constantValue := 0 }]
  methods := #[k12m0]
  instanceTypes := #[]
  staticTypes := #[(.object "java/util/function/BiFunction"), (.object "java/util/function/BiFunction"), (.object "java/util/function/BiFunction")]
  resolved := Array.replicate 194 none
  statics := some 1 }

def pool13 : Array CpInfo := pool [(9, u "<init>"), (6, .class_ 18), (1, u "java/lang/Object"), (0, u "()V"), (1, .class_ 23), (1, u "jdk/internal/util/ArraysSupport"), (0, u "LOG2_ARRAY_LONG_INDEX_SCALE"), (0, u "I"), (2, u "U"), (0, u "Ljdk/internal/misc/Unsafe;"), (8, u "BIG_ENDIAN"), (0, u "Z"), (8, u "LOG2_BYTE_BIT_SIZE"), (4, u "LOG2_ARRAY_INT_INDEX_SCALE"), (54, u "JLA"), (0, u "Ljdk/internal/access/JavaLangAccess;"), (11, u "LOG2_ARRAY_BOOLEAN_INDEX_SCALE"), (9, u "LOG2_ARRAY_BYTE_INDEX_SCALE"), (5, u "LOG2_ARRAY_CHAR_INDEX_SCALE"), (5, u "LOG2_ARRAY_SHORT_INDEX_SCALE"), (18, u "LOG2_ARRAY_FLOAT_INDEX_SCALE"), (24, u "LOG2_ARRAY_DOUBLE_INDEX_SCALE"), (89, u "T_BOOLEAN"), (2, u "T_CHAR"), (1, u "T_FLOAT"), (1, u "T_DOUBLE"), (1, u "T_BYTE"), (1, u "T_SHORT"), (1, u "T_INT"), (1, u "T_LONG"), (1, u "SOFT_MAX_ARRAY_LENGTH")] 83

def k13m0 : Method := { name := "<init>", desc := "()V", sig := { parameters := [], returnType := none }, accessFlags := 2, code := none }
/-- jdk/internal/util/ArraysSupport -/
def k13 : Class := { plain "jdk/internal/util/ArraysSupport" (some 0) with
  accessFlags := 33
  interfaces := #[]
  cf := some (fileOf pool13 21 #[] #[{ accessFlags := 2, nameIndex := 9, descriptorIndex := 19, attributes := #[] }] 33 16 #[] #[{ accessFlags := 24, nameIndex := 28, descriptorIndex := 29, attributes := #[] }, { accessFlags := 26, nameIndex := 38, descriptorIndex := 39, attributes := #[] }, { accessFlags := 25, nameIndex := 121, descriptorIndex := 25, attributes := #[] }, { accessFlags := 25, nameIndex := 131, descriptorIndex := 25, attributes := #[] }, { accessFlags := 25, nameIndex := 137, descriptorIndex := 25, attributes := #[] }, { accessFlags := 25, nameIndex := 143, descriptorIndex := 25, attributes := #[] }, { accessFlags := 25, nameIndex := 53, descriptorIndex := 25, attributes := #[] }, { accessFlags := 25, nameIndex := 24, descriptorIndex := 25, attributes := #[] }, { accessFlags := 25, nameIndex := 162, descriptorIndex := 25, attributes := #[] }, { accessFlags := 25, nameIndex := 187, descriptorIndex := 25, attributes := #[] }, { accessFlags := 26, nameIndex := 48, descriptorIndex := 25, attributes := #[] }, { accessFlags := 25, nameIndex := 277, descriptorIndex := 25, attributes := #[] }, { accessFlags := 25, nameIndex := 280, descriptorIndex := 25, attributes := #[] }, { accessFlags := 25, nameIndex := 282, descriptorIndex := 25, attributes := #[] }, { accessFlags := 25, nameIndex := 284, descriptorIndex := 25, attributes := #[] }, { accessFlags := 25, nameIndex := 286, descriptorIndex := 25, attributes := #[] }, { accessFlags := 25, nameIndex := 288, descriptorIndex := 25, attributes := #[] }, { accessFlags := 25, nameIndex := 290, descriptorIndex := 25, attributes := #[] }, { accessFlags := 25, nameIndex := 292, descriptorIndex := 25, attributes := #[] }, { accessFlags := 26, nameIndex := 108, descriptorIndex := 109, attributes := #[] }, { accessFlags := 25, nameIndex := 294, descriptorIndex := 25, attributes := #[] }])
  fields := #[{ name := "U", type := (.object "jdk/internal/misc/Unsafe"), accessFlags := 24, slot := 0, constantValue := 0 }, { name := "BIG_ENDIAN", type := .boolean, accessFlags := 26, slot := 1, constantValue := 0 }, { name := "LOG2_ARRAY_BOOLEAN_INDEX_SCALE", type := .int, accessFlags := 25, slot := 2, constantValue := 0 }, { name := "LOG2_ARRAY_BYTE_INDEX_SCALE", type := .int, accessFlags := 25, slot := 3, constantValue := 0 }, { name := "LOG2_ARRAY_CHAR_INDEX_SCALE", type := .int, accessFlags := 25, slot := 4, constantValue := 0 }, { name := "LOG2_ARRAY_SHORT_INDEX_SCALE", type := .int, accessFlags := 25, slot := 5, constantValue := 0 }, { name := "LOG2_ARRAY_INT_INDEX_SCALE", type := .int, accessFlags := 25, slot := 6, constantValue := 0 }, { name := "LOG2_ARRAY_LONG_INDEX_SCALE", type := .int, accessFlags := 25, slot := 7, constantValue := 0 }, { name := "LOG2_ARRAY_FLOAT_INDEX_SCALE", type := .int, accessFlags := 25, slot := 8, constantValue := 0 }, { name := "LOG2_ARRAY_DOUBLE_INDEX_SCALE", type := .int, accessFlags := 25, slot := 9, constantValue := 0 }, { name := "LOG2_BYTE_BIT_SIZE", type := .int, accessFlags := 26, slot := 10, constantValue := 0 }, { name := "T_BOOLEAN", type := .int, accessFlags := 25, slot := 11, constantValue := 0 }, { name := "T_CHAR", type := .int, accessFlags := 25, slot := 12, constantValue := 0 }, { name := "T_FLOAT", type := .int, accessFlags := 25, slot := 13, constantValue := 0 }, { name := "T_DOUBLE", type := .int, accessFlags := 25, slot := 14, constantValue := 0 }, { name := "T_BYTE", type := .int, accessFlags := 25, slot := 15, constantValue := 0 }, { name := "T_SHORT", type := .int, accessFlags := 25, slot := 16, constantValue := 0 }, { name := "T_INT", type := .int, accessFlags := 25, slot := 17, constantValue := 0 }, { name := "T_LONG", type := .int, accessFlags := 25, slot := 18, constantValue := 0 }, { name := "JLA", type := (.object "jdk/internal/access/JavaLangAccess"), accessFlags := 26, slot := 19, constantValue := 0 }, { name := "SOFT_MAX_ARRAY_LENGTH", type := .int, accessFlags := 25, slot := 20, constantValue := 0 }]
  methods := #[k13m0]
  instanceTypes := #[]
  staticTypes := #[(.object "jdk/internal/misc/Unsafe"), .boolean, .int, .int, .int, .int, .int, .int, .int, .int, .int, .int, .int, .int, .int, .int, .int, .int, .int, (.object "jdk/internal/access/JavaLangAccess"), .int]
  resolved := Array.replicate 378 none
  statics := none }

def pool14 : Array CpInfo := pool [(1, u "java/lang/Cloneable"), (0, .class_ 1), (0, u "java/lang/Object"), (0, .class_ 3)] 3

/-- java/lang/Cloneable -/
def k14 : Class := { plain "java/lang/Cloneable" (some 0) with
  accessFlags := 1537
  interfaces := #[]
  cf := some (fileOf pool14 2 #[] #[] 1537 4 #[] #[])
  fields := #[]
  methods := #[]
  instanceTypes := #[]
  staticTypes := #[]
  resolved := Array.replicate 8 none
  statics := none }

/-- the primitive byte -/
def k15 : Class := { plain "byte" none with kind := .primitive 'B', accessFlags := 0x411 }
/-- [B -/
def k16 : Class := { plain "[B" (some 0) with kind := .array 15 .byte, interfaces := #[14, 2], accessFlags := 1041 }

/-- the primitive char -/
def k17 : Class := { plain "char" none with kind := .primitive 'C', accessFlags := 0x411 }
/-- [C -/
def k18 : Class := { plain "[C" (some 0) with kind := .array 17 .char, interfaces := #[14, 2], accessFlags := 1041 }

/-- the primitive int -/
def k19 : Class := { plain "int" none with kind := .primitive 'I', accessFlags := 0x411 }
/-- [I -/
def k20 : Class := { plain "[I" (some 0) with kind := .array 19 .int, interfaces := #[14, 2], accessFlags := 1041 }

def heap : Heap := #[{ cls := 7, slots := #[.long 0, .int 1, .null, .int 0, .null, .int 0, .int 0], vm := .statics 7 },
  { cls := 12, slots := #[.null, .null, .null], vm := .statics 12 }]
def classes : Array Class := #[k0, k1, k2, k3, k4, k5, k6, k7, k8, k9, k10, k11, k12, k13, k14, k15, k16, k17, k18, k19, k20]
def interned : List (Array UInt16 × Addr) := []
def slotsUsed : Nat := 10
def theMethod : MethodId := ⟨1, 6⟩
def args0 : Array Value := #[.int 0, .int 257, .int 514, .int 258, .int 0]
def aboutOver (below : List Frame) : State where
  vm := { classes := classes, interned := interned.toArray }
  heap := heap
  slotsUsed := slotsUsed
  threads := #[{ frames := .invoking theMethod args0 :: below }]
def below0 : List Frame := [.native { method := ⟨0, 0⟩, args := #[] }]
def about1 : State := aboutOver below0
def p0 : Program := .bare "" "" ""
def e0 : Env := launch0.env 0 0 0
theorem w_frames : about1.frames = Frame.invoking theMethod args0 :: below0 := rfl
set_option maxRecDepth 65536 in
theorem w_args : argsFit about1.vm theMethod args0 = true := by decide +kernel
set_option maxRecDepth 65536 in
theorem w_heap : heapFits about1 = true := by decide +kernel
set_option maxRecDepth 65536 in
theorem w_runnable : about1.curStatus? = some .runnable := by decide +kernel
set_option maxRecDepth 65536 in
theorem w_alone : about1.alone = true := by decide +kernel
set_option maxRecDepth 65536 in
theorem w_named : about1.methodNamed? x = some theMethod := by decide +kernel
set_option maxRecDepth 65536 in
theorem w_hears : about1.hears theMethod below0 = true := by decide +kernel
set_option maxRecDepth 65536 in
theorem w_ripe : about1.ripe theMethod args0 below0 = true := by decide +kernel
theorem w_running : about1.status = .running := rfl
set_option maxRecDepth 65536 in
theorem w_room : about1.hasRoom e0.platform room_1 = true :=
  launch0.hasRoom_least _ room_1 (by decide +kernel) (by decide +kernel) (by decide +kernel) (by decide +kernel) (by decide +kernel) (by decide +kernel)
theorem allAtoms_all (ts : List Jvm.Cond) (a : Array Jvm.Value) (st : Jvm.State) : (allAtoms ts).before a st = ts.all (fun c => c.before a st) := by
  induction ts with
  | nil => rfl
  | cons c t ih =>
    show (Jvm.Cond.and c (allAtoms t)).before a st = _
    rw [Jvm.Cond.before_and, ih, List.all_cons]
def words1 : List Jvm.Cond := Jvm.Cond.code x code maxLocals ret :: tables_1
/-- a 'code' word, met by the world's own term for the bytes: nothing is compared byte by byte -/
theorem code_word {y : MethodName} {bytes : ByteArray} {mx : Nat} {rt : Option FieldType} {a : Array Value} {s : State} {m : MethodId} {meth : Method} {c : Code} (h1 : s.methodNamed? y = some m) (h2 : s.vm.method? m = some meth) (h3 : meth.code = some c) (h4 : c.code = bytes)
    (h5 : (c.maxLocals == mx && c.exceptionTable.isEmpty && decide (c.maxStack ≤ mostOperands) && decide (meth.sig.returnType = rt) && !meth.locks && decide (parseMethodDescriptor y.desc = some meth.sig)) = true) : (Jvm.Cond.code y bytes mx rt).before a s = true := by
  simp only [Bool.and_eq_true, beq_iff_eq, Bool.not_eq_true', decide_eq_true_eq] at h5
  obtain ⟨⟨⟨⟨⟨g1, g2⟩, g3⟩, g4⟩, g5⟩, g6⟩ := h5
  simp [Cond.before, Cond.holds, Cond.value, h1, h2, h3, h4, g1, g2, g3, g4, g5, g6]
def isCode : Jvm.Cond → Bool
  | .code _ _ _ _ => true
  | _ => false
theorem all_split {L : List Jvm.Cond} {P : Jvm.Cond → Bool} (h1 : L.all (fun c => isCode c || P c) = true) (h2 : ∀ c ∈ L.filter isCode, P c = true) : L.all P = true := by
  refine List.all_eq_true.mpr fun c hc => ?_
  have h := List.all_eq_true.mp h1 c hc
  rcases Bool.eq_false_or_eq_true (isCode c) with hi | hi
  · exact h2 c (List.mem_filter.mpr ⟨hc, hi⟩)
  · simpa [hi] using h
set_option maxRecDepth 65536 in
theorem w_c0 : (Jvm.Cond.code x code maxLocals ret).before args0 about1 = true := code_word (m := ⟨1, 6⟩) (meth := k1m6) (c := k1c6) (by decide +kernel) rfl rfl rfl (by decide +kernel)
set_option maxRecDepth 65536 in
theorem w_c1 : (Jvm.Cond.code ({ cls := "com/example/prudent_annotator/prudentannotator/profile/FileChecksumEqualsPinLaw", name := "mk", desc := "(I)Ljava/lang/String;" } : Jvm.MethodName) method_5_code (3 : Nat) (Option.some (Jvm.ClassFile.FieldType.object "java/lang/String"))).before args0 about1 = true := code_word (m := ⟨1, 4⟩) (meth := k1m4) (c := k1c4) (by decide +kernel) rfl rfl rfl (by decide +kernel)
set_option maxRecDepth 65536 in
theorem w_c2 : (Jvm.Cond.code ({ cls := "com/example/prudent_annotator/prudentannotator/profile/FileChecksumEqualsPinLaw", name := "len", desc := "(I)I" } : Jvm.MethodName) method_2_code (1 : Nat) (Option.some Jvm.ClassFile.FieldType.int)).before args0 about1 = true := code_word (m := ⟨1, 1⟩) (meth := k1m1) (c := k1c1) (by decide +kernel) rfl rfl rfl (by decide +kernel)
set_option maxRecDepth 65536 in
theorem w_c3 : (Jvm.Cond.code ({ cls := "java/lang/String", name := "<init>", desc := "([C)V" } : Jvm.MethodName) jdk_42_method_3_code (2 : Nat) (Option.none : Option Jvm.ClassFile.FieldType)).before args0 about1 = true := code_word (m := ⟨7, 1⟩) (meth := k7m1) (c := k7c1) (by decide +kernel) rfl rfl rfl (by decide +kernel)
set_option maxRecDepth 65536 in
theorem w_c4 : (Jvm.Cond.code ({ cls := "java/lang/String", name := "<init>", desc := "([CIILjava/lang/Void;)V" } : Jvm.MethodName) jdk_42_method_149_code (6 : Nat) (Option.none : Option Jvm.ClassFile.FieldType)).before args0 about1 = true := code_word (m := ⟨7, 3⟩) (meth := k7m3) (c := k7c3) (by decide +kernel) rfl rfl rfl (by decide +kernel)
set_option maxRecDepth 65536 in
theorem w_c5 : (Jvm.Cond.code ({ cls := "java/lang/Object", name := "<init>", desc := "()V" } : Jvm.MethodName) object_method_1_code (1 : Nat) (Option.none : Option Jvm.ClassFile.FieldType)).before args0 about1 = true := code_word (m := ⟨0, 0⟩) (meth := k0m0) (c := k0c0) (by decide +kernel) rfl rfl rfl (by decide +kernel)
set_option maxRecDepth 65536 in
theorem w_c6 : (Jvm.Cond.code ({ cls := "com/example/prudent_annotator/prudentannotator/profile/FileChecksumEqualsPinLaw", name := "c0", desc := "(I)C" } : Jvm.MethodName) method_3_code (1 : Nat) (Option.some Jvm.ClassFile.FieldType.char)).before args0 about1 = true := code_word (m := ⟨1, 2⟩) (meth := k1m2) (c := k1c2) (by decide +kernel) rfl rfl rfl (by decide +kernel)
set_option maxRecDepth 65536 in
theorem w_c7 : (Jvm.Cond.code ({ cls := "com/example/prudent_annotator/prudentannotator/profile/FileChecksumEqualsPinLaw", name := "c1", desc := "(I)C" } : Jvm.MethodName) method_4_code (1 : Nat) (Option.some Jvm.ClassFile.FieldType.char)).before args0 about1 = true := code_word (m := ⟨1, 3⟩) (meth := k1m3) (c := k1c3) (by decide +kernel) rfl rfl rfl (by decide +kernel)
set_option maxRecDepth 65536 in
theorem w_c8 : (Jvm.Cond.code ({ cls := "java/lang/StringUTF16", name := "compress", desc := "([CII)[B" } : Jvm.MethodName) jdk_52_method_16_code (6 : Nat) (Option.some (Jvm.ClassFile.FieldType.array Jvm.ClassFile.FieldType.byte))).before args0 about1 = true := code_word (m := ⟨8, 2⟩) (meth := k8m2) (c := k8c2) (by decide +kernel) rfl rfl rfl (by decide +kernel)
set_option maxRecDepth 65536 in
theorem w_c9 : (Jvm.Cond.code ({ cls := "java/lang/StringUTF16", name := "compress", desc := "([CI[BII)I" } : Jvm.MethodName) jdk_52_method_21_code (7 : Nat) (Option.some Jvm.ClassFile.FieldType.int)).before args0 about1 = true := code_word (m := ⟨8, 3⟩) (meth := k8m3) (c := k8c3) (by decide +kernel) rfl rfl rfl (by decide +kernel)
set_option maxRecDepth 65536 in
theorem w_c10 : (Jvm.Cond.code ({ cls := "java/lang/StringUTF16", name := "coderFromArrayLen", desc := "([BI)B" } : Jvm.MethodName) jdk_52_method_15_code (2 : Nat) (Option.some Jvm.ClassFile.FieldType.byte)).before args0 about1 = true := code_word (m := ⟨8, 1⟩) (meth := k8m1) (c := k8c1) (by decide +kernel) rfl rfl rfl (by decide +kernel)
set_option maxRecDepth 65536 in
theorem w_c11 : (Jvm.Cond.code ({ cls := "com/example/prudent_annotator/prudentannotator/profile/FileChecksum", name := "<init>", desc := "(Ljava/lang/String;Ljava/lang/String;)V" } : Jvm.MethodName) prog_53_method_1_code (3 : Nat) (Option.none : Option Jvm.ClassFile.FieldType)).before args0 about1 = true := code_word (m := ⟨9, 0⟩) (meth := k9m0) (c := k9c0) (by decide +kernel) rfl rfl rfl (by decide +kernel)
set_option maxRecDepth 65536 in
theorem w_c12 : (Jvm.Cond.code ({ cls := "java/util/Objects", name := "requireNonNull", desc := "(Ljava/lang/Object;Ljava/lang/String;)Ljava/lang/Object;" } : Jvm.MethodName) jdk_31_method_11_code (2 : Nat) (Option.some (Jvm.ClassFile.FieldType.object "java/lang/Object"))).before args0 about1 = true := code_word (m := ⟨10, 1⟩) (meth := k10m1) (c := k10c1) (by decide +kernel) rfl rfl rfl (by decide +kernel)
set_option maxRecDepth 65536 in
theorem w_c13 : (Jvm.Cond.code ({ cls := "com/example/prudent_annotator/prudentannotator/profile/FileChecksumEqualsPinLaw", name := "same", desc := "(II)Z" } : Jvm.MethodName) method_6_code (4 : Nat) (Option.some Jvm.ClassFile.FieldType.boolean)).before args0 about1 = true := code_word (m := ⟨1, 5⟩) (meth := k1m5) (c := k1c5) (by decide +kernel) rfl rfl rfl (by decide +kernel)
set_option maxRecDepth 65536 in
theorem w_c14 : (Jvm.Cond.code ({ cls := "com/example/prudent_annotator/prudentannotator/profile/FileChecksum", name := "equals", desc := "(Ljava/lang/Object;)Z" } : Jvm.MethodName) prog_53_method_8_code (2 : Nat) (Option.some Jvm.ClassFile.FieldType.boolean)).before args0 about1 = true := code_word (m := ⟨9, 1⟩) (meth := k9m1) (c := k9c1) (by decide +kernel) rfl rfl rfl (by decide +kernel)
set_option maxRecDepth 65536 in
theorem w_c15 : (Jvm.Cond.code ({ cls := "java/lang/String", name := "equals", desc := "(Ljava/lang/Object;)Z" } : Jvm.MethodName) jdk_42_method_66_code (3 : Nat) (Option.some Jvm.ClassFile.FieldType.boolean)).before args0 about1 = true := code_word (m := ⟨7, 2⟩) (meth := k7m2) (c := k7c2) (by decide +kernel) rfl rfl rfl (by decide +kernel)
set_option maxRecDepth 65536 in
theorem w_c16 : (Jvm.Cond.code ({ cls := "java/lang/StringLatin1", name := "equals", desc := "([B[B)Z" } : Jvm.MethodName) jdk_43_method_13_code (3 : Nat) (Option.some Jvm.ClassFile.FieldType.boolean)).before args0 about1 = true := code_word (m := ⟨11, 1⟩) (meth := k11m1) (c := k11c1) (by decide +kernel) rfl rfl rfl (by decide +kernel)
def codes1 : List Jvm.Cond := [Jvm.Cond.code x code maxLocals ret, Jvm.Cond.code ({ cls := "com/example/prudent_annotator/prudentannotator/profile/FileChecksumEqualsPinLaw", name := "mk", desc := "(I)Ljava/lang/String;" } : Jvm.MethodName) method_5_code (3 : Nat) (Option.some (Jvm.ClassFile.FieldType.object "java/lang/String")), Jvm.Cond.code ({ cls := "com/example/prudent_annotator/prudentannotator/profile/FileChecksumEqualsPinLaw", name := "len", desc := "(I)I" } : Jvm.MethodName) method_2_code (1 : Nat) (Option.some Jvm.ClassFile.FieldType.int), Jvm.Cond.code ({ cls := "java/lang/String", name := "<init>", desc := "([C)V" } : Jvm.MethodName) jdk_42_method_3_code (2 : Nat) (Option.none : Option Jvm.ClassFile.FieldType), Jvm.Cond.code ({ cls := "java/lang/String", name := "<init>", desc := "([CIILjava/lang/Void;)V" } : Jvm.MethodName) jdk_42_method_149_code (6 : Nat) (Option.none : Option Jvm.ClassFile.FieldType), Jvm.Cond.code ({ cls := "java/lang/Object", name := "<init>", desc := "()V" } : Jvm.MethodName) object_method_1_code (1 : Nat) (Option.none : Option Jvm.ClassFile.FieldType), Jvm.Cond.code ({ cls := "com/example/prudent_annotator/prudentannotator/profile/FileChecksumEqualsPinLaw", name := "c0", desc := "(I)C" } : Jvm.MethodName) method_3_code (1 : Nat) (Option.some Jvm.ClassFile.FieldType.char), Jvm.Cond.code ({ cls := "com/example/prudent_annotator/prudentannotator/profile/FileChecksumEqualsPinLaw", name := "c1", desc := "(I)C" } : Jvm.MethodName) method_4_code (1 : Nat) (Option.some Jvm.ClassFile.FieldType.char), Jvm.Cond.code ({ cls := "java/lang/StringUTF16", name := "compress", desc := "([CII)[B" } : Jvm.MethodName) jdk_52_method_16_code (6 : Nat) (Option.some (Jvm.ClassFile.FieldType.array Jvm.ClassFile.FieldType.byte)), Jvm.Cond.code ({ cls := "java/lang/StringUTF16", name := "compress", desc := "([CI[BII)I" } : Jvm.MethodName) jdk_52_method_21_code (7 : Nat) (Option.some Jvm.ClassFile.FieldType.int), Jvm.Cond.code ({ cls := "java/lang/StringUTF16", name := "coderFromArrayLen", desc := "([BI)B" } : Jvm.MethodName) jdk_52_method_15_code (2 : Nat) (Option.some Jvm.ClassFile.FieldType.byte), Jvm.Cond.code ({ cls := "com/example/prudent_annotator/prudentannotator/profile/FileChecksum", name := "<init>", desc := "(Ljava/lang/String;Ljava/lang/String;)V" } : Jvm.MethodName) prog_53_method_1_code (3 : Nat) (Option.none : Option Jvm.ClassFile.FieldType), Jvm.Cond.code ({ cls := "java/util/Objects", name := "requireNonNull", desc := "(Ljava/lang/Object;Ljava/lang/String;)Ljava/lang/Object;" } : Jvm.MethodName) jdk_31_method_11_code (2 : Nat) (Option.some (Jvm.ClassFile.FieldType.object "java/lang/Object")), Jvm.Cond.code ({ cls := "com/example/prudent_annotator/prudentannotator/profile/FileChecksumEqualsPinLaw", name := "same", desc := "(II)Z" } : Jvm.MethodName) method_6_code (4 : Nat) (Option.some Jvm.ClassFile.FieldType.boolean), Jvm.Cond.code ({ cls := "com/example/prudent_annotator/prudentannotator/profile/FileChecksum", name := "equals", desc := "(Ljava/lang/Object;)Z" } : Jvm.MethodName) prog_53_method_8_code (2 : Nat) (Option.some Jvm.ClassFile.FieldType.boolean), Jvm.Cond.code ({ cls := "java/lang/String", name := "equals", desc := "(Ljava/lang/Object;)Z" } : Jvm.MethodName) jdk_42_method_66_code (3 : Nat) (Option.some Jvm.ClassFile.FieldType.boolean), Jvm.Cond.code ({ cls := "java/lang/StringLatin1", name := "equals", desc := "([B[B)Z" } : Jvm.MethodName) jdk_43_method_13_code (3 : Nat) (Option.some Jvm.ClassFile.FieldType.boolean)]
set_option maxRecDepth 65536 in
theorem codes_eq : words1.filter isCode = codes1 := rfl
theorem w_codes : ∀ c ∈ words1.filter isCode, c.before args0 about1 = true := by
  rw [codes_eq]
  intro c hc
  simp only [codes1, List.mem_cons, List.not_mem_nil, or_false] at hc
  rcases hc with rfl | rfl | rfl | rfl | rfl | rfl | rfl | rfl | rfl | rfl | rfl | rfl | rfl | rfl | rfl | rfl | rfl
  · exact w_c0
  · exact w_c1
  · exact w_c2
  · exact w_c3
  · exact w_c4
  · exact w_c5
  · exact w_c6
  · exact w_c7
  · exact w_c8
  · exact w_c9
  · exact w_c10
  · exact w_c11
  · exact w_c12
  · exact w_c13
  · exact w_c14
  · exact w_c15
  · exact w_c16
set_option maxRecDepth 65536 in
theorem w_t1 : (words1.take 24).all (fun c => isCode c || c.before args0 about1) = true := by decide +kernel
set_option maxRecDepth 65536 in
theorem w_t2 : ((words1.drop 24).take 24).all (fun c => isCode c || c.before args0 about1) = true := by decide +kernel
set_option maxRecDepth 65536 in
theorem w_t3 : (((words1.drop 24).drop 24).take 24).all (fun c => isCode c || c.before args0 about1) = true := by decide +kernel
set_option maxRecDepth 65536 in
theorem w_t4 : (((words1.drop 24).drop 24).drop 24).all (fun c => isCode c || c.before args0 about1) = true := by decide +kernel
theorem w_tables : (allAtoms (Jvm.Cond.code x code maxLocals ret :: tables_1)).before args0 about1 = true := by
  rw [allAtoms_all]
  show words1.all (fun c => c.before args0 about1) = true
  refine all_split ?_ w_codes
  rw [← List.take_append_drop 24 words1, List.all_append, w_t1, ← List.take_append_drop 24 (words1.drop 24), List.all_append, w_t2, ← List.take_append_drop 24 ((words1.drop 24).drop 24), List.all_append, w_t3, w_t4]
  rfl
set_option maxRecDepth 65536 in
theorem w_rest : rest_1_c.before args0 about1 = true := by decide +kernel
set_option maxRecDepth 65536 in
theorem w_case : (Jvm.Cond.and given_1 narrow_1).before args0 about1 = true := by decide +kernel
set_option maxRecDepth 65536 in
theorem w_consts : constsHeld consts_1 about1 := Jvm.Lit.constsHeldB_iff.mp (by decide +kernel)
theorem w_applies : (headSpec (Jvm.Cond.code x code maxLocals ret :: tables_1) room_1).applies x e0.platform about1 = true :=
  (Spec.applies_iff w_frames).mpr ⟨w_running, w_runnable, w_alone, w_named, w_hears, w_ripe, w_room, w_tables⟩
theorem atStart : AtStart classFile x code maxLocals ret World_1 tables_1 room_1 Calls_1 rest_1 Pre_1 launch0 p0 e0 about1 theMethod args0 below0 :=
  ⟨lists_1, trivial, launch0.admits_env _ _ _, launch0.least_env, fairChoices_fair.cas, fairChoices_fair.clock, w_frames, w_args, w_heap, w_applies, ⟨w_consts, trivial⟩, w_rest, w_case⟩
end start1
theorem witness_1 : WitnessClaimed_1 := ⟨start1.p0, start1.e0, start1.about1, start1.theMethod, start1.args0, start1.below0, start1.atStart⟩
end Jvm.Pilot.@@N@@
