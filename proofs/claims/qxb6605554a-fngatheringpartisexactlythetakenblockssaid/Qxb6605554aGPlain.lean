import Derived.WalkKit
set_option linter.unusedVariables false
set_option linter.unusedSimpArgs false
namespace Go.Proofs.Qxb6605554a
/-- Bit b of the words z. -/
def Bit (z : Nat → Int) (b : Nat) : Prop := z (b / 64) / 2 ^ (b % 64) % 2 = 1

theorem and64_one (x : Int) (h0 : 0 ≤ x) (h1 : x < 18446744073709551616) : bits .and .u64 x 1 = x % 2 := by
  obtain ⟨n, rfl⟩ := Int.eq_ofNat_of_zero_le h0
  have := u64_and_nat n 1 (by omega) (by omega)
  have h2 : bits .and .u64 (n : Int) 1 = ((n &&& 1 : Nat) : Int) := this
  rw [h2, nat_mask1]
  omega
theorem pow_lt64 (t : Nat) (ht : t < 64) : 0 < (2 : Int) ^ t ∧ (2 : Int) ^ t < 18446744073709551616 := by
  have h1 : (2 : Nat) ^ t < 2 ^ 64 := Nat.pow_lt_pow_right (by omega) ht
  have h2 : 0 < (2 : Nat) ^ t := Nat.pow_pos (by omega)
  have e : (2 : Int) ^ t = ((2 ^ t : Nat) : Int) := by push_cast; rfl
  rw [e]
  omega
theorem div_bd (x : Int) (t : Nat) (h0 : 0 ≤ x) (h1 : x < 18446744073709551616) : 0 ≤ x / 2 ^ t ∧ x / 2 ^ t < 18446744073709551616 := by
  obtain ⟨n, rfl⟩ := Int.eq_ofNat_of_zero_le h0
  have e : (2 : Int) ^ t = ((2 ^ t : Nat) : Int) := by push_cast; rfl
  rw [e, ← Int.natCast_ediv]
  have h := Nat.div_le_self n (2 ^ t)
  generalize n / 2 ^ t = m at h
  omega
theorem and64_shr (x : Int) (t : Nat) (h0 : 0 ≤ x) (h1 : x < 18446744073709551616) : bits .and .u64 (x / 2 ^ t) 1 = x / 2 ^ t % 2 :=
  and64_one _ (div_bd x t h0 h1).1 (div_bd x t h0 h1).2
theorem and64_bit (x : Int) (t : Nat) (ht : t < 64) (h0 : 0 ≤ x) (h1 : x < 18446744073709551616) : bits .and .u64 x (IntKind.u64.wrap (2 ^ t)) = x / 2 ^ t % 2 * 2 ^ t := by
  obtain ⟨n, rfl⟩ := Int.eq_ofNat_of_zero_le h0
  have hp := pow_lt64 t ht
  have e : (2 : Int) ^ t = ((2 ^ t : Nat) : Int) := by push_cast; rfl
  have hw : IntKind.u64.wrap ((2 : Int) ^ t) = 2 ^ t := by
    simp [IntKind.wrap, IntKind.bits, IntKind.signed]
    omega
  rw [hw, e, u64_and_nat n (2 ^ t) (by omega) (by omega), nat_bit]
  push_cast
  rfl
theorem and64_bit_zero (x : Int) (t : Nat) (ht : t < 64) (h0 : 0 ≤ x) (h1 : x < 18446744073709551616) : bits .and .u64 x (IntKind.u64.wrap (2 ^ t)) = 0 ↔ ¬ x / 2 ^ t % 2 = 1 := by
  rw [and64_bit x t ht h0 h1]
  have hp := pow_lt64 t ht
  constructor
  · intro h h'
    rw [h'] at h
    omega
  · intro h
    have : x / 2 ^ t % 2 = 0 := by omega
    rw [this]; omega
theorem bit_zero {z : Nat → Int} {b : Nat} (h : z (b / 64) = 0) : ¬ Bit z b := by
  unfold Bit
  rw [h]
  simp

/-- A piece: start, end, at. -/
abbrev Pc := Int × Int × Int
def st (P : List Pc) (i : Nat) : Int := (P.getD i (0, 0, 0)).1
def en (P : List Pc) (i : Nat) : Int := (P.getD i (0, 0, 0)).2.1
def aa (P : List Pc) (i : Nat) : Int := (P.getD i (0, 0, 0)).2.2
def sumLen (P : List Pc) : Nat → Int
  | 0 => 0
  | k + 1 => sumLen P k + (en P k - st P k)
theorem sum_congr {P Q : List Pc} : ∀ k, (∀ i, i < k → st P i = st Q i ∧ en P i = en Q i) → sumLen P k = sumLen Q k
  | 0, _ => rfl
  | k + 1, h => by
    simp only [sumLen]
    rw [sum_congr k (fun i hi => h i (by omega)), (h k (by omega)).1, (h k (by omega)).2]

/-- What holds of the pieces when the bits below B have been taken. -/
structure Inv (z : Nat → Int) (W : Int) (B : Nat) (P : List Pc) (held : Int) : Prop where
  each : ∀ i, i < P.length → 0 ≤ st P i ∧ st P i < en P i ∧ en P i ≤ W ∧ st P i % 64 = 0 ∧ (en P i % 64 = 0 ∨ en P i = W) ∧ en P i ≤ 64 * B
  apart : ∀ i, i + 1 < P.length → en P i < st P (i + 1)
  ats : ∀ i, i < P.length → aa P i = sumLen P i
  heldEq : held = sumLen P P.length
  cover : ∀ c, c < B → (Bit z c ↔ ∃ i, i < P.length ∧ st P i ≤ 64 * c ∧ 64 * (c : Int) < en P i)
  word : B % 64 ≠ 0 → z (B / 64) ≠ 0
  pos : 0 ≤ held
  le : held ≤ 64 * B

theorem inv_start (z : Nat → Int) (W : Int) : Inv z W 0 [] 0 :=
  ⟨fun i hi => absurd hi (Nat.not_lt_zero _), fun i hi => absurd hi (Nat.not_lt_zero _), fun i hi => absurd hi (Nat.not_lt_zero _), rfl, fun c hc => absurd hc (Nat.not_lt_zero _), fun h => absurd rfl h, by omega, by omega⟩

theorem inv_zero {z : Nat → Int} {W : Int} {B : Nat} {P : List Pc} {held : Int} (h : Inv z W B P held) (hz : z (B / 64) = 0) : B % 64 = 0 ∧ Inv z W (B + 64) P held := by
  have hB : B % 64 = 0 := Decidable.byContradiction fun hne => h.word hne hz
  refine ⟨hB, fun i hi => ?_, h.apart, h.ats, h.heldEq, fun c hc => ?_, fun hne => absurd hB (by omega), h.pos, by have := h.le; omega⟩
  · have := h.each i hi
    omega
  · by_cases hlt : c < B
    · exact h.cover c hlt
    · constructor
      · intro hb
        exact absurd hb (bit_zero (by rw [show c / 64 = B / 64 by omega]; exact hz))
      · rintro ⟨i, hi, h1, h2⟩
        have := h.each i hi
        omega
theorem inv_skip {z : Nat → Int} {W : Int} {B : Nat} {P : List Pc} {held : Int} (h : Inv z W B P held) (hz : ¬ z (B / 64) = 0) (hb : ¬ Bit z B) : Inv z W (B + 1) P held := by
  refine ⟨fun i hi => ?_, h.apart, h.ats, h.heldEq, fun c hc => ?_, fun hne => by rw [show (B + 1) / 64 = B / 64 by omega]; exact hz, h.pos, by have := h.le; omega⟩
  · have := h.each i hi
    omega
  · by_cases hlt : c < B
    · exact h.cover c hlt
    · obtain rfl : c = B := by omega
      constructor
      · intro h'; exact absurd h' hb
      · rintro ⟨i, hi, h1, h2⟩
        have := h.each i hi
        omega
theorem st_left (P : List Pc) (x : Pc) (i : Nat) (h : i < P.length) : st (P ++ [x]) i = st P i := by simp [st, List.getD, List.getElem?_append_left h]
theorem en_left (P : List Pc) (x : Pc) (i : Nat) (h : i < P.length) : en (P ++ [x]) i = en P i := by simp [en, List.getD, List.getElem?_append_left h]
theorem aa_left (P : List Pc) (x : Pc) (i : Nat) (h : i < P.length) : aa (P ++ [x]) i = aa P i := by simp [aa, List.getD, List.getElem?_append_left h]
theorem st_last (P : List Pc) (x : Pc) : st (P ++ [x]) P.length = x.1 := by simp [st, List.getD]
theorem en_last (P : List Pc) (x : Pc) : en (P ++ [x]) P.length = x.2.1 := by simp [en, List.getD]
theorem aa_last (P : List Pc) (x : Pc) : aa (P ++ [x]) P.length = x.2.2 := by simp [aa, List.getD]
theorem sum_left (P : List Pc) (x : Pc) (k : Nat) (h : k ≤ P.length) : sumLen (P ++ [x]) k = sumLen P k :=
  sum_congr k fun i hi => ⟨st_left P x i (by omega), en_left P x i (by omega)⟩

theorem inv_push {z : Nat → Int} {W : Int} {B : Nat} {P : List Pc} {held E : Int} (h : Inv z W B P held) (hz : ¬ z (B / 64) = 0) (hb : Bit z B) (hw : 64 * (B : Int) < W) (hE : E = min (64 * (B : Int) + 64) W)
    (hlast : ∀ i, i + 1 = P.length → en P i ≠ 64 * B) : Inv z W (B + 1) (P ++ [(64 * (B : Int), E, held)]) (held + (E - 64 * B)) := by
  have hl : (P ++ [(64 * (B : Int), E, held)]).length = P.length + 1 := by simp
  refine ⟨fun i hi => ?_, fun i hi => ?_, fun i hi => ?_, ?_, fun c hc => ?_, fun hne => by rw [show (B + 1) / 64 = B / 64 by omega]; exact hz, by have := h.pos; omega, by have := h.le; omega⟩
  · rw [hl] at hi
    by_cases e : i < P.length
    · rw [st_left _ _ _ e, en_left _ _ _ e]
      have := h.each i e
      omega
    · obtain rfl : i = P.length := by omega
      rw [st_last, en_last]
      show 0 ≤ 64 * (B : Int) ∧ 64 * (B : Int) < E ∧ E ≤ W ∧ 64 * (B : Int) % 64 = 0 ∧ (E % 64 = 0 ∨ E = W) ∧ E ≤ 64 * ((B + 1 : Nat) : Int)
      omega
  · rw [hl] at hi
    by_cases e : i + 1 < P.length
    · rw [en_left _ _ _ (by omega), st_left _ _ _ e]
      exact h.apart i e
    · have e2 : i + 1 = P.length := by omega
      rw [en_left _ _ _ (by omega), e2, st_last]
      have h1 := h.each i (by omega)
      have h2 := hlast i e2
      show en P i < 64 * (B : Int)
      omega
  · rw [hl] at hi
    by_cases e : i < P.length
    · rw [aa_left _ _ _ e, sum_left _ _ _ (by omega)]
      exact h.ats i e
    · obtain rfl : i = P.length := by omega
      rw [aa_last, sum_left _ _ _ (Nat.le_refl _)]
      exact h.heldEq
  · rw [hl]
    simp only [sumLen]
    rw [sum_left _ _ _ (Nat.le_refl _), st_last, en_last, ← h.heldEq]
  · rw [hl]
    by_cases hlt : c < B
    · rw [h.cover c hlt]
      constructor
      · rintro ⟨i, hi, h1, h2⟩
        exact ⟨i, by omega, by rw [st_left _ _ _ hi]; exact h1, by rw [en_left _ _ _ hi]; exact h2⟩
      · rintro ⟨i, hi, h1, h2⟩
        by_cases e : i < P.length
        · rw [st_left _ _ _ e] at h1
          rw [en_left _ _ _ e] at h2
          exact ⟨i, e, h1, h2⟩
        · obtain rfl : i = P.length := by omega
          rw [st_last] at h1
          have h1' : 64 * (B : Int) ≤ 64 * c := h1
          omega
    · obtain rfl : c = B := by omega
      refine ⟨fun _ => ⟨P.length, by omega, ?_, ?_⟩, fun _ => hb⟩
      · rw [st_last]; exact Int.le_refl _
      · rw [en_last]; show 64 * (c : Int) < E; omega

theorem inv_merge {z : Nat → Int} {W : Int} {B : Nat} {Q : List Pc} {s a held E : Int} (h : Inv z W B (Q ++ [(s, 64 * (B : Int), a)]) held) (hz : ¬ z (B / 64) = 0) (hb : Bit z B) (hw : 64 * (B : Int) < W) (hE : E = min (64 * (B : Int) + 64) W) :
    Inv z W (B + 1) (Q ++ [(s, E, a)]) (held + (E - 64 * B)) := by
  have hl : ∀ x : Pc, (Q ++ [x]).length = Q.length + 1 := fun x => by simp
  have hq := h.each Q.length (by rw [hl]; omega)
  rw [st_last, en_last] at hq
  have hq1 : 0 ≤ s ∧ s < 64 * (B : Int) := ⟨hq.1, hq.2.1⟩
  have hq2 : s % 64 = 0 := hq.2.2.2.1
  refine ⟨fun i hi => ?_, fun i hi => ?_, fun i hi => ?_, ?_, fun c hc => ?_, fun hne => by rw [show (B + 1) / 64 = B / 64 by omega]; exact hz, by have := h.pos; omega, by have := h.le; omega⟩
  · rw [hl] at hi
    by_cases e : i < Q.length
    · have := h.each i (by rw [hl]; omega)
      rw [st_left _ _ _ e, en_left _ _ _ e] at this
      rw [st_left _ _ _ e, en_left _ _ _ e]
      omega
    · obtain rfl : i = Q.length := by omega
      rw [st_last, en_last]
      show 0 ≤ s ∧ s < E ∧ E ≤ W ∧ s % 64 = 0 ∧ (E % 64 = 0 ∨ E = W) ∧ E ≤ 64 * ((B + 1 : Nat) : Int)
      omega
  · rw [hl] at hi
    have := h.apart i (by rw [hl]; omega)
    rw [en_left _ _ _ (by omega)] at this
    rw [en_left _ _ _ (by omega)]
    by_cases e : i + 1 < Q.length
    · rw [st_left _ _ _ e] at this
      rw [st_left _ _ _ e]
      exact this
    · have e2 : i + 1 = Q.length := by omega
      rw [e2, st_last] at this
      rw [e2, st_last]
      exact this
  · rw [hl] at hi
    have := h.ats i (by rw [hl]; omega)
    rw [sum_left _ _ _ (by omega)] at this
    rw [sum_left _ _ _ (by omega)]
    by_cases e : i < Q.length
    · rw [aa_left _ _ _ e] at this
      rw [aa_left _ _ _ e]
      exact this
    · obtain rfl : i = Q.length := by omega
      rw [aa_last] at this
      rw [aa_last]
      exact this
  · have := h.heldEq
    rw [hl] at this
    simp only [sumLen] at this
    rw [sum_left _ _ _ (Nat.le_refl _), st_last, en_last] at this
    rw [hl]
    simp only [sumLen]
    rw [sum_left _ _ _ (Nat.le_refl _), st_last, en_last, this]
    show _ + (64 * (B : Int) - s) + (E - 64 * B) = _ + (E - s)
    omega
  · rw [hl]
    by_cases hlt : c < B
    · rw [h.cover c hlt, hl]
      constructor
      · rintro ⟨i, hi, h1, h2⟩
        by_cases e : i < Q.length
        · rw [st_left _ _ _ e] at h1
          rw [en_left _ _ _ e] at h2
          exact ⟨i, hi, by rw [st_left _ _ _ e]; exact h1, by rw [en_left _ _ _ e]; exact h2⟩
        · obtain rfl : i = Q.length := by omega
          rw [st_last] at h1
          refine ⟨Q.length, hi, by rw [st_last]; exact h1, ?_⟩
          rw [en_last]; show 64 * (c : Int) < E; omega
      · rintro ⟨i, hi, h1, h2⟩
        by_cases e : i < Q.length
        · rw [st_left _ _ _ e] at h1
          rw [en_left _ _ _ e] at h2
          exact ⟨i, hi, by rw [st_left _ _ _ e]; exact h1, by rw [en_left _ _ _ e]; exact h2⟩
        · obtain rfl : i = Q.length := by omega
          rw [st_last] at h1
          refine ⟨Q.length, hi, by rw [st_last]; exact h1, ?_⟩
          rw [en_last]; show 64 * (c : Int) < 64 * (B : Int); omega
    · obtain rfl : c = B := by omega
      refine ⟨fun _ => ⟨Q.length, by omega, ?_, ?_⟩, fun _ => hb⟩
      · rw [st_last]; show s ≤ 64 * (c : Int); omega
      · rw [en_last]; show 64 * (c : Int) < E; omega

theorem sum_mono {z : Nat → Int} {W : Int} {B : Nat} {P : List Pc} {held : Int} (h : Inv z W B P held) : ∀ d k, k + d = P.length → 0 ≤ sumLen P k ∧ sumLen P k ≤ held
  | 0, k, e => by
    obtain rfl : k = P.length := by omega
    rw [← h.heldEq]; exact ⟨h.pos, Int.le_refl _⟩
  | d + 1, k, e => by
    have ih := sum_mono h d (k + 1) (by omega)
    have hk := h.each k (by omega)
    simp only [sumLen] at ih
    refine ⟨?_, by omega⟩
    have hp : ∀ j, j ≤ P.length → 0 ≤ sumLen P j := by
      intro j
      induction j with
      | zero => intro _; exact Int.le_refl _
      | succ j ihj =>
        intro hj
        have := ihj (by omega)
        have := h.each j (by omega)
        simp only [sumLen]; omega
    exact hp k (by omega)
theorem en_st {z : Nat → Int} {W : Int} {B : Nat} {P : List Pc} {held : Int} (h : Inv z W B P held) (k : Nat) : ∀ d, k + d + 1 < P.length → en P k < st P (k + d + 1)
  | 0, hd => h.apart k hd
  | d + 1, hd => by
    have ih := en_st h k d (by omega)
    have h1 := h.each (k + d + 1) (by omega)
    have h2 := h.apart (k + d + 1) (by omega)
    have e : k + (d + 1) + 1 = k + d + 1 + 1 := by omega
    rw [e]
    omega
/-- With k the first piece that ends behind 64 b: b is covered just where piece k begins at or ahead of it. -/
theorem cover_at {z : Nat → Int} {W : Int} {B : Nat} {P : List Pc} {held : Int} (h : Inv z W B P held) {k b : Nat} (hb : b < B) (hk : ∀ i, i < k → i < P.length → en P i ≤ 64 * b) (hk2 : k < P.length → 64 * (b : Int) < en P k) :
    (k < P.length ∧ st P k ≤ 64 * b) ↔ Bit z b := by
  rw [h.cover b hb]
  constructor
  · rintro ⟨h1, h2⟩
    exact ⟨k, h1, h2, hk2 h1⟩
  · rintro ⟨i, hi, h1, h2⟩
    have hik : ¬ i < k := fun hlt => by have := hk i hlt hi; omega
    by_cases e : i = k
    · subst e; exact ⟨hi, h1⟩
    · have hkl : k < P.length := by omega
      have h3 := en_st h k (i - k - 1) (by omega)
      rw [show k + (i - k - 1) + 1 = i by omega] at h3
      have := hk2 hkl
      omega
theorem st_ge {z : Nat → Int} {W : Int} {B : Nat} {P : List Pc} {held : Int} (h : Inv z W B P held) : ∀ i, i < P.length → (i : Int) ≤ st P i
  | 0, hi => (h.each 0 hi).1
  | i + 1, hi => by
    have ih := st_ge h i (by omega)
    have h1 := h.each i (by omega)
    have h2 := h.apart i hi
    omega
theorem inv_count {z : Nat → Int} {W : Int} {B : Nat} {P : List Pc} {held : Int} (h : Inv z W B P held) : P.length ≤ 64 * B := by
  by_cases e : P.length = 0
  · omega
  · have h1 := st_ge h (P.length - 1) (by omega)
    have h2 := h.each (P.length - 1) (by omega)
    omega
end Go.Proofs.Qxb6605554a
