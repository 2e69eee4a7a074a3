import Derived.Test.Qxb6600624aReach
set_option linter.unusedVariables false
set_option linter.unusedSimpArgs false
namespace Go.Proofs.Qxb6600624a
open Go.RowKit

/-- The backward lists in memory. -/
structure PM (H n : Nat) (w wr : World) (P : Nat → List Nat) (V : Nat → Value) : Prop where
  below : Below H w wr
  top : wr.rowIs H 27 n V
  rows : ∀ b, b < n → wr.ownsRow (H + 1) 3 1 (V b) (P b).length (ints (P b))
  apart : ∀ b b', b < n → b' < n → b ≠ b' → (V b).ownBlock = none ∨ (V b).ownBlock ≠ (V b').ownBlock
section
variable {H n : Nat} {w wr : World} {P : Nat → List Nat} {V : Nat → Value}
theorem PM.start (w : World) (n : Nat) : PM w.heap.size n w (w.alloc (.cells (madeCells #[.slice none 0 0] n) 27)) (fun _ => []) (fun _ => .slice none 0 0) :=
  ⟨(Below.refl _ _).alloc (Nat.le_refl _) _, World.rowIs_made w _ n 27, fun b _ => World.ownsRow_nil _ _ _ _, fun _ _ _ _ _ => .inl rfl⟩
theorem PM.push {w1 : World} {b a g cap : Nat} (h : PM H n w wr P V) (hb : b < n) (hg : wr.grownBy w1 (V b).ownBlock) (hat : (V b).ownBlock = some g ∨ wr.heap.size ≤ g)
    (hown : w1.ownsRow (H + 1) 3 1 (.slice (some ⟨g, 0, none⟩) (P b ++ [a]).length cap) (P b ++ [a]).length (ints (P b ++ [a]))) :
    PM H n w (w1.setCell ⟨H, b, none⟩ (.slice (some ⟨g, 0, none⟩) (P b ++ [a]).length cap)) (upd P b (P b ++ [a])) (upd V b (.slice (some ⟨g, 0, none⟩) (P b ++ [a]).length cap)) := by
  have hH := h.top.lt
  have hrow : ∀ k, (V b).ownBlock = some k → H + 1 ≤ k := fun k e => ((h.rows b hb).lt k e).1
  have hblk : w1.heap[H]? = wr.heap[H]? := hg.block H hH (fun e => by have := hrow H e.symm; omega)
  have hset : w1.grownBy (w1.setCell ⟨H, b, none⟩ (.slice (some ⟨g, 0, none⟩) (P b ++ [a]).length cap)) (some H) := grown_setCell _ _ _
  have hnew : ∀ v : Value, (∀ k, v.ownBlock = some k → H + 1 ≤ k) → v.ownBlock = none ∨ v.ownBlock ≠ some H := fun v hv => by
    by_cases e : v.ownBlock = some H
    · have := hv H e; omega
    · exact .inr e
  refine ⟨?_, ?_, fun b' hb' => ?_, fun b1 b2 h1 h2 hne => ?_⟩
  · exact (h.below.grown hg (by omega) (fun k e => by have := hrow k e; omega)).setCell (Nat.le_refl _) _
  · refine ((h.top.of_block hblk).set b _).congr fun i _ => ?_
    unfold upd; split <;> rfl
  · by_cases e : b' = b
    · subst e
      rw [upd_same, upd_same]
      exact hown.kept hset (hnew _ fun k e => (hown.lt k e).1)
    · rw [upd_other _ _ e, upd_other _ _ e]
      have h3 : w1.ownsRow (H + 1) 3 1 (V b') (P b').length (ints (P b')) := (h.rows b' hb').kept hg (h.apart b' b hb' hb e)
      exact h3.kept hset (hnew _ fun k e => (h3.lt k e).1)
  · by_cases e1 : b1 = b
    · subst e1
      rw [upd_same, upd_other _ _ (fun e => hne e.symm)]
      right
      show some g ≠ (V b2).ownBlock
      intro e
      rcases hat with h3 | h3
      · rcases h.apart b1 b2 h1 h2 hne with h4 | h4
        · rw [h4] at h3; cases h3
        · exact h4 (h3.trans e)
      · have := ((h.rows b2 h2).lt g e.symm).2; omega
    · rw [upd_other _ _ e1]
      by_cases e2 : b2 = b
      · subst e2
        rw [upd_same]
        by_cases e : (V b1).ownBlock = some g
        · exfalso
          rcases hat with h3 | h3
          · rcases h.apart b1 b2 h1 h2 hne with h4 | h4
            · rw [h4] at e; cases e
            · exact h4 (e.trans h3.symm)
          · have := ((h.rows b1 h1).lt g e).2; omega
        · exact .inr e
      · rw [upd_other _ _ e2]
        exact h.apart b1 b2 h1 h2 hne
theorem PM.gr (h : PM H n w wr P V) (hlt : ∀ i, i < n → ∀ x ∈ P i, x < n) (hlen : ∀ i, i < n → (P i).length ≤ 1099511627776) : Gr wr n P H 0 (fun i => ptrOf (V i)) (fun i => capOf (V i)) (fun i => ((ptrOf (V i)).getD ⟨0, 0, none⟩).block) (fun _ => 0) := by
  have hV : ∀ i, i < n → V i = .slice (ptrOf (V i)) (P i).length (capOf (V i)) := fun i hi => by
    rcases (h.rows i hi).2 with ⟨h1, h2⟩ | ⟨g, cap, cur, h1, _⟩
    · rw [h1, h2]; rfl
    · rw [h1]; rfl
  refine ⟨fun i hi => ?_, fun i hi j hj => ?_, hlt, hlen⟩
  · rw [Nat.zero_add, ← hV i hi]
    exact h.top.cell hi
  · obtain ⟨g, cap, h1, _, _⟩ := (h.rows i hi).form (by omega)
    have h2 := h.rows i hi
    rw [h1] at h2
    rw [h1]
    refine ⟨rfl, ?_⟩
    show wr.cell? ⟨g, 0 + j, none⟩ = _
    rw [Nat.zero_add, h2.cellAt j (by omega)]
    simp [ints, List.getElem?_eq_getElem hj]
end

/-- The backward lists, the first a nodes' arcs and j of the next one's taken. -/
structure Bk (adj : Nat → List Nat) (K a j : Nat) (P : Nat → List Nat) : Prop where
  iff : ∀ b y, y ∈ P b ↔ (y < a ∧ b ∈ adj y) ∨ (y = a ∧ ∃ t, t < j ∧ (adj a)[t]? = some b)
  len : ∀ b, (P b).length ≤ a * K + j
theorem Bk.start (adj : Nat → List Nat) (K : Nat) : Bk adj K 0 0 (fun _ => []) := ⟨fun b y => by simp, fun b => by simp⟩
theorem Bk.push {adj : Nat → List Nat} {K a j b : Nat} {P : Nat → List Nat} (h : Bk adj K a j P) (hb : (adj a)[j]? = some b) : Bk adj K a (j + 1) (upd P b (P b ++ [a])) := by
  refine ⟨fun b' y => ?_, fun b' => ?_⟩
  · have hst : ∀ t, t < j + 1 → ((adj a)[t]? = some b' ↔ (t < j ∧ (adj a)[t]? = some b') ∨ (t = j ∧ b' = b)) := fun t ht => by
      by_cases e : t = j
      · subst e; rw [hb]; simp; exact eq_comm
      · simp [e, show t < j by omega]
    by_cases e : b' = b
    · subst e
      rw [upd_same, List.mem_append, h.iff]
      constructor
      · rintro (h1 | h1)
        · rcases h1 with h1 | ⟨h1, t, h2, h3⟩
          · exact .inl h1
          · exact .inr ⟨h1, t, by omega, h3⟩
        · simp at h1
          exact .inr ⟨h1, j, by omega, hb⟩
      · rintro (h1 | ⟨h1, t, h2, h3⟩)
        · exact .inl (.inl h1)
        · exact .inr (by simp [h1])
    · rw [upd_other _ _ e, h.iff]
      constructor
      · rintro (h1 | ⟨h1, t, h2, h3⟩)
        · exact .inl h1
        · exact .inr ⟨h1, t, by omega, h3⟩
      · rintro (h1 | ⟨h1, t, h2, h3⟩)
        · exact .inl h1
        · rcases (hst t h2).1 h3 with ⟨h4, h5⟩ | ⟨_, h5⟩
          · exact .inr ⟨h1, t, h4, h5⟩
          · exact absurd h5 e
  · have h1 := h.len b'
    unfold upd
    split
    · rename_i e; subst e; rw [List.length_append, List.length_singleton]; omega
    · omega
theorem Bk.next {adj : Nat → List Nat} {K a : Nat} {P : Nat → List Nat} (h : Bk adj K a (adj a).length P) (hl : (adj a).length ≤ K) : Bk adj K (a + 1) 0 P := by
  refine ⟨fun b y => ?_, fun b => by have := h.len b; rw [Nat.succ_mul]; omega⟩
  rw [h.iff]
  constructor
  · rintro (⟨h1, h2⟩ | ⟨rfl, t, h2, h3⟩)
    · exact .inl ⟨by omega, h2⟩
    · exact .inl ⟨by omega, List.mem_of_getElem? h3⟩
  · rintro (⟨h1, h2⟩ | ⟨_, t, h2, _⟩)
    · by_cases e : y = a
      · subst e
        obtain ⟨t, ht, he⟩ := List.getElem_of_mem h2
        exact .inr ⟨rfl, t, ht, by rw [List.getElem?_eq_getElem ht, he]⟩
      · exact .inl ⟨by omega, h2⟩
    · omega
theorem Bk.mem {adj : Nat → List Nat} {K n : Nat} {P : Nat → List Nat} (h : Bk adj K n 0 P) (b y : Nat) : y ∈ P b ↔ y < n ∧ b ∈ adj y := by
  rw [h.iff]
  constructor
  · rintro (h1 | ⟨_, t, h2, _⟩)
    · exact h1
    · omega
  · exact .inl
theorem Bk.reach {adj : Nat → List Nat} {K n : Nat} {P : Nat → List Nat} (h : Bk adj K n 0 P) (hadj : ∀ v, v < n → ∀ x ∈ adj v, x < n) {x y : Nat} (hy : y < n) : Reach P x y ↔ Reach adj y x := by
  constructor
  · rintro ⟨k, hk⟩
    induction k generalizing x with
    | zero => cases hk; exact .refl _
    | succ k ih =>
      obtain ⟨z, hz, hk⟩ := hk
      exact (ih hk).trans (.arc ((h.mem x z).1 hz).2)
  · rintro ⟨k, hk⟩
    induction k generalizing y with
    | zero => cases hk; exact .refl _
    | succ k ih =>
      obtain ⟨z, hz, hk⟩ := hk
      exact (ih (hadj y hy z hz) hk).trans (.arc ((h.mem z y).2 ⟨hy, hz⟩))
end Go.Proofs.Qxb6600624a
