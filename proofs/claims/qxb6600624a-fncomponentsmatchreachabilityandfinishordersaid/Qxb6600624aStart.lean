import Derived.Test.Qxb6600624aVisit
import Derived.Test.Qxb6600624aTSteps
set_option linter.unusedVariables false
set_option linter.unusedSimpArgs false
namespace Go.Proofs.Qxb6600624a
open Go.RowKit

/-- A graph in memory: its rows' lists. -/
structure Succ (w : World) (n : Nat) (adj : Nat → List Nat) (sb so : Nat) (A : Nat → Option Addr) (C RB RO : Nat → Nat) : Prop where
  row : ∀ i, i < n → w.cell? ⟨sb, so + i, none⟩ = some (.slice (A i) (adj i).length (C i))
  cell : ∀ i, i < n → ∀ j, j < (adj i).length → A i = some ⟨RB i, RO i, none⟩ ∧ w.cell? ⟨RB i, RO i + j, none⟩ = some (.int .i64 (((adj i).getD j 0 : Nat) : Int))
  lt : ∀ i, i < n → ∀ x ∈ adj i, x < n
  len : ∀ i, i < n → (adj i).length ≤ 131072

theorem Succ.later {w w' : World} {n : Nat} {adj : Nat → List Nat} {sb so : Nat} {A : Nat → Option Addr} {C RB RO : Nat → Nat} (h : Succ w n adj sb so A C RB RO) (hb : Below w.heap.size w w') : Succ w' n adj sb so A C RB RO := by
  refine ⟨fun i hi => ?_, fun i hi j hj => ⟨(h.cell i hi j hj).1, ?_⟩, h.lt, h.len⟩
  · have h1 := h.row i hi
    rw [hb.cell (World.block_lt_of_cell? _ _ h1)]; exact h1
  · have h1 := (h.cell i hi j hj).2
    rw [hb.cell (World.block_lt_of_cell? _ _ h1)]; exact h1

/-- The ten blocks that the search lays first. -/
def laid0 (n H : Nat) (w : World) : World :=
  (((((((((w.alloc (.cells (madeCells #[.int .i64 0] n) 3)).alloc (.cells (madeCells #[.int .i64 0] n) 3)).alloc (.cells #[.slice (some ⟨H + 1, 0, none⟩) n n] 27)).alloc (.cells (madeCells #[.int .i64 0] n) 3)).alloc
    (.cells #[.slice (some ⟨H + 3, 0, none⟩) n n] 27)).alloc (.cells (madeCells #[.bool false] n) 4)).alloc (.cells #[.slice (some ⟨H + 5, 0, none⟩) n n] 29)).alloc (.cells #[.slice none 0 0] 27)).alloc (.cells #[.slice none 0 0] 60)).alloc (.cells #[.int .i64 0] 3)
theorem made_at {w : World} {B n t : Nat} {z : Value} (h : w.heap[B]? = some (.cells (madeCells #[z] n) t)) : w.rowIs B t n (fun _ => z) :=
  ⟨_, h, size_madeCells _ _, fun i hi => by simp [madeCells, hi, Nat.mod_one]⟩
theorem alloc_at (W : World) (o : Obj) (k : Nat) (h : k = W.heap.size) : (W.alloc o).heap[k]? = some o := by subst h; exact Go.Deep.blk_alloc_new W o
theorem tw_start (n H : Nat) (w : World) (hH : H = w.heap.size) : TW H n w (laid0 n H w) T0.tm (.slice none 0 0) (.slice none 0 0) := by
  subst hH
  refine ⟨?_, (made_at (z := .int .i64 0) ?_).congr fun _ _ => rfl, (made_at (z := .int .i64 0) ?_).congr fun _ _ => rfl, ?_, (made_at (z := .int .i64 0) ?_).congr fun _ _ => rfl, ?_, (made_at (z := .bool false) ?_).congr fun _ _ => rfl, ?_, ?_, ?_, ?_,
    World.ownsRow_nil _ _ _ _, World.ownsRow_nil _ _ _ _⟩
  · exact ((((((((((Below.refl _ _).alloc (by simp only [World.size_alloc, Nat.le_refl] <;> omega) _).alloc (by simp only [World.size_alloc, Nat.le_refl] <;> omega) _).alloc (by simp only [World.size_alloc, Nat.le_refl] <;> omega) _).alloc (by simp only [World.size_alloc, Nat.le_refl] <;> omega) _).alloc (by simp only [World.size_alloc, Nat.le_refl] <;> omega) _).alloc (by simp only [World.size_alloc, Nat.le_refl] <;> omega) _).alloc (by simp only [World.size_alloc, Nat.le_refl] <;> omega) _).alloc (by simp only [World.size_alloc, Nat.le_refl] <;> omega) _).alloc (by simp only [World.size_alloc, Nat.le_refl] <;> omega) _).alloc (by simp only [World.size_alloc, Nat.le_refl] <;> omega) _
  · unfold laid0
    rw [Go.Deep.blk_alloc_lt _ _ _ (by simp only [World.size_alloc]; omega), Go.Deep.blk_alloc_lt _ _ _ (by simp only [World.size_alloc]; omega), Go.Deep.blk_alloc_lt _ _ _ (by simp only [World.size_alloc]; omega), Go.Deep.blk_alloc_lt _ _ _ (by simp only [World.size_alloc]; omega), Go.Deep.blk_alloc_lt _ _ _ (by simp only [World.size_alloc]; omega), Go.Deep.blk_alloc_lt _ _ _ (by simp only [World.size_alloc]; omega), Go.Deep.blk_alloc_lt _ _ _ (by simp only [World.size_alloc]; omega), Go.Deep.blk_alloc_lt _ _ _ (by simp only [World.size_alloc]; omega), Go.Deep.blk_alloc_lt _ _ _ (by simp only [World.size_alloc]; omega)]
    exact alloc_at _ _ _ rfl
  · unfold laid0
    rw [Go.Deep.blk_alloc_lt _ _ _ (by simp only [World.size_alloc]; omega), Go.Deep.blk_alloc_lt _ _ _ (by simp only [World.size_alloc]; omega), Go.Deep.blk_alloc_lt _ _ _ (by simp only [World.size_alloc]; omega), Go.Deep.blk_alloc_lt _ _ _ (by simp only [World.size_alloc]; omega), Go.Deep.blk_alloc_lt _ _ _ (by simp only [World.size_alloc]; omega), Go.Deep.blk_alloc_lt _ _ _ (by simp only [World.size_alloc]; omega), Go.Deep.blk_alloc_lt _ _ _ (by simp only [World.size_alloc]; omega), Go.Deep.blk_alloc_lt _ _ _ (by simp only [World.size_alloc]; omega)]
    exact alloc_at _ _ _ (by simp only [World.size_alloc])
  · unfold laid0
    rw [Go.Deep.blk_alloc_lt _ _ _ (by simp only [World.size_alloc]; omega), Go.Deep.blk_alloc_lt _ _ _ (by simp only [World.size_alloc]; omega), Go.Deep.blk_alloc_lt _ _ _ (by simp only [World.size_alloc]; omega), Go.Deep.blk_alloc_lt _ _ _ (by simp only [World.size_alloc]; omega), Go.Deep.blk_alloc_lt _ _ _ (by simp only [World.size_alloc]; omega), Go.Deep.blk_alloc_lt _ _ _ (by simp only [World.size_alloc]; omega), Go.Deep.blk_alloc_lt _ _ _ (by simp only [World.size_alloc]; omega)]
    exact alloc_at _ _ _ (by simp only [World.size_alloc])
  · unfold laid0
    rw [Go.Deep.blk_alloc_lt _ _ _ (by simp only [World.size_alloc]; omega), Go.Deep.blk_alloc_lt _ _ _ (by simp only [World.size_alloc]; omega), Go.Deep.blk_alloc_lt _ _ _ (by simp only [World.size_alloc]; omega), Go.Deep.blk_alloc_lt _ _ _ (by simp only [World.size_alloc]; omega), Go.Deep.blk_alloc_lt _ _ _ (by simp only [World.size_alloc]; omega), Go.Deep.blk_alloc_lt _ _ _ (by simp only [World.size_alloc]; omega)]
    exact alloc_at _ _ _ (by simp only [World.size_alloc])
  · unfold laid0
    rw [Go.Deep.blk_alloc_lt _ _ _ (by simp only [World.size_alloc]; omega), Go.Deep.blk_alloc_lt _ _ _ (by simp only [World.size_alloc]; omega), Go.Deep.blk_alloc_lt _ _ _ (by simp only [World.size_alloc]; omega), Go.Deep.blk_alloc_lt _ _ _ (by simp only [World.size_alloc]; omega), Go.Deep.blk_alloc_lt _ _ _ (by simp only [World.size_alloc]; omega)]
    exact alloc_at _ _ _ (by simp only [World.size_alloc])
  · unfold laid0
    rw [Go.Deep.blk_alloc_lt _ _ _ (by simp only [World.size_alloc]; omega), Go.Deep.blk_alloc_lt _ _ _ (by simp only [World.size_alloc]; omega), Go.Deep.blk_alloc_lt _ _ _ (by simp only [World.size_alloc]; omega), Go.Deep.blk_alloc_lt _ _ _ (by simp only [World.size_alloc]; omega)]
    exact alloc_at _ _ _ (by simp only [World.size_alloc])
  · unfold laid0
    rw [Go.Deep.blk_alloc_lt _ _ _ (by simp only [World.size_alloc]; omega), Go.Deep.blk_alloc_lt _ _ _ (by simp only [World.size_alloc]; omega), Go.Deep.blk_alloc_lt _ _ _ (by simp only [World.size_alloc]; omega)]
    exact alloc_at _ _ _ (by simp only [World.size_alloc])
  · unfold laid0
    rw [Go.Deep.blk_alloc_lt _ _ _ (by simp only [World.size_alloc]; omega), Go.Deep.blk_alloc_lt _ _ _ (by simp only [World.size_alloc]; omega)]
    exact alloc_at _ _ _ (by simp only [World.size_alloc])
  · unfold laid0
    rw [Go.Deep.blk_alloc_lt _ _ _ (by simp only [World.size_alloc]; omega)]
    exact alloc_at _ _ _ (by simp only [World.size_alloc])
  · exact alloc_at _ _ _ (by simp only [World.size_alloc])

end Go.Proofs.Qxb6600624a
