import Derived.Test.Qxb6600624aIsRows
import Derived.Test.Qxb6600624aTPlain
import Derived.WalkKit
import Derived.WalkSpells
import Derived.WalkSmall
import Derived.Deep.LoopGhost
import Derived.Deep.OwnRows
import Derived.Deep.Light
import Derived.Deep.AppendLies
import Derived.Deep.DeepCutAuto
set_option linter.unusedVariables false
set_option linter.unusedSimpArgs false
namespace Go.Proofs.Qxb6600624a
open Go.RowKit

def flat2 : List (Nat × Nat) → List Value
  | [] => []
  | x :: t => .int .i64 (x.1 : Int) :: .int .i64 (x.2 : Int) :: flat2 t
theorem flat2_len : ∀ P : List (Nat × Nat), (flat2 P).length = P.length * 2
  | [] => rfl
  | x :: t => by simp [flat2, flat2_len t]; omega
theorem flat2_append : ∀ P Q : List (Nat × Nat), flat2 (P ++ Q) = flat2 P ++ flat2 Q
  | [], _ => rfl
  | x :: t, Q => by simp [flat2, flat2_append t Q]
def ints (l : List Nat) : List Value := l.map fun x : Nat => .int .i64 (x : Int)
theorem ints_append (a b : List Nat) : ints (a ++ b) = ints a ++ ints b := by simp [ints]
theorem ints_len (a : List Nat) : (ints a).length = a.length := by simp [ints]

theorem grown_setCell (w : World) (a : Addr) (v : Value) : w.grownBy (w.setCell a v) (some a.block) :=
  ⟨rfl, rfl, rfl, by simp [World.setCell], fun k _ hk => Below.heap_setCell _ _ _ _ (fun e => hk (by rw [e]))⟩

/-- What the memory of the search holds. -/
structure TM where
  idx : Nat → Nat
  low : Nat → Nat
  comp : Nat → Nat
  ons : Nat → Bool
  vis : Nat
  stk : List Nat
  frs : List (Nat × Nat)
def TS.tm (T : TS) : TM := ⟨T.idx, T.low, T.comp, T.ons, T.vis, T.stk, T.frs⟩

structure TW (H n : Nat) (w0 wr : World) (M : TM) (sv fv : Value) : Prop where
  below : Below H w0 wr
  comp : wr.rowIs H 3 n (fun i => .int .i64 (M.comp i : Int))
  idx : wr.rowIs (H + 1) 3 n (fun i => .int .i64 (M.idx i : Int))
  bidx : wr.heap[H + 2]? = some (.cells #[.slice (some ⟨H + 1, 0, none⟩) n n] 27 (0, 0))
  low : wr.rowIs (H + 3) 3 n (fun i => .int .i64 (M.low i : Int))
  blow : wr.heap[H + 4]? = some (.cells #[.slice (some ⟨H + 3, 0, none⟩) n n] 27 (0, 0))
  ons : wr.rowIs (H + 5) 4 n (fun i => .bool (M.ons i))
  bons : wr.heap[H + 6]? = some (.cells #[.slice (some ⟨H + 5, 0, none⟩) n n] 29 (0, 0))
  bstk : wr.heap[H + 7]? = some (.cells #[sv] 27 (0, 0))
  bfrs : wr.heap[H + 8]? = some (.cells #[fv] 60 (0, 0))
  bvis : wr.heap[H + 9]? = some (.cells #[.int .i64 (M.vis : Int)] 3 (0, 0))
  stk : wr.ownsRow (H + 10) 3 1 sv M.stk.length (ints M.stk)
  frs : wr.ownsRow (H + 10) 62 2 fv M.frs.length (flat2 M.frs)

theorem upd_int (f : Nat → Nat) (v x i : Nat) : (if i = v then Value.int .i64 (x : Int) else .int .i64 (f i : Int)) = .int .i64 ((upd f v x i : Nat) : Int) := by
  unfold upd; split <;> rfl
theorem upd_bool (f : Nat → Bool) (v : Nat) (x : Bool) (i : Nat) : (if i = v then Value.bool x else .bool (f i)) = .bool (upd f v x i) := by
  unfold upd; split <;> rfl

section
variable {H n : Nat} {w0 wr w1 : World} {M : TM} {sv fv sv' fv' : Value}

theorem TW.size (h : TW H n w0 wr M sv fv) : H + 10 ≤ wr.heap.size := lt_of_block h.bvis
theorem TW.drew (h : TW H n w0 wr M sv fv) : TW H n w0 wr.drew M sv fv :=
  ⟨h.below.drew, h.comp, h.idx, h.bidx, h.low, h.blow, h.ons, h.bons, h.bstk, h.bfrs, h.bvis, h.stk, h.frs⟩
theorem TW.drewN (h : TW H n w0 wr M sv fv) (q : Nat) : TW H n w0 (wr.drewN q) M sv fv :=
  ⟨below_drewN h.below q, h.comp, h.idx, h.bidx, h.low, h.blow, h.ons, h.bons, h.bstk, h.bfrs, h.bvis, h.stk, h.frs⟩
theorem TW.stkBlock (h : TW H n w0 wr M sv fv) {g : Nat} (hg : sv.ownBlock = some g) : H + 10 ≤ g ∧ ∃ c, wr.heap[g]? = some (.cells c 3 (0, 0)) := by
  rcases h.stk.2 with ⟨rfl, _⟩ | ⟨g', cap, cur, rfl, hb, hh, _⟩
  · cases hg
  · cases hg; exact ⟨hb, cur, hh⟩
theorem TW.frsBlock (h : TW H n w0 wr M sv fv) {g : Nat} (hg : fv.ownBlock = some g) : H + 10 ≤ g ∧ ∃ c, wr.heap[g]? = some (.cells c 62 (0, 0)) := by
  rcases h.frs.2 with ⟨rfl, _⟩ | ⟨g', cap, cur, rfl, hb, hh, _⟩
  · cases hg
  · cases hg; exact ⟨hb, cur, hh⟩
/-- The stack's row and the frames' row are two. -/
theorem TW.apart (h : TW H n w0 wr M sv fv) : fv.ownBlock = none ∨ fv.ownBlock ≠ sv.ownBlock := by
  cases e : fv.ownBlock with
  | none => exact .inl rfl
  | some g =>
    refine .inr fun e2 => ?_
    obtain ⟨_, c, hc⟩ := h.frsBlock e
    obtain ⟨_, c', hc'⟩ := h.stkBlock e2.symm
    rw [hc] at hc'
    simp at hc'
theorem TW.apart' (h : TW H n w0 wr M sv fv) : sv.ownBlock = none ∨ sv.ownBlock ≠ fv.ownBlock := by
  rcases h.apart with h1 | h1
  · cases e : sv.ownBlock with
    | none => exact .inl rfl
    | some g => exact .inr (by rw [h1]; simp)
  · exact .inr (fun e => h1 e.symm)
theorem TW.keepStk (h : TW H n w0 wr M sv fv) {B : Nat} (hB : B < H + 10) (hg : wr.grownBy w1 (some B)) : w1.ownsRow (H + 10) 3 1 sv M.stk.length (ints M.stk) := by
  refine h.stk.kept hg ?_
  cases e : sv.ownBlock with
  | none => exact .inl rfl
  | some g => refine .inr (fun e2 => ?_); cases e2; have := (h.stkBlock e).1; omega
theorem TW.keepFrs (h : TW H n w0 wr M sv fv) {B : Nat} (hB : B < H + 10) (hg : wr.grownBy w1 (some B)) : w1.ownsRow (H + 10) 62 2 fv M.frs.length (flat2 M.frs) := by
  refine h.frs.kept hg ?_
  cases e : fv.ownBlock with
  | none => exact .inl rfl
  | some g => refine .inr (fun e2 => ?_); cases e2; have := (h.frsBlock e).1; omega
theorem TW.blk (h : TW H n w0 wr M sv fv) {row : Option Nat} (hg : wr.grownBy w1 row) {k : Nat} (hk : k < H + 10) (hne : some k ≠ row) : w1.heap[k]? = wr.heap[k]? :=
  hg.block k (by have := h.size; omega) hne
theorem ne_row {a b : Nat} (h : a ≠ b) : some a ≠ some b := fun e => h (by cases e; rfl)

theorem TW.setIdx (h : TW H n w0 wr M sv fv) (v x : Nat) : TW H n w0 (wr.setCell ⟨H + 1, v, none⟩ (.int .i64 (x : Int))) { M with idx := upd M.idx v x } sv fv := by
  have hg := grown_setCell wr ⟨H + 1, v, none⟩ (.int .i64 (x : Int))
  have hb : ∀ {k : Nat}, k < H + 10 → k ≠ H + 1 → (wr.setCell ⟨H + 1, v, none⟩ (.int .i64 (x : Int))).heap[k]? = wr.heap[k]? := fun hk hne => h.blk hg hk (ne_row hne)
  exact ⟨h.below.setCell (by show H ≤ H + 1; omega) _, h.comp.of_block (hb (by omega) (by omega)), (h.idx.set v _).congr fun i _ => upd_int M.idx v x i, by rw [hb (by omega) (by omega)]; exact h.bidx, h.low.of_block (hb (by omega) (by omega)),
    by rw [hb (by omega) (by omega)]; exact h.blow, h.ons.of_block (hb (by omega) (by omega)), by rw [hb (by omega) (by omega)]; exact h.bons, by rw [hb (by omega) (by omega)]; exact h.bstk, by rw [hb (by omega) (by omega)]; exact h.bfrs,
    by rw [hb (by omega) (by omega)]; exact h.bvis, h.keepStk (B := H + 1) (by omega) hg, h.keepFrs (B := H + 1) (by omega) hg⟩
theorem TW.setLow (h : TW H n w0 wr M sv fv) (v x : Nat) : TW H n w0 (wr.setCell ⟨H + 3, v, none⟩ (.int .i64 (x : Int))) { M with low := upd M.low v x } sv fv := by
  have hg := grown_setCell wr ⟨H + 3, v, none⟩ (.int .i64 (x : Int))
  have hb : ∀ {k : Nat}, k < H + 10 → k ≠ H + 3 → (wr.setCell ⟨H + 3, v, none⟩ (.int .i64 (x : Int))).heap[k]? = wr.heap[k]? := fun hk hne => h.blk hg hk (ne_row hne)
  exact ⟨h.below.setCell (by show H ≤ H + 3; omega) _, h.comp.of_block (hb (by omega) (by omega)), h.idx.of_block (hb (by omega) (by omega)), by rw [hb (by omega) (by omega)]; exact h.bidx, (h.low.set v _).congr fun i _ => upd_int M.low v x i,
    by rw [hb (by omega) (by omega)]; exact h.blow, h.ons.of_block (hb (by omega) (by omega)), by rw [hb (by omega) (by omega)]; exact h.bons, by rw [hb (by omega) (by omega)]; exact h.bstk, by rw [hb (by omega) (by omega)]; exact h.bfrs,
    by rw [hb (by omega) (by omega)]; exact h.bvis, h.keepStk (B := H + 3) (by omega) hg, h.keepFrs (B := H + 3) (by omega) hg⟩
theorem TW.setComp (h : TW H n w0 wr M sv fv) (v x : Nat) : TW H n w0 (wr.setCell ⟨H, v, none⟩ (.int .i64 (x : Int))) { M with comp := upd M.comp v x } sv fv := by
  have hg := grown_setCell wr ⟨H, v, none⟩ (.int .i64 (x : Int))
  have hb : ∀ {k : Nat}, k < H + 10 → k ≠ H → (wr.setCell ⟨H, v, none⟩ (.int .i64 (x : Int))).heap[k]? = wr.heap[k]? := fun hk hne => h.blk hg hk (ne_row hne)
  exact ⟨h.below.setCell (Nat.le_refl _) _, (h.comp.set v _).congr fun i _ => upd_int M.comp v x i, h.idx.of_block (hb (by omega) (by omega)), by rw [hb (by omega) (by omega)]; exact h.bidx, h.low.of_block (hb (by omega) (by omega)),
    by rw [hb (by omega) (by omega)]; exact h.blow, h.ons.of_block (hb (by omega) (by omega)), by rw [hb (by omega) (by omega)]; exact h.bons, by rw [hb (by omega) (by omega)]; exact h.bstk, by rw [hb (by omega) (by omega)]; exact h.bfrs,
    by rw [hb (by omega) (by omega)]; exact h.bvis, h.keepStk (B := H) (by omega) hg, h.keepFrs (B := H) (by omega) hg⟩
theorem TW.setOns (h : TW H n w0 wr M sv fv) (v : Nat) (x : Bool) : TW H n w0 (wr.setCell ⟨H + 5, v, none⟩ (.bool x)) { M with ons := upd M.ons v x } sv fv := by
  have hg := grown_setCell wr ⟨H + 5, v, none⟩ (.bool x)
  have hb : ∀ {k : Nat}, k < H + 10 → k ≠ H + 5 → (wr.setCell ⟨H + 5, v, none⟩ (.bool x)).heap[k]? = wr.heap[k]? := fun hk hne => h.blk hg hk (ne_row hne)
  exact ⟨h.below.setCell (by show H ≤ H + 5; omega) _, h.comp.of_block (hb (by omega) (by omega)), h.idx.of_block (hb (by omega) (by omega)), by rw [hb (by omega) (by omega)]; exact h.bidx, h.low.of_block (hb (by omega) (by omega)),
    by rw [hb (by omega) (by omega)]; exact h.blow, (h.ons.set v _).congr fun i _ => upd_bool M.ons v x i, by rw [hb (by omega) (by omega)]; exact h.bons, by rw [hb (by omega) (by omega)]; exact h.bstk, by rw [hb (by omega) (by omega)]; exact h.bfrs,
    by rw [hb (by omega) (by omega)]; exact h.bvis, h.keepStk (B := H + 5) (by omega) hg, h.keepFrs (B := H + 5) (by omega) hg⟩
theorem TW.setVis (h : TW H n w0 wr M sv fv) (x : Nat) : TW H n w0 (wr.setCell ⟨H + 9, 0, none⟩ (.int .i64 (x : Int))) { M with vis := x } sv fv := by
  have hg := grown_setCell wr ⟨H + 9, 0, none⟩ (.int .i64 (x : Int))
  have hb : ∀ {k : Nat}, k < H + 10 → k ≠ H + 9 → (wr.setCell ⟨H + 9, 0, none⟩ (.int .i64 (x : Int))).heap[k]? = wr.heap[k]? := fun hk hne => h.blk hg hk (ne_row hne)
  exact ⟨h.below.setCell (by show H ≤ H + 9; omega) _, h.comp.of_block (hb (by omega) (by omega)), h.idx.of_block (hb (by omega) (by omega)), by rw [hb (by omega) (by omega)]; exact h.bidx, h.low.of_block (hb (by omega) (by omega)),
    by rw [hb (by omega) (by omega)]; exact h.blow, h.ons.of_block (hb (by omega) (by omega)), by rw [hb (by omega) (by omega)]; exact h.bons, by rw [hb (by omega) (by omega)]; exact h.bstk, by rw [hb (by omega) (by omega)]; exact h.bfrs,
    one_setCell h.bvis, h.keepStk (B := H + 9) (by omega) hg, h.keepFrs (B := H + 9) (by omega) hg⟩
/-- The stack's variable, and what it owns, in a world that has turned the stack's own row alone. -/
theorem TW.newStk (h : TW H n w0 wr M sv fv) {row : Option Nat} (hg : wr.grownBy w1 row) (hrow : ∀ k, row = some k → H + 10 ≤ k) (hfr : fv.ownBlock = none ∨ fv.ownBlock ≠ row) {l : List Nat} (ho : w1.ownsRow (H + 10) 3 1 sv' l.length (ints l)) :
    TW H n w0 (w1.setCell ⟨H + 7, 0, none⟩ sv') { M with stk := l } sv' fv := by
  have hb0 : ∀ {k : Nat}, k < H + 10 → w1.heap[k]? = wr.heap[k]? := fun {k} hk => h.blk hg hk (fun e => by have := hrow k e.symm; omega)
  have hg2 := grown_setCell w1 ⟨H + 7, 0, none⟩ sv'
  have hsz : H + 10 ≤ w1.heap.size := Nat.le_trans h.size hg.size
  have hb : ∀ {k : Nat}, k < H + 10 → k ≠ H + 7 → (w1.setCell ⟨H + 7, 0, none⟩ sv').heap[k]? = wr.heap[k]? := fun {k} hk hne => by rw [hg2.block k (by omega) (ne_row hne)]; exact hb0 hk
  have hf : w1.ownsRow (H + 10) 62 2 fv M.frs.length (flat2 M.frs) := h.frs.kept hg hfr
  refine ⟨(h.below.grown hg (by have := h.size; omega) (fun k e => by have := hrow k e; omega)).setCell (by show H ≤ H + 7; omega) _, h.comp.of_block (hb (by omega) (by omega)), h.idx.of_block (hb (by omega) (by omega)), by rw [hb (by omega) (by omega)]; exact h.bidx, h.low.of_block (hb (by omega) (by omega)),
    by rw [hb (by omega) (by omega)]; exact h.blow, h.ons.of_block (hb (by omega) (by omega)), by rw [hb (by omega) (by omega)]; exact h.bons, one_setCell (by rw [hb0 (by omega)]; exact h.bstk), by rw [hb (by omega) (by omega)]; exact h.bfrs,
    by rw [hb (by omega) (by omega)]; exact h.bvis, ?_, ?_⟩
  · exact ownsRow_setCell_below ho (by show H + 7 < H + 10; omega) _
  · exact ownsRow_setCell_below hf (by show H + 7 < H + 10; omega) _
/-- The same of the frames. -/
theorem TW.newFrs (h : TW H n w0 wr M sv fv) {row : Option Nat} (hg : wr.grownBy w1 row) (hrow : ∀ k, row = some k → H + 10 ≤ k) (hfr : sv.ownBlock = none ∨ sv.ownBlock ≠ row) {l : List (Nat × Nat)} (ho : w1.ownsRow (H + 10) 62 2 fv' l.length (flat2 l)) :
    TW H n w0 (w1.setCell ⟨H + 8, 0, none⟩ fv') { M with frs := l } sv fv' := by
  have hb0 : ∀ {k : Nat}, k < H + 10 → w1.heap[k]? = wr.heap[k]? := fun {k} hk => h.blk hg hk (fun e => by have := hrow k e.symm; omega)
  have hg2 := grown_setCell w1 ⟨H + 8, 0, none⟩ fv'
  have hsz : H + 10 ≤ w1.heap.size := Nat.le_trans h.size hg.size
  have hb : ∀ {k : Nat}, k < H + 10 → k ≠ H + 8 → (w1.setCell ⟨H + 8, 0, none⟩ fv').heap[k]? = wr.heap[k]? := fun {k} hk hne => by rw [hg2.block k (by omega) (ne_row hne)]; exact hb0 hk
  have hf : w1.ownsRow (H + 10) 3 1 sv M.stk.length (ints M.stk) := h.stk.kept hg hfr
  refine ⟨(h.below.grown hg (by have := h.size; omega) (fun k e => by have := hrow k e; omega)).setCell (by show H ≤ H + 8; omega) _, h.comp.of_block (hb (by omega) (by omega)), h.idx.of_block (hb (by omega) (by omega)), by rw [hb (by omega) (by omega)]; exact h.bidx, h.low.of_block (hb (by omega) (by omega)),
    by rw [hb (by omega) (by omega)]; exact h.blow, h.ons.of_block (hb (by omega) (by omega)), by rw [hb (by omega) (by omega)]; exact h.bons, by rw [hb (by omega) (by omega)]; exact h.bstk, one_setCell (by rw [hb0 (by omega)]; exact h.bfrs),
    by rw [hb (by omega) (by omega)]; exact h.bvis, ?_, ?_⟩
  · exact ownsRow_setCell_below hf (by show H + 8 < H + 10; omega) _
  · exact ownsRow_setCell_below ho (by show H + 8 < H + 10; omega) _
theorem TW.stkRow (h : TW H n w0 wr M sv fv) : ∀ k, sv.ownBlock = some k → H + 10 ≤ k := fun k e => (h.stkBlock e).1
theorem TW.frsRow (h : TW H n w0 wr M sv fv) : ∀ k, fv.ownBlock = some k → H + 10 ≤ k := fun k e => (h.frsBlock e).1
theorem ownBlock_slice (g m cap : Nat) : (Value.slice (some ⟨g, 0, none⟩) m cap).ownBlock = some g := rfl

/-- What is owned behind a pop. -/
theorem owns_pop {w : World} {base e size g m cap : Nat} {xs ys : List Value} (h : w.ownsRow base e size (.slice (some ⟨g, 0, none⟩) (m + 1) cap) (m + 1) (xs ++ ys)) (hl : xs.length = m * size) : w.ownsRow base e size (.slice (some ⟨g, 0, none⟩) m cap) m xs := by
  rcases h.2 with ⟨h', _⟩ | ⟨g', cap', cur, h', hb, hg, hnc, hcm, hcs, htake⟩
  · simp at h'
  · simp only [Value.slice.injEq, Option.some.injEq, Addr.mk.injEq, and_true, true_and] at h'
    obtain ⟨rfl, rfl⟩ := h'
    refine ⟨hl, .inr ⟨g, cap, cur, rfl, hb, hg, by omega, hcm, hcs, ?_⟩⟩
    have h1 : cur.toList.take (m * size) = (cur.toList.take ((m + 1) * size)).take (m * size) := by
      rw [List.take_take, Nat.min_eq_left (by rw [Nat.add_mul]; omega)]
    rw [h1, htake, ← hl]
    exact List.take_left
theorem TW.popStk {g m cap x : Nat} {A : List Nat} (h : TW H n w0 wr M (.slice (some ⟨g, 0, none⟩) (m + 1) cap) fv) (hs : M.stk = A ++ [x]) (hm : m = A.length) :
    TW H n w0 (wr.setCell ⟨H + 7, 0, none⟩ (.slice (some ⟨g, 0, none⟩) m cap)) { M with stk := A } (.slice (some ⟨g, 0, none⟩) m cap) fv := by
  have ho := h.stk
  rw [hs, ints_append, List.length_append, List.length_singleton, ← hm] at ho
  have ho2 := owns_pop ho (by rw [ints_len]; omega)
  refine h.newStk (World.grownBy.refl wr none) (fun k e => by cases e) ?_ (l := A) (by rw [← hm]; exact ho2)
  cases e : fv.ownBlock with
  | none => exact .inl rfl
  | some g => exact .inr (by simp)
theorem TW.popFrs {g m cap : Nat} {x : Nat × Nat} {A : List (Nat × Nat)} (h : TW H n w0 wr M sv (.slice (some ⟨g, 0, none⟩) (m + 1) cap)) (hs : M.frs = A ++ [x]) (hm : m = A.length) :
    TW H n w0 (wr.setCell ⟨H + 8, 0, none⟩ (.slice (some ⟨g, 0, none⟩) m cap)) { M with frs := A } sv (.slice (some ⟨g, 0, none⟩) m cap) := by
  have ho := h.frs
  rw [hs, flat2_append, List.length_append, List.length_singleton, ← hm] at ho
  have ho2 := owns_pop ho (by rw [flat2_len]; omega)
  refine h.newFrs (World.grownBy.refl wr none) (fun k e => by cases e) ?_ (l := A) (by rw [← hm]; exact ho2)
  cases e : sv.ownBlock with
  | none => exact .inl rfl
  | some g => exact .inr (by simp)
/-- f.next++ -/
theorem TW.nextFrs {g m cap v k k' : Nat} {A : List (Nat × Nat)} (h : TW H n w0 wr M sv (.slice (some ⟨g, 0, none⟩) (m + 1) cap)) (hs : M.frs = A ++ [(v, k)]) (hm : m = A.length) :
    TW H n w0 (wr.setCell ⟨g, m * 2 + 1, none⟩ (.int .i64 (k' : Int))) { M with frs := A ++ [(v, k')] } sv (.slice (some ⟨g, 0, none⟩) (m + 1) cap) := by
  have ho := h.frs
  have hl : (A ++ [(v, k)]).length = m + 1 := by simp [hm]
  have hl' : (A ++ [(v, k')]).length = m + 1 := by simp [hm]
  rw [hs, hl] at ho
  have hst := ho.stored (m * 2 + 1) (.int .i64 (k' : Int))
  have hgH : H + 10 ≤ g := h.frsRow g rfl
  have hg := hst.2
  have hb : ∀ {j : Nat}, j < H + 10 → (wr.setCell ⟨g, m * 2 + 1, none⟩ (.int .i64 (k' : Int))).heap[j]? = wr.heap[j]? := fun {j} hj => h.blk hg hj (fun e => by cases e; omega)
  have e1 : (flat2 (A ++ [(v, k)])).set (m * 2 + 1) (.int .i64 (k' : Int)) = flat2 (A ++ [(v, k')]) := by
    rw [hm, flat2_append, flat2_append, List.set_append_right _ _ (by rw [flat2_len]; omega), flat2_len]
    congr 1
    rw [Nat.add_sub_cancel_left]
    rfl
  have h2 := hst.1
  rw [e1] at h2
  refine ⟨h.below.grown hg (by have := h.size; omega) (fun j e => by cases e; omega), h.comp.of_block (hb (by omega)), h.idx.of_block (hb (by omega)), by rw [hb (by omega)]; exact h.bidx, h.low.of_block (hb (by omega)), by rw [hb (by omega)]; exact h.blow,
    h.ons.of_block (hb (by omega)), by rw [hb (by omega)]; exact h.bons, by rw [hb (by omega)]; exact h.bstk, by rw [hb (by omega)]; exact h.bfrs, by rw [hb (by omega)]; exact h.bvis, ?_, ?_⟩
  · exact h.stk.kept hg h.apart'
  · show World.ownsRow _ _ _ _ _ (A ++ [(v, k')]).length (flat2 (A ++ [(v, k')]))
    rw [hl']
    exact h2
/-- The top frame's two cells. -/
theorem TW.topFrs {g m cap v k : Nat} {A : List (Nat × Nat)} (h : TW H n w0 wr M sv (.slice (some ⟨g, 0, none⟩) (m + 1) cap)) (hs : M.frs = A ++ [(v, k)]) (hm : m = A.length) :
    wr.cell? ⟨g, m * 2, none⟩ = some (.int .i64 (v : Int)) ∧ wr.cell? ⟨g, m * 2 + 1, none⟩ = some (.int .i64 (k : Int)) ∧ ∀ j, wr.frozen? ⟨g, j, none⟩ = false := by
  have ho := h.frs
  have hl : (A ++ [(v, k)]).length = m + 1 := by simp [hm]
  rw [hs, hl] at ho
  refine ⟨?_, ?_, fun j => ho.frozenAt j⟩
  · rw [ho.cellAt _ (by omega), flat2_append, List.getElem?_append_right (by rw [flat2_len]; omega), flat2_len, hm, Nat.sub_self]; rfl
  · rw [ho.cellAt _ (by omega), flat2_append, List.getElem?_append_right (by rw [flat2_len]; omega), flat2_len, hm, Nat.add_sub_cancel_left]; rfl
/-- The top of the stack. -/
theorem TW.topStk {g m cap x : Nat} {A : List Nat} (h : TW H n w0 wr M (.slice (some ⟨g, 0, none⟩) (m + 1) cap) fv) (hs : M.stk = A ++ [x]) (hm : m = A.length) :
    wr.cell? ⟨g, m, none⟩ = some (.int .i64 (x : Int)) := by
  have ho := h.stk
  have hl : (A ++ [x]).length = m + 1 := by simp [hm]
  rw [hs, hl] at ho
  rw [ho.cellAt _ (by omega), ints_append, List.getElem?_append_right (by rw [ints_len]; omega), ints_len, hm, Nat.sub_self]; rfl
theorem TW.frsForm (h : TW H n w0 wr M sv fv) {m : Nat} (hm : M.frs.length = m + 1) : ∃ g cap, fv = .slice (some ⟨g, 0, none⟩) (m + 1) cap ∧ g < wr.heap.size ∧ m + 1 ≤ cap := by
  have ho := h.frs
  rw [hm] at ho
  rcases ho.2 with ⟨_, h0⟩ | ⟨g, cap, cur, rfl, hb, hg, hnc, _⟩
  · omega
  · exact ⟨g, cap, rfl, lt_of_block hg, hnc⟩
theorem TW.stkForm (h : TW H n w0 wr M sv fv) {m : Nat} (hm : M.stk.length = m + 1) : ∃ g cap, sv = .slice (some ⟨g, 0, none⟩) (m + 1) cap ∧ g < wr.heap.size ∧ m + 1 ≤ cap := by
  have ho := h.stk
  rw [hm] at ho
  rcases ho.2 with ⟨_, h0⟩ | ⟨g, cap, cur, rfl, hb, hg, hnc, _⟩
  · omega
  · exact ⟨g, cap, rfl, lt_of_block hg, hnc⟩
end
end Go.Proofs.Qxb6600624a
