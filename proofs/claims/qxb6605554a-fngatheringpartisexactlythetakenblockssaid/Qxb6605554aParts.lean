import Derived.Test.Qxb6605554aProg
import Derived.WalkKit
import Derived.WalkSpells
import Derived.Deep.LoopGhost
import Derived.Deep.OwnRows
import Derived.Deep.Light
import Derived.BigQuiet
set_option linter.unusedVariables false
set_option linter.unusedSimpArgs false
namespace Go.Proofs.Qxb6605554a
open Go.RowKit

theorem bytes8 (a : Option Addr) (n c : Nat) (x y : Int) (w : World) (h : n ≤ 1048576) :
    Calls Try.prog 8 #[.slice a n c, .int .i64 x, .int .i64 y] w fun e w' => e = .returned (.bool true) ∧ w' = w := by
  go_enter Try.func8, Try.ntmps8
  go_wp2
  go_ret
  exact ⟨rfl, rfl⟩
theorem bytes8_no (a : Option Addr) (n c : Nat) (x y : Int) (w : World) (h : 1048576 < n) :
    Calls Try.prog 8 #[.slice a n c, .int .i64 x, .int .i64 y] w fun e w' => e = .returned (.bool false) ∧ w' = w := by
  go_enter Try.func8, Try.ntmps8
  go_wp2
  go_ret
  exact ⟨rfl, rfl⟩
theorem bytes11 (a : Option Addr) (n c : Nat) (x y z : Int) (w : World) (h : n ≤ 1048576) :
    Calls Try.prog 11 #[.slice a n c, .int .i64 x, .int .i64 y, .int .i64 z] w fun e w' => e = .returned (.bool true) ∧ w' = w := by
  go_enter Try.func11, Try.ntmps11
  go_wp2
  go_ret
  exact ⟨rfl, rfl⟩
theorem bytes11_no (a : Option Addr) (n c : Nat) (x y z : Int) (w : World) (h : 1048576 < n) :
    Calls Try.prog 11 #[.slice a n c, .int .i64 x, .int .i64 y, .int .i64 z] w fun e w' => e = .returned (.bool false) ∧ w' = w := by
  go_enter Try.func11, Try.ntmps11
  go_wp2
  go_ret
  exact ⟨rfl, rfl⟩
theorem bytes13 (a : Option Addr) (n c : Nat) (x y z u v : Int) (l : Bool) (w : World) (h : n ≤ 1048576) :
    Calls Try.prog 13 #[.int .i64 x, .slice a n c, .int .i64 y, .int .i64 z, .int .i64 u, .int .i64 v, .bool l] w fun e w' => e = .returned (.bool true) ∧ w' = w := by
  go_enter Try.func13, Try.ntmps13
  go_wp2
  go_ret
  exact ⟨rfl, rfl⟩
theorem bytes13_no (a : Option Addr) (n c : Nat) (x y z u v : Int) (l : Bool) (w : World) (h : 1048576 < n) :
    Calls Try.prog 13 #[.int .i64 x, .slice a n c, .int .i64 y, .int .i64 z, .int .i64 u, .int .i64 v, .bool l] w fun e w' => e = .returned (.bool false) ∧ w' = w := by
  go_enter Try.func13, Try.ntmps13
  go_wp2
  go_ret
  exact ⟨rfl, rfl⟩
theorem copy_nil (w : World) :
    Calls Try.prog 9 #[.slice none 0 0] w fun e w' => e = .returned (.slice none 0 0) ∧ w' = w := by
  go_enter Try.func9, Try.ntmps9
  have h1 := fun w => Lib.run_eql_slice_nil (P := Try.prog) w 22 5 none 0 0 0 0 Try.underlying22
  go_wp2
  go_ret
  exact ⟨rfl, rfl⟩
theorem Try.info5 : (Try.prog.info? 5).map (fun i => (i.zero, i.size, i.bytes)) = some (some (.int .u8 0), 1, 1) := by kernel_rfl

/-- The copy: one new block of n cells. -/
structure CopyAt (w wr : World) (n k : Nat) (z : Nat → Int) : Prop where
  since : w.Since w.heap.size wr
  size : wr.heap.size = w.heap.size + 1
  row : wr.rowIs w.heap.size 5 n (fun i => if i < k then .int .u8 (z i) else .int .u8 0)

theorem copy_start (w : World) (n : Nat) (z : Nat → Int) : CopyAt w (w.alloc (.cells (madeCells #[.int .u8 0] n) 5)) n 0 z :=
  ⟨(World.Since.refl _ _).alloc (Nat.le_refl _) _, by simp, (World.rowIs_made w _ n 5).congr (fun j _ => by simp)⟩
theorem copy_step {w wr : World} {n k : Nat} {z : Nat → Int} (h : CopyAt w wr n k z) :
    CopyAt w (wr.setCell ⟨w.heap.size, k, none⟩ (.int .u8 (z k))) n (k + 1) z := by
  refine ⟨h.since.setCell (Nat.le_refl _) _, by simp [h.size], (h.row.set k _).congr (fun i _ => ?_)⟩
  by_cases e : i = k
  · subst e; simp
  · rw [if_neg e]
    by_cases hlt : i < k
    · rw [if_pos hlt, if_pos (by omega)]
    · rw [if_neg hlt, if_neg (by omega)]

set_option maxHeartbeats 400000 in
theorem copy_any (x : Addr) (b o n c : Nat) (z : Nat → Int) (w : World) (hn : n ≤ 1048576) (hx : 0 < n → x = ⟨b, o, none⟩) (hc : ∀ i, i < n → w.cell? ⟨b, o + i, none⟩ = some (.int .u8 (z i))) :
    Calls Try.prog 9 #[.slice (some x) n c] w fun e w' => e = .returned (.slice (some ⟨w.heap.size, 0, none⟩) n n) ∧ CopyAt w w' n n z := by
  have h1 := fun w => Lib.run_eql_slice_nil (P := Try.prog) w 22 5 (some x) n c 0 0 Try.underlying22
  have hmk := run_make_row' (P := Try.prog) 22 5 (.int .u8 0) 1 Try.underlying22 Try.info5 rfl .i64 .i64 n (by omega) (by omega)
  go_enter Try.func9, Try.ntmps9
  go_wp2
  go_loopg [4] n (fun g i wr => ∃ k : Nat, k ≤ n ∧ g = n - k ∧ i = .int .i64 k ∧ CopyAt w wr n k z)
  case atStart => exact ⟨0, Nat.zero_le _, rfl, rfl, copy_start w n z⟩
  case round =>
    obtain ⟨k, hk, rfl, rfl, hO⟩ := hrel
    clear h1 hmk
    by_cases hlt : k < n
    · obtain rfl := hx (by omega)
      have g1 : wr.cell? ⟨b, o + k, none⟩ = some (.int .u8 (z k)) := by
        rw [hO.since.cell (a := ⟨b, o + k, none⟩) (World.block_lt_of_cell? _ _ (hc k hlt))]; exact hc k hlt
      have g2 : wr.cell? ⟨w.heap.size, k, none⟩ = some (.int .u8 0) := by simpa using hO.row.cell hlt
      have g3 : wr.frozen? ⟨w.heap.size, k, none⟩ = false := hO.row.frozen k
      clear hc
      go_wp2
      go_roundg (n - (k + 1))
      case measure => omega
      case rel => exact ⟨k + 1, by omega, rfl, by go_num, copy_step hO⟩
    · obtain rfl : k = n := by omega
      go_wp2
      go_ret
      exact ⟨rfl, hO⟩
theorem Since_below {B : Nat} {w w' : World} (h : w.Since B w') : Below B w w' := ⟨h.os, h.tape, h.output, h.size, h.block⟩

/-- WHAT THE WALK IS TOLD OF A SLICE OF INTEGERS THAT CAME IN (the shells' own words). -/
def IsRow (k : IntKind) (w : World) (a : Option Addr) (len cap : Nat) (zs : List Int) : Prop :=
  (a = none ∧ len = 0 ∧ cap = 0 ∧ zs = []) ∨
  ∃ x, a = some x ∧ len ≤ cap ∧ cap ≤ maxLen ∧ zs.length = cap ∧ (∀ i, i < zs.length → w.cell? (x.add i) = some (.int k (zs.getD i 0))) ∧ ∀ n ∈ zs, (Lit.int k n).wf = true

theorem cell_spot {w : World} {x : Addr} {v : Value} (h : w.cell? x = some v) : x = ⟨x.block, x.off, none⟩ := by
  cases x with
  | mk b o s =>
    cases s with
    | none => rfl
    | some s =>
      simp only [World.cell?] at h
      split at h <;> simp at h

theorem addr_add_none (b o i : Nat) : Addr.add ⟨b, o, none⟩ i = ⟨b, o + i, none⟩ := by simp [Addr.add_lit]

/-- The copy, whatever came in. -/
theorem copy_row (a : Option Addr) (n c : Nat) (zs : List Int) (w : World) (hn : n ≤ 1048576) (h : IsRow .u8 w a n c zs) :
    Calls Try.prog 9 #[.slice a n c] w fun e w' => ∃ a', e = .returned (.slice a' n n) ∧ (0 < n → a' = some ⟨w.heap.size, 0, none⟩) ∧ Below w.heap.size w w' ∧
      ∀ i, i < n → w'.cell? ⟨w.heap.size, i, none⟩ = some (.int .u8 (zs.getD i 0)) := by
  rcases h with ⟨rfl, rfl, rfl, rfl⟩ | ⟨x, rfl, hl, hm, hz, hc, _⟩
  · refine (copy_nil w).mono ?_
    rintro e w' ⟨rfl, rfl⟩
    exact ⟨none, rfl, fun h => absurd h (Nat.lt_irrefl _), Below.refl _ _, fun i hi => absurd hi (Nat.not_lt_zero _)⟩
  · have hx : 0 < n → x = ⟨x.block, x.off, none⟩ := fun h0 => by
      have := hc 0 (by omega)
      simp only [Addr.add_zero'] at this
      exact cell_spot this
    refine (copy_any x x.block x.off n c (fun i => zs.getD i 0) w hn hx ?_).mono ?_
    · intro i hi
      have h1 := hc i (by omega)
      rw [hx (by omega), addr_add_none] at h1
      exact h1
    · rintro e w' ⟨rfl, hO⟩
      refine ⟨_, rfl, fun _ => rfl, Since_below hO.since, fun i hi => ?_⟩
      have := hO.row.cell hi
      simpa [hi] using this


theorem row_own {w : World} {g n base : Nat} {f : Nat → Int} (h : w.rowIs g 5 n (fun i => .int .u8 (f i))) (hb : base ≤ g) (hn : n ≤ 1048576) :
    w.ownsRow base 5 1 (.slice (some ⟨g, 0, none⟩) n n) n (((List.range n).map f).map (Value.int .u8)) := by
  obtain ⟨c, hc, hs, hi⟩ := h
  refine ⟨by simp, .inr ⟨g, n, c, rfl, hb, hc, Nat.le_refl _, by unfold maxLen; omega, by omega, ?_⟩⟩
  apply List.ext_getElem?
  intro i
  by_cases hlt : i < n
  · rw [Nat.mul_one, List.getElem?_take, if_pos hlt, Array.getElem?_toList, hi i hlt]
    simp [hlt]
  · rw [Nat.mul_one, List.getElem?_take, if_neg hlt, List.getElem?_eq_none (by simp; omega)]

theorem range_getD (zs : List Int) (n : Nat) (h : n ≤ zs.length) : (List.range n).map (fun i => zs.getD i 0) = zs.take n := by
  apply List.ext_getElem?
  intro i
  by_cases hlt : i < n
  · simp [List.getElem?_take, hlt, List.getElem?_eq_getElem (show i < zs.length by omega)]
  · rw [List.getElem?_eq_none (by simp; omega), List.getElem?_eq_none (by simp; omega)]

/-- A clone, whatever came in: what it reads as, and that the call owns it. -/
theorem clone_own (a : Option Addr) (n c : Nat) (zs : List Int) (w : World) (hn : n ≤ 1048576) (h : IsRow .u8 w a n c zs) :
    Calls Try.prog 9 #[.slice a n c] w fun e w' => ∃ a', e = .returned (.slice a' n n) ∧ IsRow .u8 w' a' n n (zs.take n) ∧ w'.ownsRow w.heap.size 5 1 (.slice a' n n) n ((zs.take n).map (Value.int .u8)) ∧
      Below w.heap.size w w' ∧ (zs.take n).length = n := by
  rcases h with ⟨rfl, rfl, rfl, rfl⟩ | ⟨x, rfl, hl, hm, hz, hc, hwf⟩
  · refine (copy_nil w).mono ?_
    rintro e w' ⟨rfl, rfl⟩
    exact ⟨none, rfl, .inl ⟨rfl, rfl, rfl, rfl⟩, World.ownsRow_nil _ _ _ _, Below.refl _ _, rfl⟩
  · have hx : 0 < n → x = ⟨x.block, x.off, none⟩ := fun h0 => by
      have := hc 0 (by omega)
      simp only [Addr.add_zero'] at this
      exact cell_spot this
    refine (copy_any x x.block x.off n c (fun i => zs.getD i 0) w hn hx ?_).mono ?_
    · intro i hi
      have h1 := hc i (by omega)
      rw [hx (by omega), addr_add_none] at h1
      exact h1
    · rintro e w' ⟨rfl, hO⟩
      have hrow : w'.rowIs w.heap.size 5 n (fun i => .int .u8 (zs.getD i 0)) := hO.row.congr (fun i hi => by rw [if_pos hi])
      have hlen : (zs.take n).length = n := by simp; omega
      refine ⟨_, rfl, .inr ⟨_, rfl, Nat.le_refl _, by unfold maxLen; omega, hlen, fun i hi => ?_, fun m hm => hwf m (List.mem_of_mem_take hm)⟩, ?_, Since_below hO.since, hlen⟩
      · rw [addr_add_none, Nat.zero_add, hrow.cell (by omega)]
        rw [hlen] at hi
        simp [List.getElem?_take, hi]
      · have := row_own hrow (Nat.le_refl _) hn
        rw [range_getD _ _ (by omega)] at this
        exact this
end Go.Proofs.Qxb6605554a
