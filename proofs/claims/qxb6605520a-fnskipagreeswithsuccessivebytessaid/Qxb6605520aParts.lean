import Derived.Test.Qxb6605520aProg
import Derived.WalkKit
import Derived.WalkSpells
import Derived.Deep.LoopGhost
import Derived.Deep.OwnRows
import Derived.Deep.Light
import Derived.BigQuiet
set_option linter.unusedVariables false
set_option linter.unusedSimpArgs false
namespace Go.Proofs.Qxb6605520a
open Go.RowKit

theorem bytes6 (a : Option Addr) (n c : Nat) (bad : Bool) (w : World) (h : n ≤ 1048576) :
    Calls Try.prog 6 #[.slice a n c, .bool bad] w fun e w' => e = .returned (.bool true) ∧ w' = w := by
  go_enter Try.func6, Try.ntmps6
  go_wp2
  go_ret
  exact ⟨rfl, rfl⟩
theorem bytes6_no (a : Option Addr) (n c : Nat) (bad : Bool) (w : World) (h : 1048576 < n) :
    Calls Try.prog 6 #[.slice a n c, .bool bad] w fun e w' => e = .returned (.bool false) ∧ w' = w := by
  go_enter Try.func6, Try.ntmps6
  go_wp2
  go_ret
  exact ⟨rfl, rfl⟩
theorem bytes9 (a : Option Addr) (n c : Nat) (bad : Bool) (m : Int) (w : World) (h : n ≤ 1048576) :
    Calls Try.prog 9 #[.slice a n c, .bool bad, .int .i64 m] w fun e w' => e = .returned (.bool true) ∧ w' = w := by
  go_enter Try.func9, Try.ntmps9
  go_wp2
  go_ret
  exact ⟨rfl, rfl⟩
theorem bytes9_no (a : Option Addr) (n c : Nat) (bad : Bool) (m : Int) (w : World) (h : 1048576 < n) :
    Calls Try.prog 9 #[.slice a n c, .bool bad, .int .i64 m] w fun e w' => e = .returned (.bool false) ∧ w' = w := by
  go_enter Try.func9, Try.ntmps9
  go_wp2
  go_ret
  exact ⟨rfl, rfl⟩
theorem bytes12 (a : Option Addr) (n c : Nat) (bad : Bool) (m m' : Int) (w : World) (h : n ≤ 1048576) :
    Calls Try.prog 12 #[.slice a n c, .bool bad, .int .i64 m, .int .i64 m'] w fun e w' => e = .returned (.bool true) ∧ w' = w := by
  go_enter Try.func12, Try.ntmps12
  go_wp2
  go_ret
  exact ⟨rfl, rfl⟩
theorem bytes12_no (a : Option Addr) (n c : Nat) (bad : Bool) (m m' : Int) (w : World) (h : 1048576 < n) :
    Calls Try.prog 12 #[.slice a n c, .bool bad, .int .i64 m, .int .i64 m'] w fun e w' => e = .returned (.bool false) ∧ w' = w := by
  go_enter Try.func12, Try.ntmps12
  go_wp2
  go_ret
  exact ⟨rfl, rfl⟩

theorem copy_nil (w : World) :
    Calls Try.prog 7 #[.slice none 0 0] w fun e w' => e = .returned (.slice none 0 0) ∧ w' = w := by
  go_enter Try.func7, Try.ntmps7
  have h1 := fun w => Lib.run_eql_slice_nil (P := Try.prog) w 22 5 none 0 0 0 0 Try.underlying22
  go_wp2
  go_ret
  exact ⟨rfl, rfl⟩
theorem Try.info5 : (Try.prog.info? 5).map (fun i => (i.zero, i.size, i.bytes)) = some (some (.int .u8 0), 1, 1) := by kernel_rfl

/-- The copy: one new block of n cells. -/
structure CopyAt (w wr : World) (n k : Nat) (z : Nat → Int) : Prop where
  since : w.Since w.heap.size wr
  size : wr.heap.size = w.heap.size + 1
  row : wr.rowIs w.heap.size 5 n (fun i => if i < k then .int .u8 (z i) else .int .u8 0)

theorem copy_start (w : World) (n : Nat) (z : Nat → Int) : CopyAt w (w.alloc (.cells (madeCells #[.int .u8 0] n) 5)) n 0 z :=
  ⟨(World.Since.refl _ _).alloc (Nat.le_refl _) _, by simp, (World.rowIs_made w _ n 5).congr (fun j _ => by simp)⟩
theorem copy_step {w wr : World} {n k : Nat} {z : Nat → Int} (h : CopyAt w wr n k z) :
    CopyAt w (wr.setCell ⟨w.heap.size, k, none⟩ (.int .u8 (z k))) n (k + 1) z := by
  refine ⟨h.since.setCell (Nat.le_refl _) _, by simp [h.size], (h.row.set k _).congr (fun i _ => ?_)⟩
  by_cases e : i = k
  · subst e; simp
  · rw [if_neg e]
    by_cases hlt : i < k
    · rw [if_pos hlt, if_pos (by omega)]
    · rw [if_neg hlt, if_neg (by omega)]

set_option maxHeartbeats 400000 in
theorem copy_any (x : Addr) (b o n c : Nat) (z : Nat → Int) (w : World) (hn : n ≤ 1048576) (hx : 0 < n → x = ⟨b, o, none⟩) (hc : ∀ i, i < n → w.cell? ⟨b, o + i, none⟩ = some (.int .u8 (z i))) :
    Calls Try.prog 7 #[.slice (some x) n c] w fun e w' => e = .returned (.slice (some ⟨w.heap.size, 0, none⟩) n n) ∧ CopyAt w w' n n z := by
  have h1 := fun w => Lib.run_eql_slice_nil (P := Try.prog) w 22 5 (some x) n c 0 0 Try.underlying22
  have hmk := run_make_row' (P := Try.prog) 22 5 (.int .u8 0) 1 Try.underlying22 Try.info5 rfl .i64 .i64 n (by omega) (by omega)
  go_enter Try.func7, Try.ntmps7
  go_wp2
  go_loopg [4] n (fun g i wr => ∃ k : Nat, k ≤ n ∧ g = n - k ∧ i = .int .i64 k ∧ CopyAt w wr n k z)
  case atStart => exact ⟨0, Nat.zero_le _, rfl, rfl, copy_start w n z⟩
  case round =>
    obtain ⟨k, hk, rfl, rfl, hO⟩ := hrel
    clear h1 hmk
    by_cases hlt : k < n
    · obtain rfl := hx (by omega)
      have g1 : wr.cell? ⟨b, o + k, none⟩ = some (.int .u8 (z k)) := by
        rw [hO.since.cell (a := ⟨b, o + k, none⟩) (World.block_lt_of_cell? _ _ (hc k hlt))]; exact hc k hlt
      have g2 : wr.cell? ⟨w.heap.size, k, none⟩ = some (.int .u8 0) := by simpa using hO.row.cell hlt
      have g3 : wr.frozen? ⟨w.heap.size, k, none⟩ = false := hO.row.frozen k
      clear hc
      go_wp2
      go_roundg (n - (k + 1))
      case measure => omega
      case rel => exact ⟨k + 1, by omega, rfl, by go_num, copy_step hO⟩
    · obtain rfl : k = n := by omega
      go_wp2
      go_ret
      exact ⟨rfl, hO⟩
set_option maxHeartbeats 400000 in
theorem byte_some (b o n c : Nat) (z : Int) (bad : Bool) (w : World) (hn : 0 < n) (hnc : n ≤ c) (hm : n ≤ 1048576) (hc : w.cell? ⟨b, o, none⟩ = some (.int .u8 z)) :
    Calls Try.prog 8 #[.slice (some ⟨b, o, none⟩) n c, .bool bad] w fun e w' =>
      e = .returned (.tuple #[.int .u8 z, .slice (if c = 1 then some ⟨b, o, none⟩ else some ⟨b, o + 1, none⟩) (n - 1) (c - 1), .bool bad]) ∧ Below w.heap.size w w' := by
  have hb : b < w.heap.size := World.block_lt_of_cell? _ _ hc
  have hne : ((n : Int) == 0) = false := by simp; omega
  go_enter Try.func8, Try.ntmps8
  go_wp2
  all_goals go_region
  all_goals go_wp2
  all_goals go_ret3
  all_goals exact ⟨by simp [*], ((Below.refl _ _).alloc (Nat.le_refl _) _).drew⟩

set_option maxHeartbeats 400000 in
theorem byte_none (oa : Option Addr) (c : Nat) (bad : Bool) (w : World) :
    Calls Try.prog 8 #[.slice oa 0 c, .bool bad] w fun e w' =>
      e = .returned (.tuple #[.int .u8 0, .slice none 0 0, .bool true]) ∧ Below w.heap.size w w' := by
  go_enter Try.func8, Try.ntmps8
  go_wp2
  go_end0
  go_wp2
  all_goals go_region
  all_goals go_wp2
  all_goals go_ret3
  all_goals exact ⟨by simp [*], ((Below.refl _ _).alloc (Nat.le_refl _) _).drew⟩

set_option maxHeartbeats 400000 in
theorem skip_some (oa : Option Addr) (n c m : Nat) (bad : Bool) (w : World) (hnc : n ≤ c) (hmn : m ≤ n) (hm : n ≤ 1048576) :
    Calls Try.prog 10 #[.slice oa n c, .bool bad, .int .i64 m] w fun e w' =>
      e = .returned (.tuple #[.slice (if c = m then oa else oa.map (·.add m)) (n - m) (c - m), .bool bad]) ∧ Below w.heap.size w w' := by
  go_enter Try.func10, Try.ntmps10
  go_wp2
  all_goals go_end0
  all_goals go_wp2
  all_goals go_region
  all_goals go_wp2
  all_goals go_ret2
  all_goals exact ⟨by simp [*], ((Below.refl _ _).alloc (Nat.le_refl _) _).drew⟩

set_option maxHeartbeats 400000 in
theorem skip_none (oa : Option Addr) (n c : Nat) (m : Int) (bad : Bool) (w : World) (hmn : (n : Int) < m) (hm : n ≤ 1048576) :
    Calls Try.prog 10 #[.slice oa n c, .bool bad, .int .i64 m] w fun e w' =>
      e = .returned (.tuple #[.slice none 0 0, .bool true]) ∧ Below w.heap.size w w' := by
  go_enter Try.func10, Try.ntmps10
  go_wp2
  all_goals go_end0
  all_goals go_wp2
  refine bodyPost_ret (results_none rfl _ _ _) rfl ?_
  go_wp2
  go_region
  all_goals go_wp2
  all_goals go_ret2
  all_goals exact ⟨by simp [*], ((Below.refl _ _).alloc (Nat.le_refl _) _).drew⟩

set_option maxHeartbeats 400000 in
theorem same_any (b o b' o' n c c' : Nat) (x y : Option Addr) (z z' : Nat → Int) (w : World) (hn : n ≤ 1048576)
    (hx : 0 < n → x = some ⟨b, o, none⟩) (hy : 0 < n → y = some ⟨b', o', none⟩) (hc : ∀ i, i < n → w.cell? ⟨b, o + i, none⟩ = some (.int .u8 (z i)))
    (hc' : ∀ i, i < n → w.cell? ⟨b', o' + i, none⟩ = some (.int .u8 (z i))) :
    Calls Try.prog 11 #[.slice x n c, .slice y n c'] w fun e w' => e = .returned (.bool true) ∧ ∃ q, w' = w.drewN q := by
  go_enter Try.func11, Try.ntmps11
  go_wp2
  go_loopg [5] n (fun g i wr => ∃ k q : Nat, k ≤ n ∧ g = n - k ∧ i = .int .i64 k ∧ wr = w.drewN q)
  case atStart => exact ⟨0, 0, Nat.zero_le _, rfl, rfl, rfl⟩
  case round =>
    obtain ⟨k, q, hk, rfl, rfl, rfl⟩ := hrel
    by_cases hlt : k < n
    · obtain rfl := hx (by omega)
      obtain rfl := hy (by omega)
      have g1 := hc k hlt
      have g2 := hc' k hlt
      clear hc hc'
      go_wp2
      go_region
      all_goals go_wp2
      all_goals go_roundg (n - (k + 1))
      all_goals first | omega | exact ⟨k + 1, q + 1, by omega, rfl, by go_num, rfl⟩
    · go_wp2
      go_ret
      exact ⟨rfl, q, rfl⟩

theorem Since_below {B : Nat} {w w' : World} (h : w.Since B w') : Below B w w' := ⟨h.os, h.tape, h.output, h.size, h.block⟩

/-- WHAT THE WALK IS TOLD OF A SLICE OF INTEGERS THAT CAME IN (the shells' own words). -/
def IsRow (k : IntKind) (w : World) (a : Option Addr) (len cap : Nat) (zs : List Int) : Prop :=
  (a = none ∧ len = 0 ∧ cap = 0 ∧ zs = []) ∨
  ∃ x, a = some x ∧ len ≤ cap ∧ cap ≤ maxLen ∧ zs.length = cap ∧ (∀ i, i < zs.length → w.cell? (x.add i) = some (.int k (zs.getD i 0))) ∧ ∀ n ∈ zs, (Lit.int k n).wf = true

theorem cell_spot {w : World} {x : Addr} {v : Value} (h : w.cell? x = some v) : x = ⟨x.block, x.off, none⟩ := by
  cases x with
  | mk b o s =>
    cases s with
    | none => rfl
    | some s =>
      simp only [World.cell?] at h
      split at h <;> simp at h

theorem addr_add_none (b o i : Nat) : Addr.add ⟨b, o, none⟩ i = ⟨b, o + i, none⟩ := by simp [Addr.add_lit]

/-- The copy, whatever came in. -/
theorem copy_row (a : Option Addr) (n c : Nat) (zs : List Int) (w : World) (hn : n ≤ 1048576) (h : IsRow .u8 w a n c zs) :
    Calls Try.prog 7 #[.slice a n c] w fun e w' => ∃ a', e = .returned (.slice a' n n) ∧ (0 < n → a' = some ⟨w.heap.size, 0, none⟩) ∧ Below w.heap.size w w' ∧
      ∀ i, i < n → w'.cell? ⟨w.heap.size, i, none⟩ = some (.int .u8 (zs.getD i 0)) := by
  rcases h with ⟨rfl, rfl, rfl, rfl⟩ | ⟨x, rfl, hl, hm, hz, hc, _⟩
  · refine (copy_nil w).mono ?_
    rintro e w' ⟨rfl, rfl⟩
    exact ⟨none, rfl, fun h => absurd h (Nat.lt_irrefl _), Below.refl _ _, fun i hi => absurd hi (Nat.not_lt_zero _)⟩
  · have hx : 0 < n → x = ⟨x.block, x.off, none⟩ := fun h0 => by
      have := hc 0 (by omega)
      simp only [Addr.add_zero'] at this
      exact cell_spot this
    refine (copy_any x x.block x.off n c (fun i => zs.getD i 0) w hn hx ?_).mono ?_
    · intro i hi
      have h1 := hc i (by omega)
      rw [hx (by omega), addr_add_none] at h1
      exact h1
    · rintro e w' ⟨rfl, hO⟩
      refine ⟨_, rfl, fun _ => rfl, Since_below hO.since, fun i hi => ?_⟩
      have := hO.row.cell hi
      simpa [hi] using this

theorem byte_step (b o n c : Nat) (z : Int) (bad : Bool) (w : World) (hn : 0 < n) (hnc : n ≤ c) (hm : n ≤ 1048576) (hc : w.cell? ⟨b, o, none⟩ = some (.int .u8 z)) :
    Calls Try.prog 8 #[.slice (some ⟨b, o, none⟩) n c, .bool bad] w fun e w' =>
      ∃ oc, e = .returned (.tuple #[.int .u8 z, .slice (some oc) (n - 1) (c - 1), .bool bad]) ∧ (1 < c → oc = ⟨b, o + 1, none⟩) ∧ Below w.heap.size w w' := by
  refine (byte_some b o n c z bad w hn hnc hm hc).mono ?_
  rintro e w' ⟨rfl, h⟩
  by_cases h1 : c = 1
  · exact ⟨_, by rw [if_pos h1], fun h => by omega, h⟩
  · exact ⟨_, by rw [if_neg h1], fun _ => rfl, h⟩

theorem skip_step (oa : Option Addr) (n c m : Nat) (bad : Bool) (w : World) (hnc : n ≤ c) (hmn : m ≤ n) (hm : n ≤ 1048576) :
    Calls Try.prog 10 #[.slice oa n c, .bool bad, .int .i64 m] w fun e w' =>
      ∃ oc, e = .returned (.tuple #[.slice oc (n - m) (c - m), .bool bad]) ∧ (∀ b o, m < c → oa = some ⟨b, o, none⟩ → oc = some ⟨b, o + m, none⟩) ∧ oc.isNone = oa.isNone ∧ Below w.heap.size w w' := by
  refine (skip_some oa n c m bad w hnc hmn hm).mono ?_
  rintro e w' ⟨rfl, h⟩
  by_cases h1 : c = m
  · exact ⟨_, by rw [if_pos h1], fun _ _ h => by omega, rfl, h⟩
  · refine ⟨_, by rw [if_neg h1], fun b o _ he => ?_, by cases oa <;> rfl, h⟩
    subst he
    simp [Addr.add_lit]

#print axioms copy_row
#print axioms same_any
end Go.Proofs.Qxb6605520a
