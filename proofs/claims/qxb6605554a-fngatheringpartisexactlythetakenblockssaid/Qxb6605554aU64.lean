import Derived.Test.Qxb6605554aParts
import Derived.Deep.AppendLies
import Derived.Deep.DeepCutAuto
set_option linter.unusedVariables false
set_option linter.unusedSimpArgs false
namespace Go.Proofs.Qxb6605554a
open Go.RowKit
theorem copy_nil64 (w : World) :
    Calls Try.prog 15 #[.slice none 0 0] w fun e w' => e = .returned (.slice none 0 0) ∧ w' = w := by
  go_enter Try.func15, Try.ntmps15
  have h1 := fun w => Lib.run_eql_slice_nil (P := Try.prog) w 30 37 none 0 0 0 0 Try.underlying30
  go_wp2
  go_ret
  exact ⟨rfl, rfl⟩
theorem Try.info37 : (Try.prog.info? 37).map (fun i => (i.zero, i.size, i.bytes)) = some (some (.int .u64 0), 1, 8) := by kernel_rfl

/-- The copy: one new block of n cells. -/
structure CopyAt64 (w wr : World) (n k : Nat) (z : Nat → Int) : Prop where
  since : w.Since w.heap.size wr
  size : wr.heap.size = w.heap.size + 1
  row : wr.rowIs w.heap.size 37 n (fun i => if i < k then .int .u64 (z i) else .int .u64 0)

theorem copy_start64 (w : World) (n : Nat) (z : Nat → Int) : CopyAt64 w (w.alloc (.cells (madeCells #[.int .u64 0] n) 37)) n 0 z :=
  ⟨(World.Since.refl _ _).alloc (Nat.le_refl _) _, by simp, (World.rowIs_made w _ n 37).congr (fun j _ => by simp)⟩
theorem copy_step64 {w wr : World} {n k : Nat} {z : Nat → Int} (h : CopyAt64 w wr n k z) :
    CopyAt64 w (wr.setCell ⟨w.heap.size, k, none⟩ (.int .u64 (z k))) n (k + 1) z := by
  refine ⟨h.since.setCell (Nat.le_refl _) _, by simp [h.size], (h.row.set k _).congr (fun i _ => ?_)⟩
  by_cases e : i = k
  · subst e; simp
  · rw [if_neg e]
    by_cases hlt : i < k
    · rw [if_pos hlt, if_pos (by omega)]
    · rw [if_neg hlt, if_neg (by omega)]

set_option maxHeartbeats 400000 in
theorem copy_any64 (x : Addr) (b o n c : Nat) (z : Nat → Int) (w : World) (hn : n ≤ 1048576) (hx : 0 < n → x = ⟨b, o, none⟩) (hc : ∀ i, i < n → w.cell? ⟨b, o + i, none⟩ = some (.int .u64 (z i))) :
    Calls Try.prog 15 #[.slice (some x) n c] w fun e w' => e = .returned (.slice (some ⟨w.heap.size, 0, none⟩) n n) ∧ CopyAt64 w w' n n z := by
  have h1 := fun w => Lib.run_eql_slice_nil (P := Try.prog) w 30 37 (some x) n c 0 0 Try.underlying30
  have hmk := run_make_row' (P := Try.prog) 30 37 (.int .u64 0) 8 Try.underlying30 Try.info37 rfl .i64 .i64 n (by omega) (by omega)
  go_enter Try.func15, Try.ntmps15
  go_wp2
  go_loopg [4] n (fun g i wr => ∃ k : Nat, k ≤ n ∧ g = n - k ∧ i = .int .i64 k ∧ CopyAt64 w wr n k z)
  case atStart => exact ⟨0, Nat.zero_le _, rfl, rfl, copy_start64 w n z⟩
  case round =>
    obtain ⟨k, hk, rfl, rfl, hO⟩ := hrel
    clear h1 hmk
    by_cases hlt : k < n
    · obtain rfl := hx (by omega)
      have g1 : wr.cell? ⟨b, o + k, none⟩ = some (.int .u64 (z k)) := by
        rw [hO.since.cell (a := ⟨b, o + k, none⟩) (World.block_lt_of_cell? _ _ (hc k hlt))]; exact hc k hlt
      have g2 : wr.cell? ⟨w.heap.size, k, none⟩ = some (.int .u64 0) := by simpa using hO.row.cell hlt
      have g3 : wr.frozen? ⟨w.heap.size, k, none⟩ = false := hO.row.frozen k
      clear hc
      go_wp2
      go_roundg (n - (k + 1))
      case measure => omega
      case rel => exact ⟨k + 1, by omega, rfl, by go_num, copy_step64 hO⟩
    · obtain rfl : k = n := by omega
      go_wp2
      go_ret
      exact ⟨rfl, hO⟩

/-- A clone of a []uint64, whatever came in. -/
theorem clone64 (a : Option Addr) (n c : Nat) (zs : List Int) (w : World) (hn : n ≤ 1048576) (h : IsRow .u64 w a n c zs) :
    Calls Try.prog 15 #[.slice a n c] w fun e w' => ∃ a', e = .returned (.slice a' n n) ∧ IsRow .u64 w' a' n n (zs.take n) ∧ Below w.heap.size w w' ∧ (zs.take n).length = n := by
  rcases h with ⟨rfl, rfl, rfl, rfl⟩ | ⟨x, rfl, hl, hm, hz, hc, hwf⟩
  · refine (copy_nil64 w).mono ?_
    rintro e w' ⟨rfl, rfl⟩
    exact ⟨none, rfl, .inl ⟨rfl, rfl, rfl, rfl⟩, Below.refl _ _, rfl⟩
  · have hx : 0 < n → x = ⟨x.block, x.off, none⟩ := fun h0 => by
      have := hc 0 (by omega)
      simp only [Addr.add_zero'] at this
      exact cell_spot this
    refine (copy_any64 x x.block x.off n c (fun i => zs.getD i 0) w hn hx ?_).mono ?_
    · intro i hi
      have h1 := hc i (by omega)
      rw [hx (by omega), addr_add_none] at h1
      exact h1
    · rintro e w' ⟨rfl, hO⟩
      have hrow : w'.rowIs w.heap.size 37 n (fun i => .int .u64 (zs.getD i 0)) := hO.row.congr (fun i hi => by rw [if_pos hi])
      have hlen : (zs.take n).length = n := by simp; omega
      refine ⟨_, rfl, .inr ⟨_, rfl, Nat.le_refl _, by unfold maxLen; omega, hlen, fun i hi => ?_, fun m hm => hwf m (List.mem_of_mem_take hm)⟩, Since_below hO.since, hlen⟩
      rw [addr_add_none, Nat.zero_add, hrow.cell (by omega)]
      rw [hlen] at hi
      simp [List.getElem?_take, hi]
end Go.Proofs.Qxb6605554a
