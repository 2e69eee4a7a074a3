import Derived.Test.Qxb6605520aParts
set_option linter.unusedVariables false
set_option linter.unusedSimpArgs false
namespace Go.Proofs.Qxb6605520a
open Go.RowKit
set_option maxHeartbeats 1000000 in
theorem byteLaw (a : Option Addr) (n c : Nat) (zs : List Int) (bad : Bool) (w : World) (hn : n ≤ 1048576) (h : IsRow .u8 w a n c zs) :
    Calls Try.prog 3 #[.slice a n c, .bool bad] w fun e w' => e = .returned (.bool true) ∧ Below w.heap.size w w' := by
  have hq1 := fun w => run_neq_slice_nil_any (P := Try.prog) w 22 5 none 0 0 0 0 Try.underlying22
  have hq2 := fun w => Lib.run_eql_slice_nil (P := Try.prog) w 22 5 none 0 0 0 0 Try.underlying22
  go_enter Try.func3, Try.ntmps3
  go_wp2_with fail
  refine (bytes6 _ _ _ _ _ hn).mono ?_
  rintro e w' ⟨rfl, rfl⟩
  go_wp2_with fail
  refine (copy_row _ _ _ _ _ hn h).mono ?_
  rintro e w1 ⟨a', rfl, ha, hB, hc⟩
  go_wp2_with fail
  have hbad : (bad == bad) = true := by simp
  have hbad' : (bad != bad) = false := by simp
  have hlen : 0 < n → w'.heap.size < w1.heap.size := fun h => World.block_lt_of_cell? _ _ (hc 0 h)
  clear h
  go_loopg [5, 6, 7] n (fun g s5 s6 s7 wr => ∃ (k : Nat) (oc : Option Addr), k ≤ n ∧ g = n - k ∧ s7 = .int .i64 k ∧ s6 = .bool bad ∧ s5 = .slice oc (n - k) (n - k) ∧ (k < n → oc = some ⟨w'.heap.size, k, none⟩) ∧
     Below w'.heap.size w' wr ∧ w1.heap.size ≤ wr.heap.size ∧ ∀ i, i < n → wr.cell? ⟨w'.heap.size, i, none⟩ = some (.int .u8 (zs.getD i 0)))
  case atStart => exact ⟨0, a', Nat.zero_le _, rfl, rfl, rfl, rfl, ha, hB, Nat.le_refl _, hc⟩
  case round =>
    obtain ⟨k, oc, hk, rfl, rfl, rfl, rfl, hoc, hBr, hsz, hcr⟩ := hrel
    by_cases hlt : k < n
    · obtain rfl := hoc hlt
      obtain rfl := ha (by omega)
      have hck := hcr k hlt
      have hl := hlen (by omega)
      go_wp2_with fail
      refine (byte_step _ _ (n - k) (n - k) _ bad _ (by omega) (by omega) (by omega) hck).mono ?_
      rintro e w2 ⟨oc, rfl, hoc2, hB2⟩
      have hck2 : w2.cell? ⟨w'.heap.size, k, none⟩ = some (.int .u8 (zs.getD k 0)) := by rw [hB2.cell (by show w'.heap.size < _; omega)]; exact hck
      have Hcr := hcr
      clear hcr hc hck hoc hq1 hq2
      go_wp2
      go_roundg (n - (k + 1))
      case measure => omega
      case rel => exact ⟨k + 1, some oc, by omega, rfl, by go_num, rfl, by rw [show n - (k + 1) = n - k - 1 by omega], fun h => by rw [hoc2 (by omega)], hBr.trans (hB2.mono (by omega)), by have := hB2.size; omega,
          fun i hi => by rw [hB2.cell (by show w'.heap.size < _; omega)]; exact Hcr i hi⟩
    · obtain rfl : k = n := by omega
      have e0 : k - k = 0 := by omega
      rw [e0]
      clear e0
      go_wp2_with fail
      refine (byte_none _ _ _ _).mono ?_
      rintro e w2 ⟨rfl, hB2⟩
      go_wp2_with fail
      refine (byte_none _ _ _ _).mono ?_
      rintro e w3 ⟨rfl, hB3⟩
      go_wp2
      go_ret
      exact ⟨rfl, (hBr.trans (hB2.mono hBr.size)).trans (hB3.mono (Nat.le_trans hBr.size hB2.size))⟩

theorem byteLaw_long (a : Option Addr) (n c : Nat) (bad : Bool) (w : World) (hn : 1048576 < n) :
    Calls Try.prog 3 #[.slice a n c, .bool bad] w fun e w' => e = .returned (.bool true) ∧ Below w.heap.size w w' := by
  go_enter Try.func3, Try.ntmps3
  go_wp2_with fail
  refine (bytes6_no _ _ _ _ _ hn).mono ?_
  rintro e w' ⟨rfl, rfl⟩
  go_wp2
  go_ret
  exact ⟨rfl, Below.refl _ _⟩
end Go.Proofs.Qxb6605520a
