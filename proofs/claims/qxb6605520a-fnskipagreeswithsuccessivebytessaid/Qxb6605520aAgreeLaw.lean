import Derived.Test.Qxb6605520aParts
import Derived.WalkSmall
set_option linter.unusedVariables false
set_option linter.unusedSimpArgs false
namespace Go.Proofs.Qxb6605520a
open Go.RowKit

theorem hEql4 (w : World) (a : Option Addr) (n c : Nat) : (binOp .eql 22 (.slice a n c) (.slice none 0 0)).run Try.prog w = .ok (.bool a.isNone) w :=
  Lib.run_eql_slice_nil (P := Try.prog) w 22 5 a n c 0 0 Try.underlying22

set_option maxHeartbeats 1000000 in
/-- m within b. -/
theorem agreeA (a : Option Addr) (n c m : Nat) (zs : List Int) (bad : Bool) (w : World) (hn : n ≤ 1048576) (h : IsRow .u8 w a n c zs) (hmn : m ≤ n) :
    Calls Try.prog 4 #[.slice a n c, .bool bad, .int .i64 m] w fun e w' => e = .returned (.bool true) ∧ Below w.heap.size w w' := by
  have hbad : (bad != bad) = false := by simp
  have hmz : (m : Int) ≤ (n : Int) := by omega
  go_enter Try.func4, Try.ntmps4
  go_wp2_with fail
  refine (bytes9 _ _ _ _ _ _ hn).mono ?_
  rintro e w' ⟨rfl, rfl⟩
  go_wp2_with fail
  refine (copy_row _ _ _ _ _ hn h).mono ?_
  rintro e w1 ⟨a', rfl, ha, hB, hc⟩
  clear h
  go_wp2_with fail
  have hlen : 0 < n → w'.heap.size < w1.heap.size := fun h => World.block_lt_of_cell? _ _ (hc 0 h)
  obtain ⟨bn, hbn⟩ : ∃ bn : Bool, a'.isNone = bn := ⟨_, rfl⟩
  go_loopg [8, 9, 10] m (fun g s8 s9 s10 wr => ∃ (k : Nat) (oc : Option Addr), k ≤ m ∧ g = m - k ∧ s10 = .int .i64 k ∧ s9 = .bool bad ∧ s8 = .slice oc (n - k) (n - k) ∧ (k < n → oc = some ⟨w'.heap.size, k, none⟩) ∧ oc.isNone = bn ∧
     Below w'.heap.size w' wr ∧ w1.heap.size ≤ wr.heap.size ∧ ∀ i, i < n → wr.cell? ⟨w'.heap.size, i, none⟩ = some (.int .u8 (zs.getD i 0)))
  case atStart => exact ⟨0, a', Nat.zero_le _, rfl, rfl, rfl, rfl, ha, hbn, hB, Nat.le_refl _, hc⟩
  case round =>
    obtain ⟨k, oc, hk, rfl, rfl, rfl, rfl, hoc, hocn, hBr, hsz, hcr⟩ := hrel
    by_cases hlt : k < m
    · obtain rfl := hoc (by omega)
      obtain rfl := ha (by omega)
      have hck := hcr k (by omega)
      have hl := hlen (by omega)
      have hkn : (k : Int) < (n : Int) := by omega
      have hkm : (k : Int) < (m : Int) := by omega
      go_wp2_with fail
      refine (byte_step _ _ (n - k) (n - k) _ bad _ (by omega) (by omega) (by omega) hck).mono ?_
      rintro e w2 ⟨oc, rfl, hoc2, hB2⟩
      have hck2 : w2.cell? ⟨w'.heap.size, k, none⟩ = some (.int .u8 (zs.getD k 0)) := by rw [hB2.cell (by show w'.heap.size < _; omega)]; exact hck
      have Hbn : Hid (false = bn) := hbn
      clear hc hck hoc hbn hocn
      go_wp2
      go_roundg (m - (k + 1))
      case measure => omega
      case rel => exact ⟨k + 1, some oc, by omega, rfl, by go_num, rfl, by rw [show n - (k + 1) = n - k - 1 by omega], fun h => by rw [hoc2 (by omega)], Hbn.out, hBr.trans (hB2.mono (by omega)), by have := hB2.size; omega,
          fun i hi => by rw [hB2.cell (by show w'.heap.size < _; omega)]; exact hcr i hi⟩
    · obtain rfl : k = m := by omega
      go_wp2_with fail
      refine (skip_step _ n n k _ _ (Nat.le_refl _) hmn hn).mono ?_
      rintro e w4 ⟨o3, rfl, ho3, hn3, hB4⟩
      rw [hbn] at hn3
      have hnn : (bn != bn) = false := by simp
      have hBB : Below w'.heap.size w' w4 := hBr.trans (hB4.mono hBr.size)
      have hc4 : ∀ i, i < n → w4.cell? ⟨w'.heap.size, i, none⟩ = some (.int .u8 (zs.getD i 0)) := fun i hi => by
        have hl := hlen (by omega)
        rw [hB4.cell (by show w'.heap.size < _; omega)]
        exact hcr i hi
      have p2 : 0 < n - k → oc = some ⟨w'.heap.size, k, none⟩ := fun h => hoc (by omega)
      have p3 : 0 < n - k → o3 = some ⟨w'.heap.size, k, none⟩ := fun h => by
        have := ho3 w'.heap.size 0 (by omega) (ha (by omega)); simpa using this
      have c2 : ∀ i, i < n - k → w4.cell? ⟨w'.heap.size, k + i, none⟩ = some (.int .u8 (zs.getD (k + i) 0)) := fun i hi => hc4 _ (by omega)
      have hlenz : (((n - k : Nat) : Int) != (n : Int) - (k : Int)) = false := by simp; omega
      have hq := hEql4
      clear ho3 hB hB4 hc hbn hoc
      go_wp2_with fail
      refine (same_any w'.heap.size k w'.heap.size k (n - k) _ _ _ _ (fun i => zs.getD (k + i) 0) (fun i => zs.getD (k + i) 0) _ (by omega) p3 p2 c2 c2).mono ?_
      rintro e w5 ⟨rfl, q, rfl⟩
      go_wp2
      clear hn3 hnn hocn hq
      go_loopg [16] (n - k) (fun g i wr => ∃ j q : Nat, j ≤ n - k ∧ g = n - k - j ∧ i = .int .i64 j ∧ wr = w4.drewN q)
      case atStart => exact ⟨0, q, Nat.zero_le _, rfl, rfl, rfl⟩
      case round =>
        obtain ⟨j, q, hj, rfl, rfl, rfl⟩ := hrel
        by_cases hlt : j < n - k
        · obtain rfl := p3 (by omega)
          obtain rfl := ha (by omega)
          have g1 := c2 j hlt
          clear hc4 c2 hcr p2
          go_wp2
          go_region
          all_goals go_wp2
          all_goals go_roundg (n - k - (j + 1))
          all_goals first | omega | exact ⟨j + 1, q + 1, by omega, rfl, by go_num, rfl⟩
        · go_wp2
          go_ret
          exact ⟨rfl, below_drewN hBB _⟩

/-- After k rounds on a b of n bytes: the rest and the flag as long as bytes are left; behind them nil and set. -/
def AgB (B n k : Nat) (bad : Bool) (s8 s9 : Value) : Prop :=
  (k ≤ n ∧ ∃ oc : Option Addr, s9 = .bool bad ∧ s8 = .slice oc (n - k) (n - k) ∧ (k < n → oc = some ⟨B, k, none⟩)) ∨ (k = n + 1 ∧ s8 = .slice none 0 0 ∧ s9 = .bool true)

set_option maxHeartbeats 1000000 in
/-- m beyond b. -/
theorem agreeB (a : Option Addr) (n c : Nat) (m : Int) (zs : List Int) (bad : Bool) (w : World) (hn : n ≤ 1048576) (h : IsRow .u8 w a n c zs) (hmn : (n : Int) < m) :
    Calls Try.prog 4 #[.slice a n c, .bool bad, .int .i64 m] w fun e w' => e = .returned (.bool true) ∧ Below w.heap.size w w' := by
  have hbad : (bad != bad) = false := by simp
  go_enter Try.func4, Try.ntmps4
  go_wp2_with fail
  refine (bytes9 _ _ _ _ _ _ hn).mono ?_
  rintro e w' ⟨rfl, rfl⟩
  go_wp2_with fail
  refine (copy_row _ _ _ _ _ hn h).mono ?_
  rintro e w1 ⟨a', rfl, ha, hB, hc⟩
  clear h
  have hlen : 0 < n → w'.heap.size < w1.heap.size := fun h => World.block_lt_of_cell? _ _ (hc 0 h)
  rcases (show m = (n : Int) + 1 ∨ (n : Int) + 1 < m by omega) with rfl | hm2
  all_goals
    go_wp2_with fail
    go_loopg [8, 9, 10] (n + 1) (fun g s8 s9 s10 wr => ∃ (k : Nat), g = n + 1 - k ∧ s10 = .int .i64 k ∧ AgB w'.heap.size n k bad s8 s9 ∧
       Below w'.heap.size w' wr ∧ w1.heap.size ≤ wr.heap.size ∧ ∀ i, i < n → wr.cell? ⟨w'.heap.size, i, none⟩ = some (.int .u8 (zs.getD i 0)))
    case atStart => exact ⟨0, rfl, rfl, .inl ⟨Nat.zero_le _, a', rfl, rfl, ha⟩, hB, Nat.le_refl _, hc⟩
    case round =>
      obtain ⟨k, rfl, rfl, hag, hBr, hsz, hcr⟩ := hrel
      rcases hag with ⟨hk, oc, rfl, rfl, hoc⟩ | ⟨rfl, rfl, rfl⟩
      · by_cases hlt : k < n
        · obtain rfl := hoc (by omega)
          obtain rfl := ha (by omega)
          have hck := hcr k (by omega)
          have hl := hlen (by omega)
          have hkn : (k : Int) < (n : Int) := by omega
          go_wp2_with fail
          refine (byte_step _ _ (n - k) (n - k) _ bad _ (by omega) (by omega) (by omega) hck).mono ?_
          rintro e w2 ⟨oc, rfl, hoc2, hB2⟩
          have hck2 : w2.cell? ⟨w'.heap.size, k, none⟩ = some (.int .u8 (zs.getD k 0)) := by rw [hB2.cell (by show w'.heap.size < _; omega)]; exact hck
          clear hc hck hoc
          go_wp2
          go_roundg (n + 1 - (k + 1))
          case measure => omega
          case rel => exact ⟨k + 1, rfl, by go_num, .inl ⟨by omega, some oc, rfl, by rw [show n - (k + 1) = n - k - 1 by omega], fun h => by rw [hoc2 (by omega)]⟩, hBr.trans (hB2.mono (by omega)), by have := hB2.size; omega,
              fun i hi => by rw [hB2.cell (by show w'.heap.size < _; omega)]; exact hcr i hi⟩
        · obtain rfl : k = n := by omega
          rw [Nat.sub_self k]
          go_wp2_with fail
          refine (byte_none _ _ _ _).mono ?_
          rintro e w2 ⟨rfl, hB2⟩
          clear hc hoc
          go_wp2
          go_roundg 0
          case measure => omega
          case rel => exact ⟨k + 1, by omega, by go_num, .inr ⟨rfl, rfl, rfl⟩, hBr.trans (hB2.mono hBr.size), by have := hB2.size; omega,
              fun i hi => by rw [hB2.cell (by show w'.heap.size < _; have := hlen (by omega); omega)]; exact hcr i hi⟩
      · have hnk : ((n + 1 : Nat) : Int) = (n : Int) + 1 := by omega
        rw [hnk]
        clear hnk
        have hq := hEql4
        go_wp2_with fail
        refine (skip_none _ n n _ _ _ (by omega) hn).mono ?_
        rintro e w4 ⟨rfl, hB4⟩
        have hBB : Below w'.heap.size w' w4 := hBr.trans (hB4.mono hBr.size)
        clear hB hB4 hc ha hcr
        go_wp2_with fail
        refine (same_any 0 0 0 0 0 _ _ _ _ (fun i => 0) (fun i => 0) _ (by omega) (fun h => absurd h (Nat.lt_irrefl _)) (fun h => absurd h (Nat.lt_irrefl _)) (fun i hi => absurd hi (Nat.not_lt_zero _)) (fun i hi => absurd hi (Nat.not_lt_zero _))).mono ?_
        rintro e w5 ⟨rfl, q, rfl⟩
        go_wp2
        go_ret
        exact ⟨rfl, below_drewN hBB _⟩

theorem agree_long (a : Option Addr) (n c : Nat) (m : Int) (bad : Bool) (w : World) (hn : 1048576 < n) :
    Calls Try.prog 4 #[.slice a n c, .bool bad, .int .i64 m] w fun e w' => e = .returned (.bool true) ∧ Below w.heap.size w w' := by
  go_enter Try.func4, Try.ntmps4
  go_wp2_with fail
  refine (bytes9_no _ _ _ _ _ _ hn).mono ?_
  rintro e w' ⟨rfl, rfl⟩
  go_wp2
  go_ret
  exact ⟨rfl, Below.refl _ _⟩

theorem agree_out (a : Option Addr) (n c : Nat) (m : Int) (bad : Bool) (w : World) (hn : n ≤ 1048576) (hm : m < 0) :
    Calls Try.prog 4 #[.slice a n c, .bool bad, .int .i64 m] w fun e w' => e = .returned (.bool true) ∧ Below w.heap.size w w' := by
  go_enter Try.func4, Try.ntmps4
  go_wp2_with fail
  refine (bytes9 _ _ _ _ _ _ hn).mono ?_
  rintro e w' ⟨rfl, rfl⟩
  go_wp2
  go_ret
  exact ⟨rfl, Below.refl _ _⟩

theorem agreeLaw (a : Option Addr) (n c : Nat) (m : Int) (zs : List Int) (bad : Bool) (w : World) (h : IsRow .u8 w a n c zs) :
    Calls Try.prog 4 #[.slice a n c, .bool bad, .int .i64 m] w fun e w' => e = .returned (.bool true) ∧ Below w.heap.size w w' := by
  by_cases hn : n ≤ 1048576
  · by_cases h0 : m < 0
    · exact agree_out a n c m bad w hn h0
    · by_cases h1 : m ≤ n
      · obtain ⟨m', rfl⟩ := Int.eq_ofNat_of_zero_le (show 0 ≤ m by omega)
        exact agreeA a n c m' zs bad w hn h (by omega)
      · exact agreeB a n c m zs bad w hn h (by omega)
  · exact agree_long a n c m bad w (by omega)
end Go.Proofs.Qxb6605520a
