import Derived.Test.Qxb6605520aParts
import Derived.WalkSmall
set_option linter.unusedVariables false
set_option linter.unusedSimpArgs false
namespace Go.Proofs.Qxb6605520a
open Go.RowKit

/-- A skip on the nil rest of a failed decoder: it stays nil, the flag stays set. -/
theorem skip_nil (k : Int) (w : World) (hk : 0 ≤ k) :
    Calls Try.prog 10 #[.slice none 0 0, .bool true, .int .i64 k] w fun e w' => e = .returned (.tuple #[.slice none 0 0, .bool true]) ∧ Below w.heap.size w w' := by
  by_cases h : k = 0
  · subst h
    refine (skip_some none 0 0 0 true w (Nat.le_refl _) (Nat.le_refl _) (by omega)).mono ?_
    rintro e w' ⟨rfl, hb⟩
    exact ⟨by simp, hb⟩
  · exact skip_none none 0 0 k true w (by omega) (by omega)

theorem hEql (w : World) (a : Option Addr) (n c : Nat) : (binOp .eql 22 (.slice a n c) (.slice none 0 0)).run Try.prog w = .ok (.bool a.isNone) w :=
  Lib.run_eql_slice_nil (P := Try.prog) w 22 5 a n c 0 0 Try.underlying22

set_option maxHeartbeats 1000000 in
/-- m + k within b. -/
theorem compA (a : Option Addr) (n c m k : Nat) (zs : List Int) (bad : Bool) (w : World) (hn : n ≤ 1048576) (h : IsRow .u8 w a n c zs) (hmk : m + k ≤ n) :
    Calls Try.prog 5 #[.slice a n c, .bool bad, .int .i64 m, .int .i64 k] w fun e w' => e = .returned (.bool true) ∧ Below w.heap.size w w' := by
  have hq := hEql
  have hbad : (bad != bad) = false := by simp
  go_enter Try.func5, Try.ntmps5
  go_wp2_with fail
  refine (bytes12 _ _ _ _ _ _ _ hn).mono ?_
  rintro e w' ⟨rfl, rfl⟩
  go_wp2_with fail
  refine (copy_row _ _ _ _ _ hn h).mono ?_
  rintro e w1 ⟨a', rfl, ha, hB, hc⟩
  clear h
  go_wp2_with fail
  refine (skip_step _ n n m _ _ (Nat.le_refl _) (by omega) hn).mono ?_
  rintro e w2 ⟨o1, rfl, ho1, hn1, hB2⟩
  go_wp2_with fail
  refine (skip_step _ (n - m) (n - m) k _ _ (Nat.le_refl _) (by omega) (by omega)).mono ?_
  rintro e w3 ⟨o2, rfl, ho2, hn2, hB3⟩
  go_wp2_with fail
  rw [show ((m : Int) + (k : Int)) = ((m + k : Nat) : Int) from by omega]
  refine (skip_step _ n n (m + k) _ _ (Nat.le_refl _) hmk hn).mono ?_
  rintro e w4 ⟨o3, rfl, ho3, hn3, hB4⟩
  rw [show n - (m + k) = n - m - k from by omega]
  obtain ⟨bn, hbn⟩ : ∃ bn : Bool, a'.isNone = bn := ⟨_, rfl⟩
  have hnn : (bn != bn) = false := by simp
  rw [hbn] at hn3 hn1
  rw [hn1] at hn2
  clear hn1 hbn
  have hs2 : w1.heap.size ≤ w2.heap.size := hB2.size
  have hs3 : w2.heap.size ≤ w3.heap.size := hB3.size
  have hs4 : w3.heap.size ≤ w4.heap.size := hB4.size
  have hBB : Below w'.heap.size w' w4 := ((hB.trans (hB2.mono hB.size)).trans (hB3.mono (by have := hB.size; omega))).trans (hB4.mono (by have := hB.size; omega))
  have hc4 : ∀ i, i < n → w4.cell? ⟨w'.heap.size, i, none⟩ = some (.int .u8 (zs.getD i 0)) := fun i hi => by
    have hl : w'.heap.size < w1.heap.size := World.block_lt_of_cell? _ _ (hc i hi)
    rw [hB4.cell (by show w'.heap.size < _; omega), hB3.cell (by show w'.heap.size < _; omega), hB2.cell (by show w'.heap.size < _; omega)]
    exact hc i hi
  have p1 : 0 < n - m - k → o1 = some ⟨w'.heap.size, m, none⟩ := fun h => by
    have := ho1 w'.heap.size 0 (by omega) (ha (by omega)); simpa using this
  have p2 : 0 < n - m - k → o2 = some ⟨w'.heap.size, m + k, none⟩ := fun h => ho2 _ _ (by omega) (p1 h)
  have p3 : 0 < n - m - k → o3 = some ⟨w'.heap.size, m + k, none⟩ := fun h => by
    have := ho3 w'.heap.size 0 (by omega) (ha (by omega)); simpa using this
  have c2 : ∀ i, i < n - m - k → w4.cell? ⟨w'.heap.size, m + k + i, none⟩ = some (.int .u8 (zs.getD (m + k + i) 0)) := fun i hi => hc4 _ (by omega)
  have hlen : (((n - m - k : Nat) : Int) != (n : Int) - (m : Int) - (k : Int)) = false := by simp; omega
  have hmkz : (m : Int) + (k : Int) ≤ (n : Int) := by omega
  clear ho1 ho2 ho3 hB hB2 hB3 hB4 hc
  go_wp2_with fail
  refine (same_any w'.heap.size (m + k) w'.heap.size (m + k) (n - m - k) _ _ _ _ (fun i => zs.getD (m + k + i) 0) (fun i => zs.getD (m + k + i) 0) _ (by omega) p2 p3 c2 c2).mono ?_
  rintro e w5 ⟨rfl, q, rfl⟩
  go_wp2
  clear hn2 hn3 hnn
  go_loopg [16] (n - m - k) (fun g i wr => ∃ j q : Nat, j ≤ n - m - k ∧ g = n - m - k - j ∧ i = .int .i64 j ∧ wr = w4.drewN q)
  case atStart => exact ⟨0, q, Nat.zero_le _, rfl, rfl, rfl⟩
  case round =>
    obtain ⟨j, q, hj, rfl, rfl, rfl⟩ := hrel
    by_cases hlt : j < n - m - k
    · obtain rfl := p3 (by omega)
      obtain rfl := ha (by omega)
      have g1 := c2 j hlt
      clear hc4 c2
      go_wp2
      go_region
      all_goals go_wp2
      all_goals go_roundg (n - m - k - (j + 1))
      all_goals first | omega | exact ⟨j + 1, q + 1, by omega, rfl, by go_num, rfl⟩
    · go_wp2
      go_ret
      exact ⟨rfl, below_drewN hBB _⟩

set_option maxHeartbeats 1000000 in
/-- m within b, m + k beyond. -/
theorem compB (a : Option Addr) (n c m : Nat) (k : Int) (zs : List Int) (bad : Bool) (w : World) (hn : n ≤ 1048576) (h : IsRow .u8 w a n c zs) (hm : m ≤ n) (hk : 0 ≤ k) (hk2 : k ≤ 9223372036854775807 - m) (hmk : (n : Int) < m + k) :
    Calls Try.prog 5 #[.slice a n c, .bool bad, .int .i64 m, .int .i64 k] w fun e w' => e = .returned (.bool true) ∧ Below w.heap.size w w' := by
  have hq := hEql
  go_enter Try.func5, Try.ntmps5
  go_wp2_with fail
  refine (bytes12 _ _ _ _ _ _ _ hn).mono ?_
  rintro e w' ⟨rfl, rfl⟩
  go_wp2_with fail
  refine (copy_row _ _ _ _ _ hn h).mono ?_
  rintro e w1 ⟨a', rfl, ha, hB, hc⟩
  clear h
  go_wp2_with fail
  refine (skip_step _ n n m _ _ (Nat.le_refl _) (by omega) hn).mono ?_
  rintro e w2 ⟨o1, rfl, ho1, hn1, hB2⟩
  go_wp2_with fail
  refine (skip_none _ (n - m) (n - m) k _ _ (by omega) (by omega)).mono ?_
  rintro e w3 ⟨rfl, hB3⟩
  go_wp2_with fail
  refine (skip_none _ n n _ _ _ hmk hn).mono ?_
  rintro e w4 ⟨rfl, hB4⟩
  have hBB : Below w'.heap.size w' w4 := ((hB.trans (hB2.mono hB.size)).trans (hB3.mono (by have := hB.size; have := hB2.size; omega))).trans (hB4.mono (by have := hB.size; have := hB2.size; have := hB3.size; omega))
  clear ho1 hB hB2 hB3 hB4 hc hn1 ha
  go_wp2_with fail
  refine (same_any 0 0 0 0 0 _ _ _ _ (fun i => 0) (fun i => 0) _ (by omega) (fun h => absurd h (Nat.lt_irrefl _)) (fun h => absurd h (Nat.lt_irrefl _)) (fun i hi => absurd hi (Nat.not_lt_zero _)) (fun i hi => absurd hi (Nat.not_lt_zero _))).mono ?_
  rintro e w5 ⟨rfl, q, rfl⟩
  go_wp2
  go_ret
  exact ⟨rfl, below_drewN hBB _⟩

set_option maxHeartbeats 1000000 in
/-- m beyond b. -/
theorem compC (a : Option Addr) (n c : Nat) (m k : Int) (zs : List Int) (bad : Bool) (w : World) (hn : n ≤ 1048576) (h : IsRow .u8 w a n c zs) (hm : (n : Int) < m) (hk : 0 ≤ k) (hk2 : k ≤ 9223372036854775807 - m) :
    Calls Try.prog 5 #[.slice a n c, .bool bad, .int .i64 m, .int .i64 k] w fun e w' => e = .returned (.bool true) ∧ Below w.heap.size w w' := by
  have hq := hEql
  go_enter Try.func5, Try.ntmps5
  go_wp2_with fail
  refine (bytes12 _ _ _ _ _ _ _ hn).mono ?_
  rintro e w' ⟨rfl, rfl⟩
  go_wp2_with fail
  refine (copy_row _ _ _ _ _ hn h).mono ?_
  rintro e w1 ⟨a', rfl, ha, hB, hc⟩
  clear h
  go_wp2_with fail
  refine (skip_none _ n n m _ _ hm hn).mono ?_
  rintro e w2 ⟨rfl, hB2⟩
  go_wp2_with fail
  refine (skip_nil k _ hk).mono ?_
  rintro e w3 ⟨rfl, hB3⟩
  go_wp2_with fail
  refine (skip_none _ n n _ _ _ (by omega) hn).mono ?_
  rintro e w4 ⟨rfl, hB4⟩
  have hBB : Below w'.heap.size w' w4 := ((hB.trans (hB2.mono hB.size)).trans (hB3.mono (by have := hB.size; have := hB2.size; omega))).trans (hB4.mono (by have := hB.size; have := hB2.size; have := hB3.size; omega))
  clear hB hB2 hB3 hB4 hc ha
  go_wp2_with fail
  refine (same_any 0 0 0 0 0 _ _ _ _ (fun i => 0) (fun i => 0) _ (by omega) (fun h => absurd h (Nat.lt_irrefl _)) (fun h => absurd h (Nat.lt_irrefl _)) (fun i hi => absurd hi (Nat.not_lt_zero _)) (fun i hi => absurd hi (Nat.not_lt_zero _))).mono ?_
  rintro e w5 ⟨rfl, q, rfl⟩
  go_wp2
  go_ret
  exact ⟨rfl, below_drewN hBB _⟩

theorem comp_long (a : Option Addr) (n c : Nat) (m k : Int) (bad : Bool) (w : World) (hn : 1048576 < n) :
    Calls Try.prog 5 #[.slice a n c, .bool bad, .int .i64 m, .int .i64 k] w fun e w' => e = .returned (.bool true) ∧ Below w.heap.size w w' := by
  go_enter Try.func5, Try.ntmps5
  go_wp2_with fail
  refine (bytes12_no _ _ _ _ _ _ _ hn).mono ?_
  rintro e w' ⟨rfl, rfl⟩
  go_wp2
  go_ret
  exact ⟨rfl, Below.refl _ _⟩

theorem comp_out (a : Option Addr) (n c : Nat) (m k : Int) (bad : Bool) (w : World) (hn : n ≤ 1048576) (hk63 : k ≤ 9223372036854775807) (h : m < 0 ∨ k < 0 ∨ (0 ≤ k ∧ 9223372036854775807 - k < m)) :
    Calls Try.prog 5 #[.slice a n c, .bool bad, .int .i64 m, .int .i64 k] w fun e w' => e = .returned (.bool true) ∧ Below w.heap.size w w' := by
  by_cases hm : m < 0
  · clear h
    go_enter Try.func5, Try.ntmps5
    go_wp2_with fail
    refine (bytes12 _ _ _ _ _ _ _ hn).mono ?_
    rintro e w' ⟨rfl, rfl⟩
    go_wp2
    all_goals
      go_ret
      exact ⟨rfl, Below.refl _ _⟩
  · by_cases hk : k < 0
    · clear h
      go_enter Try.func5, Try.ntmps5
      go_wp2_with fail
      refine (bytes12 _ _ _ _ _ _ _ hn).mono ?_
      rintro e w' ⟨rfl, rfl⟩
      go_wp2
      all_goals
        go_ret
        exact ⟨rfl, Below.refl _ _⟩
    · have h1 : 9223372036854775807 - k < m := by omega
      have hk0 : 0 ≤ k := by omega
      have hm0 : 0 ≤ m := by omega
      clear h
      go_enter Try.func5, Try.ntmps5
      go_wp2_with fail
      refine (bytes12 _ _ _ _ _ _ _ hn).mono ?_
      rintro e w' ⟨rfl, rfl⟩
      go_wp2
      all_goals
        go_ret
        exact ⟨rfl, Below.refl _ _⟩

theorem compLaw (a : Option Addr) (n c : Nat) (m k : Int) (zs : List Int) (bad : Bool) (w : World) (h : IsRow .u8 w a n c zs) (hk63 : k ≤ 9223372036854775807) :
    Calls Try.prog 5 #[.slice a n c, .bool bad, .int .i64 m, .int .i64 k] w fun e w' => e = .returned (.bool true) ∧ Below w.heap.size w w' := by
  by_cases hn : n ≤ 1048576
  · by_cases ho : m < 0 ∨ k < 0 ∨ (0 ≤ k ∧ 9223372036854775807 - k < m)
    · exact comp_out a n c m k bad w hn hk63 ho
    · by_cases h1 : m + k ≤ n
      · obtain ⟨m', rfl⟩ := Int.eq_ofNat_of_zero_le (show 0 ≤ m by omega)
        obtain ⟨k', rfl⟩ := Int.eq_ofNat_of_zero_le (show 0 ≤ k by omega)
        exact compA a n c m' k' zs bad w hn h (by omega)
      · by_cases h2 : m ≤ n
        · obtain ⟨m', rfl⟩ := Int.eq_ofNat_of_zero_le (show 0 ≤ m by omega)
          exact compB a n c m' k zs bad w hn h (by omega) (by omega) (by omega) (by omega)
        · exact compC a n c m k zs bad w hn h (by omega) (by omega) (by omega)
  · exact comp_long a n c m k bad w (by omega)
end Go.Proofs.Qxb6605520a
