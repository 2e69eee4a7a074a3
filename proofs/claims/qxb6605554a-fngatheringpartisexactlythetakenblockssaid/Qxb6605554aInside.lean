import Derived.Test.Qxb6605554aU64
import Derived.Test.Qxb6605554aGPlain
set_option linter.unusedVariables false
set_option linter.unusedSimpArgs false
namespace Go.Proofs.Qxb6605554a
open Go.RowKit

set_option maxHeartbeats 1000000 in
theorem inside (W : Int) (a : Option Addr) (b o n c : Nat) (z : Nat → Int) (w : World) (hn : n ≤ 131072) (ha : 0 < n → a = some ⟨b, o, none⟩) (hc : ∀ i, i < n → w.cell? ⟨b, o + i, none⟩ = some (.int .u64 (z i)))
    (hz : ∀ i, i < n → 0 ≤ z i ∧ z i < 18446744073709551616) :
    Calls Try.prog 14 #[.int .i64 W, .slice a n c] w fun e w' => w' = w ∧ ∃ r : Bool, e = .returned (.bool r) ∧ (r = true → ∀ q t : Nat, q < n → t < 64 → z q / 2 ^ t % 2 = 1 → 64 * ((q : Int) * 64 + t) < W) := by
  go_enter Try.func14, Try.ntmps14
  go_wp2
  go_loopg [5] n (fun g s5 wr => wr = w ∧ ∃ q : Nat, q ≤ n ∧ g = n - q ∧ s5 = .int .i64 q ∧ Hid (∀ q' t : Nat, q' < q → t < 64 → z q' / 2 ^ t % 2 = 1 → 64 * ((q' : Int) * 64 + t) < W))
  case atStart => exact ⟨rfl, 0, by omega, rfl, rfl, fun q' t h => absurd h (Nat.not_lt_zero _)⟩
  case round =>
    obtain ⟨rfl, q, hq, rfl, rfl, HQ⟩ := hrel
    by_cases hlt : q < n
    · obtain rfl := ha (by omega)
      have g1 := hc q hlt
      have Hz : Hid (0 ≤ z q ∧ z q < 18446744073709551616) := hz q hlt
      clear hc ha hz
      go_wp2
      go_loopg [6] 64 (fun g s6 wi => wi = wr ∧ ∃ t : Nat, t ≤ 64 ∧ g = 64 - t ∧ s6 = .int .i64 t ∧ Hid (∀ t', t' < t → z q / 2 ^ t' % 2 = 1 → 64 * ((q : Int) * 64 + t') < W))
      case atStart => exact ⟨rfl, 0, by omega, rfl, rfl, fun t h => absurd h (Nat.not_lt_zero _)⟩
      case round =>
        obtain ⟨rfl, t, ht, rfl, rfl, HT⟩ := hrel
        by_cases hlt2 : t < 64
        · have HB : Hid (bits .and .u64 (z q / 2 ^ t) 1 = z q / 2 ^ t % 2) := and64_shr _ _ Hz.out.1 Hz.out.2
          go_wp2
          · go_ret
            exact ⟨rfl, false, rfl, fun h => by cases h⟩
          · go_roundg (64 - (t + 1))
            case measure => omega
            case rel =>
              refine ⟨rfl, t + 1, by omega, rfl, by go_num, fun t' h1 h2 => ?_⟩
              by_cases e : t' = t
              · subst e
                have : ((q : Int) * 64 + t') * 64 < W := by assumption
                omega
              · exact HT.out t' (by omega) h2
          · go_roundg (64 - (t + 1))
            case measure => omega
            case rel =>
              refine ⟨rfl, t + 1, by omega, rfl, by go_num, fun t' h1 h2 => ?_⟩
              by_cases e : t' = t
              · subst e
                have hne : ¬ bits .and .u64 (z q / 2 ^ t') 1 = 1 := by assumption
                rw [HB.out] at hne
                exact absurd h2 hne
              · exact HT.out t' (by omega) h2
        · obtain rfl : t = 64 := by omega
          go_wp2
          go_roundg (n - (q + 1))
          case measure => omega
          case rel =>
            refine ⟨rfl, q + 1, by omega, rfl, by go_num, fun q' t h1 h2 h3 => ?_⟩
            by_cases e : q' = q
            · subst e
              exact HT.out t h2 h3
            · exact HQ.out q' t (by omega) h2 h3
    · obtain rfl : q = n := by omega
      go_wp2
      go_ret
      exact ⟨rfl, true, rfl, fun _ => HQ.out⟩
end Go.Proofs.Qxb6605554a
