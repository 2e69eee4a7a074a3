import Derived.Test.Qxb6600624aSuccOf
import Derived.Test.Qxb6600624aKeep8
import Derived.Test.Qxb6600624aModel
set_option linter.unusedVariables false
set_option linter.unusedSimpArgs false
namespace Go.Proofs.Qxb6600624a
open Go.RowKit
section
variable {sb so : Nat} {A : Nat → Option Addr} {L C RB RO : Nat → Nat} {Z : Nat → Nat → Int}
set_option maxHeartbeats 1000000 in
theorem bytes7 (a : Option Addr) (n c : Nat) (w : World) (ha : 0 < n → a = some ⟨sb, so, none⟩) (h : Rws w n sb so A L C RB RO Z) (hn : n ≤ 9223372036854775807) :
    Calls Try.prog 7 #[.slice a n c] w fun e w' => w' = w ∧ ∃ r : Bool, e = .returned (.bool r) := by
  go_enter Try.func7, Try.ntmps7
  go_wp2
  · go_ret
    exact ⟨rfl, _, rfl⟩
  · go_loopg [3, 4] n (fun g s3 s4 wr => wr = w ∧ ∃ (i : Nat) (z : Int), i ≤ n ∧ g = n - i ∧ s4 = .int .i64 (i : Int) ∧ s3 = .int .i64 z ∧ 0 ≤ z ∧ z ≤ 1048576)
    case atStart => exact ⟨rfl, 0, n, by omega, rfl, rfl, rfl, by omega, by omega⟩
    case round =>
      obtain ⟨rfl, i, z, hi, rfl, rfl, rfl, hz0, hz1⟩ := hrel
      by_cases hlt : i < n
      · obtain rfl := ha (by omega)
        have g1 := h.row i hlt
        have hl := h.len i hlt
        clear h ha
        go_wp2
        · go_ret
          exact ⟨rfl, _, rfl⟩
        · go_ret
          exact ⟨rfl, _, rfl⟩
        · go_roundg (n - (i + 1))
          case measure => omega
          case rel => exact ⟨rfl, i + 1, _, by omega, rfl, by go_num, rfl, by omega, by omega⟩
      · go_wp2
        go_ret
        exact ⟨rfl, _, rfl⟩

end

set_option maxHeartbeats 4000000 in
theorem law3 (a : Option Addr) (n c : Nat) (w : World) (hR : IsRows w a n c) : Calls Try.prog 3 #[.slice a n c] w fun e w' => e = .returned (.bool true) ∧ Below w.heap.size w w' := by
  obtain ⟨sb, so, A, L, C, RB, RO, Z, ha, hW, hn, hnil, hA0⟩ := rws_of hR
  go_enter Try.func3, Try.ntmps3
  go_wp2_with fail
  refine (bytes7 a n c w ha hW hn).mono ?_
  rintro e w' ⟨rfl, r, rfl⟩
  cases r with
  | false =>
    go_wp2_with fail
    go_ret
    exact ⟨rfl, Below.refl _ _⟩
  | true =>
    go_wp2_with fail
    refine (nested8 a n c w' ha hW hn).mono ?_
    rintro e w2 ⟨rfl, t, rfl, ht⟩
    by_cases ht0 : t < 0
    · go_wp2_with fail
      go_ret
      exact ⟨rfl, Below.refl _ _⟩
    · obtain ⟨hn, hL⟩ := ht (by omega)
      clear ht
      by_cases hn4 : 4096 < n
      · have hn4z : (4096 : Int) < (n : Int) := by omega
        go_wp2_with fail
        go_ret
        exact ⟨rfl, Below.refl _ _⟩
      · have hn4z : ¬ (4096 : Int) < (n : Int) := by omega
        go_wp2_with fail
        refine (targets9 a n c w2 ha hW hn hL).mono ?_
        rintro e w3 ⟨rfl, r, rfl, hr⟩
        cases r with
        | false =>
          go_wp2_with fail
          go_ret
          exact ⟨rfl, Below.refl _ _⟩
        | true =>
          have hZ := hr rfl
          clear hr
          go_wp2_with fail
          refine (copied a n c w3 ha hW hnil hn hL hA0 hZ).mono ?_
          rintro e w4 ⟨hB4, a', c', sb', so', A', C', RB', RO', rfl, ha', hS⟩
          clear hW ha hnil hL hA0 hZ hR
          generalize hadj : adjOf L Z = adj at hS
          clear hadj
          go_wp2_with fail
          refine (comp11 adj n c' a' sb' so' A' C' RB' RO' (I8 adj n) w4 hn ha' hS (keeps8 adj n hS.lt)).mono ?_
          rintro e w5 ⟨rfl, hB5, T, hI, hseg, hcomp⟩
          have hF := fin8 hS.lt hI hseg
          generalize T.comp = f at hcomp hF
          generalize T.ds = d0 at hF
          clear hI hseg T
          have hS5 := hS.later hB5
          have hBw : Below w3.heap.size w3 w5 := hB4.trans (hB5.mono hB4.size)
          have hHlt := hcomp.lt
          generalize w4.heap.size = H at hcomp hHlt ⊢
          clear hS hB4 hB5 w4
          go_wp2_with fail
          refine (model_any adj n c' a' sb' so' A' C' RB' RO' f d0 w5 (by omega) ha' hS5 hF).mono ?_
          rintro e w6 ⟨B, rfl, hB6, hwant⟩
          have HC : Hid (∀ i, i < n → w6.cell? ⟨H, i, none⟩ = some (.int .i64 (f i : Int))) := fun i hi => (hcomp.of_block (hB6.block H hHlt)).cell hi
          have HW : Hid (∀ i, i < n → w6.cell? ⟨B, i, none⟩ = some (.int .i64 (f i : Int))) := fun i hi => hwant.cell hi
          have hBe : Below w3.heap.size w3 w6 := hBw.trans (hB6.mono hBw.size)
          clear hwant hcomp hB6 hBw hS5 hF ha'
          go_wp2_with fail
          go_loopg [6] n (fun g s6 wi => ∃ q i : Nat, wi = w6.drewN q ∧ i ≤ n ∧ g = n - i ∧ s6 = .int .i64 (i : Int))
          case atStart => exact ⟨0, 0, rfl, by omega, rfl, rfl⟩
          case round =>
            obtain ⟨q, i, rfl, hi, rfl, rfl⟩ := hrel
            by_cases hlt : i < n
            · have hiz : (i : Int) < (n : Int) := by omega
              have g1 := HC.out i hlt
              have g2 := HW.out i hlt
              have hne : ((f i : Int) != (f i : Int)) = false := by simp
              go_wp2_with fail
              go_quiet (fail)
              go_wp2_with fail
              go_roundg (n - (i + 1))
              case measure => omega
              case rel => exact ⟨_, i + 1, rfl, by omega, rfl, by go_num⟩
            · obtain rfl : i = n := by omega
              go_wp2_with fail
              go_ret
              exact ⟨rfl, hBe.trans ⟨rfl, rfl, rfl, Nat.le_refl _, fun _ _ => rfl⟩⟩
end Go.Proofs.Qxb6600624a
