import Derived.Test.Qxb6605554aGatherMain
set_option linter.unusedVariables false
set_option linter.unusedSimpArgs false
namespace Go.Proofs.Qxb6605554a
open Go.RowKit

set_option maxHeartbeats 1000000 in
set_option maxRecDepth 100000 in
theorem gatherAll (W : Int) (a : Option Addr) (n c : Nat) (x y u v : Int) (zs : List Int) (w : World) (hn : n ≤ 131072) (h : IsRow .u64 w a n c zs) :
    Calls Try.prog 5 #[.int .i64 W, .slice a n c, .int .i64 x, .int .i64 y, .int .i64 u, .int .i64 v, .bool true] w fun e w' => e = .returned (.bool true) ∧ Below w.heap.size w w' := by
  have hn2 : n ≤ 1048576 := by omega
  have hne : (W != W) = false := by simp
  go_enter Try.func5, Try.ntmps5
  go_wp2_with fail
  refine (bytes13 _ _ _ _ _ _ _ _ _ _ hn2).mono ?_
  rintro e w' ⟨rfl, rfl⟩
  go_wp2_with fail
  refine (clone64 _ _ _ _ _ hn2 h).mono ?_
  rintro e w2 ⟨a1, rfl, hr1, hB1, hl1⟩
  go_wp2_with fail
  refine (clone64 _ _ _ _ _ hn2 hr1).mono ?_
  rintro e w3 ⟨a2, rfl, hr2, hB2, -⟩
  go_wp2_with fail
  refine (zz_all W a2 n n x y u v _).mono ?_
  rintro e w4 ⟨rfl, hB3⟩
  have hBB : Below w'.heap.size w' w4 := (hB1.trans (hB2.mono hB1.size)).trans (hB3.mono (by have := hB1.size; have := hB2.size; omega))
  clear hr1 hr2 hB1 hB2 hB3 h hl1
  go_wp2_with fail
  go_ret
  exact ⟨rfl, hBB⟩

set_option maxHeartbeats 1000000 in
set_option maxRecDepth 100000 in
theorem gather_out (W : Int) (a : Option Addr) (n c : Nat) (x y u v : Int) (l : Bool) (w : World) (hn : 131072 < n) :
    Calls Try.prog 5 #[.int .i64 W, .slice a n c, .int .i64 x, .int .i64 y, .int .i64 u, .int .i64 v, .bool l] w fun e w' => e = .returned (.bool true) ∧ Below w.heap.size w w' := by
  by_cases h : n ≤ 1048576
  · go_enter Try.func5, Try.ntmps5
    go_wp2_with fail
    refine (bytes13 _ _ _ _ _ _ _ _ _ _ h).mono ?_
    rintro e w' ⟨rfl, rfl⟩
    go_wp2
    go_ret
    exact ⟨rfl, Below.refl _ _⟩
  · go_enter Try.func5, Try.ntmps5
    go_wp2_with fail
    refine (bytes13_no _ _ _ _ _ _ _ _ _ _ (by omega)).mono ?_
    rintro e w' ⟨rfl, rfl⟩
    go_wp2
    go_ret
    exact ⟨rfl, Below.refl _ _⟩

theorem gatherLaw (W : Int) (a : Option Addr) (n c : Nat) (x y u v : Int) (l : Bool) (zs : List Int) (w : World) (h : IsRow .u64 w a n c zs) (hW : -9223372036854775808 ≤ W) (hW2 : W ≤ 9223372036854775807) :
    Calls Try.prog 5 #[.int .i64 W, .slice a n c, .int .i64 x, .int .i64 y, .int .i64 u, .int .i64 v, .bool l] w fun e w' => e = .returned (.bool true) ∧ Below w.heap.size w w' := by
  by_cases hn : n ≤ 131072
  · cases l with
    | false => exact gatherMain W a n c x y u v zs w hn h hW hW2
    | true => exact gatherAll W a n c x y u v zs w hn h
  · exact gather_out W a n c x y u v l w (by omega)
end Go.Proofs.Qxb6605554a
