import Derived.Test.Qxb6600624aCopy
import Derived.Test.Qxb6600624aComponents
set_option linter.unusedVariables false
set_option linter.unusedSimpArgs false
namespace Go.Proofs.Qxb6600624a
open Go.RowKit

/-- The graph that the rows say. -/
def adjOf (L : Nat → Nat) (Z : Nat → Nat → Int) (i : Nat) : List Nat := (List.range (L i)).map fun j => (Z i j).toNat
theorem adjOf_len (L : Nat → Nat) (Z : Nat → Nat → Int) (i : Nat) : (adjOf L Z i).length = L i := by simp [adjOf]
theorem adjOf_get (L : Nat → Nat) (Z : Nat → Nat → Int) (i j : Nat) (h : j < L i) : (adjOf L Z i).getD j 0 = (Z i j).toNat := by
  have hl : j < (adjOf L Z i).length := by rw [adjOf_len]; exact h
  rw [List.getD_eq_getElem?_getD, List.getElem?_eq_getElem hl]
  simp [adjOf]
theorem adjOf_lt {L : Nat → Nat} {Z : Nat → Nat → Int} {n i : Nat} (h : ∀ j, j < L i → 0 ≤ Z i j ∧ Z i j < n) : ∀ x ∈ adjOf L Z i, x < n := by
  intro x hx
  simp only [adjOf, List.mem_map, List.mem_range] at hx
  obtain ⟨j, hj, rfl⟩ := hx
  have := h j hj
  omega

theorem since_below {B : Nat} {w w' : World} (h : w.Since B w') : Below B w w' := ⟨h.os, h.tape, h.output, h.size, h.block⟩

def ptrOf : Value → Option Addr
  | .slice a _ _ => a
  | _ => none
def capOf : Value → Nat
  | .slice _ _ c => c
  | _ => 0
theorem succ_of {w w' : World} {n U : Nat} {L : Nat → Nat} {Z : Nat → Nat → Int} {V : Nat → Value} (h : CpO w w' n n U L Z V) (hL : ∀ i, i < n → L i ≤ 131072) (hZ : ∀ i, i < n → ∀ j, j < L i → 0 ≤ Z i j ∧ Z i j < n) :
    Succ w' n (adjOf L Z) w.heap.size 0 (fun i => ptrOf (V i)) (fun i => capOf (V i)) (fun i => ((ptrOf (V i)).getD ⟨0, 0, none⟩).block) (fun _ => 0) := by
  refine ⟨fun i hi => ?_, fun i hi j hj => ?_, fun i hi => adjOf_lt (hZ i hi), fun i hi => by rw [adjOf_len]; exact hL i hi⟩
  · have h1 := h.top.cell hi
    rw [if_pos hi] at h1
    obtain ⟨ao, c, hv, _⟩ := h.ok i hi
    rw [hv] at h1 ⊢
    rw [Nat.zero_add, adjOf_len]
    exact h1
  · rw [adjOf_len] at hj
    rw [adjOf_get _ _ _ _ hj]
    obtain ⟨ao, c, hv, h2⟩ := h.ok i hi
    rw [hv]
    rcases h2 with ⟨rfl, h0⟩ | ⟨b, rfl, _, _, hc⟩
    · omega
    · refine ⟨rfl, ?_⟩
      have h3 := hc j hj
      have := hZ i hi j hj
      simp only [ptrOf, Option.getD_some, Nat.zero_add]
      rw [show (((Z i j).toNat : Nat) : Int) = Z i j by omega]
      exact h3

section
variable {sb so : Nat} {A : Nat → Option Addr} {L C RB RO : Nat → Nat} {Z : Nat → Nat → Int}
theorem copy_nil (w : World) : Calls Try.prog 10 #[.slice none 0 0] w fun e w' => w' = w ∧ e = .returned (.slice none 0 0) := by
  have h1 := fun w => Lib.run_eql_slice_nil (P := Try.prog) w 22 27 none 0 0 0 0 Try.underlying22
  go_enter Try.func10, Try.ntmps10
  go_wp2_with fail
  go_ret
  exact ⟨rfl, rfl⟩
theorem copied (a : Option Addr) (n c : Nat) (w : World) (ha : 0 < n → a = some ⟨sb, so, none⟩) (h : Rws w n sb so A L C RB RO Z) (h0 : a = none → n = 0 ∧ c = 0) (hn : n ≤ 131072) (hL : ∀ i, i < n → L i ≤ 131072) (hA0 : ∀ i, i < n → A i = none → L i = 0) (hZ : ∀ i, i < n → ∀ j, j < L i → 0 ≤ Z i j ∧ Z i j < n) :
    Calls Try.prog 10 #[.slice a n c] w fun e w' => Below w.heap.size w w' ∧ ∃ a' c' sb' so' A' C' RB' RO', e = .returned (.slice a' n c') ∧ (0 < n → a' = some ⟨sb', so', none⟩) ∧ Succ w' n (adjOf L Z) sb' so' A' C' RB' RO' := by
  cases a with
  | none =>
    obtain ⟨rfl, rfl⟩ := h0 rfl
    refine (copy_nil w).mono ?_
    rintro e w' ⟨rfl, rfl⟩
    exact ⟨Below.refl _ _, none, 0, 0, 0, fun _ => none, fun _ => 0, fun _ => 0, fun _ => 0, rfl, fun h => absurd h (Nat.lt_irrefl _), ⟨fun i hi => absurd hi (Nat.not_lt_zero _), fun i hi => absurd hi (Nat.not_lt_zero _), fun i hi => absurd hi (Nat.not_lt_zero _), fun i hi => absurd hi (Nat.not_lt_zero _)⟩⟩
  | some x =>
    refine (copy_any x n c w (fun h => by have := ha h; simpa using this) h hn hL hA0).mono ?_
    rintro e w' ⟨rfl, U, V, hO⟩
    exact ⟨since_below hO.since, _, _, _, _, _, _, _, _, rfl, fun _ => rfl, succ_of hO hL hZ⟩
end
theorem comp11 (adj : Nat → List Nat) (n c : Nat) (a : Option Addr) (sb so : Nat) (A : Nat → Option Addr) (C RB RO : Nat → Nat) (I : Nat → TS → Prop) (w : World) (hn : n ≤ 131072) (ha : 0 < n → a = some ⟨sb, so, none⟩) (hS : Succ w n adj sb so A C RB RO) (hK : Keeps adj n I) :
    Calls Try.prog 11 #[.slice a n c] w fun e w' => e = .returned (.slice (some ⟨w.heap.size, 0, none⟩) n n) ∧ Below w.heap.size w w' ∧ ∃ T : TS, I n T ∧ T.segs = [] ∧ w'.rowIs w.heap.size 3 n (fun i => .int .i64 (T.comp i : Int)) := by
  go_enter Try.func11, Try.ntmps11
  go_wp2_with fail
  refine (components_any adj n c a sb so A C RB RO I w hn ha hS hK).mono ?_
  rintro e w' ⟨rfl, hb, hT⟩
  go_wp2_with fail
  go_ret
  exact ⟨rfl, hb, hT⟩
end Go.Proofs.Qxb6600624a
