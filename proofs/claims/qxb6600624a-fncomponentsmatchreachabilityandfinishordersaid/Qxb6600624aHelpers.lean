import Derived.Test.Qxb6600624aStart
set_option linter.unusedVariables false
set_option linter.unusedSimpArgs false
namespace Go.Proofs.Qxb6600624a
open Go.RowKit

/-- A [][]int in memory. -/
structure Rws (w : World) (n : Nat) (sb so : Nat) (A : Nat → Option Addr) (L C RB RO : Nat → Nat) (Z : Nat → Nat → Int) : Prop where
  row : ∀ i, i < n → w.cell? ⟨sb, so + i, none⟩ = some (.slice (A i) (L i) (C i))
  cell : ∀ i, i < n → ∀ j, j < L i → A i = some ⟨RB i, RO i, none⟩ ∧ w.cell? ⟨RB i, RO i + j, none⟩ = some (.int .i64 (Z i j))
  len : ∀ i, i < n → L i ≤ 9223372036854775807
  wf : ∀ i, i < n → ∀ j, j < L i → -9223372036854775808 ≤ Z i j ∧ Z i j ≤ 9223372036854775807

theorem cell_spot {w : World} {x : Addr} {v : Value} (h : w.cell? x = some v) : x = ⟨x.block, x.off, none⟩ := by
  cases x with
  | mk b o s =>
    cases s with
    | none => rfl
    | some s =>
      simp only [World.cell?] at h
      split at h <;> simp at h
theorem addr_add_none (b o i : Nat) : Addr.add ⟨b, o, none⟩ i = ⟨b, o + i, none⟩ := by simp [Addr.add_lit]

theorem rws_of {w : World} {a : Option Addr} {n c : Nat} (h : IsRows w a n c) : ∃ sb so A L C RB RO Z, (0 < n → a = some ⟨sb, so, none⟩) ∧ Rws w n sb so A L C RB RO Z ∧ n ≤ 9223372036854775807 ∧ (a = none → n = 0 ∧ c = 0) ∧ (∀ i, i < n → A i = none → L i = 0) := by
  rcases h with ⟨rfl, rfl, rfl⟩ | ⟨x, A, L, C, Z, rfl, hl, hm, hr⟩
  · exact ⟨0, 0, fun _ => none, fun _ => 0, fun _ => 0, fun _ => 0, fun _ => 0, fun _ _ => 0, fun h => absurd h (Nat.lt_irrefl _), ⟨fun i hi => absurd hi (Nat.not_lt_zero _), fun i hi => absurd hi (Nat.not_lt_zero _), fun i hi => absurd hi (Nat.not_lt_zero _), fun i hi => absurd hi (Nat.not_lt_zero _)⟩, by omega, fun _ => ⟨rfl, rfl⟩, fun i hi => absurd hi (Nat.not_lt_zero _)⟩
  · have hx : 0 < n → x = ⟨x.block, x.off, none⟩ := fun h0 => by
      have := (hr 0 (by omega)).1
      simp only [Addr.add_zero'] at this
      exact cell_spot this
    refine ⟨x.block, x.off, A, L, C, fun i => ((A i).getD ⟨0, 0, none⟩).block, fun i => ((A i).getD ⟨0, 0, none⟩).off, fun i j => (Z i).getD j 0, fun h => by rw [← hx h], ⟨fun i hi => ?_, fun i hi j hj => ?_, fun i hi => ?_, fun i hi j hj => ?_⟩, by unfold maxLen at hm; omega, (fun h => by cases h), fun i hi hA => by obtain ⟨h1, h2, h3, h4, h5, h6, h7⟩ := hr i (by omega); have := h6 hA; omega⟩
    · have h1 := (hr i (by omega)).1
      rw [hx (by omega), addr_add_none] at h1
      exact h1
    · obtain ⟨h1, h2, h3, h4, h5, h6, h7⟩ := hr i (by omega)
      cases hA : A i with
      | none => have := h6 hA; omega
      | some a' =>
        have hc := h7 a' hA
        have ha' : a' = ⟨a'.block, a'.off, none⟩ := by
          have := hc 0 (by omega)
          simp only [Addr.add_zero'] at this
          exact cell_spot this
        have hcj := hc j (by omega)
        rw [ha', addr_add_none] at hcj
        exact ⟨by show some a' = some ⟨a'.block, a'.off, none⟩; rw [← ha'], hcj⟩
    · obtain ⟨h1, h2, h3, h4, h5, h6, h7⟩ := hr i (by omega)
      unfold maxLen at h3; omega
    · obtain ⟨h1, h2, h3, h4, h5, h6, h7⟩ := hr i (by omega)
      have hlt : j < (Z i).length := by omega
      have hw := h5 (Z i)[j] (List.getElem_mem hlt)
      simp [Lit.wf, IntKind.min, IntKind.max, IntKind.signed, IntKind.bits] at hw
      simp [List.getD, List.getElem?_eq_getElem hlt]
      omega

section
variable {sb so : Nat} {A : Nat → Option Addr} {L C RB RO : Nat → Nat} {Z : Nat → Nat → Int}

set_option maxHeartbeats 1000000 in
theorem bytes13 (a : Option Addr) (n c : Nat) (w : World) (ha : 0 < n → a = some ⟨sb, so, none⟩) (h : Rws w n sb so A L C RB RO Z) (hn : n ≤ 9223372036854775807) :
    Calls Try.prog 13 #[.slice a n c] w fun e w' => w' = w ∧ ∃ r : Bool, e = .returned (.bool r) := by
  go_enter Try.func13, Try.ntmps13
  go_wp2
  · go_ret
    exact ⟨rfl, _, rfl⟩
  · go_loopg [3, 4] n (fun g s3 s4 wr => wr = w ∧ ∃ (i : Nat) (z : Int), i ≤ n ∧ g = n - i ∧ s4 = .int .i64 (i : Int) ∧ s3 = .int .i64 z ∧ 0 ≤ z ∧ z ≤ 1048576)
    case atStart => exact ⟨rfl, 0, n, by omega, rfl, rfl, rfl, by omega, by omega⟩
    case round =>
      obtain ⟨rfl, i, z, hi, rfl, rfl, rfl, hz0, hz1⟩ := hrel
      by_cases hlt : i < n
      · obtain rfl := ha (by omega)
        have g1 := h.row i hlt
        have hl := h.len i hlt
        clear h ha
        go_wp2
        · go_ret
          exact ⟨rfl, _, rfl⟩
        · go_ret
          exact ⟨rfl, _, rfl⟩
        · go_roundg (n - (i + 1))
          case measure => omega
          case rel => exact ⟨rfl, i + 1, _, by omega, rfl, by go_num, rfl, by omega, by omega⟩
      · go_wp2
        go_ret
        exact ⟨rfl, _, rfl⟩

set_option maxHeartbeats 1000000 in
theorem nested8 (a : Option Addr) (n c : Nat) (w : World) (ha : 0 < n → a = some ⟨sb, so, none⟩) (h : Rws w n sb so A L C RB RO Z) (hn : n ≤ 9223372036854775807) :
    Calls Try.prog 8 #[.slice a n c] w fun e w' => w' = w ∧ ∃ t : Int, e = .returned (.int .i64 t) ∧ (0 ≤ t → n ≤ 131072 ∧ ∀ i, i < n → L i ≤ 131072) := by
  go_enter Try.func8, Try.ntmps8
  go_wp2
  · go_ret
    exact ⟨rfl, _, rfl, fun h => by omega⟩
  · go_loopg [3, 4] n (fun g s3 s4 wr => wr = w ∧ ∃ (i : Nat) (z : Int), i ≤ n ∧ g = n - i ∧ s4 = .int .i64 (i : Int) ∧ s3 = .int .i64 z ∧ 0 ≤ z ∧ z ≤ 1048576 ∧ Hid (∀ j, j < i → L j ≤ 131072))
    case atStart => exact ⟨rfl, 0, 8 * n, by omega, rfl, rfl, rfl, by omega, by omega, fun j h => absurd h (Nat.not_lt_zero _)⟩
    case round =>
      obtain ⟨rfl, i, z, hi, rfl, rfl, rfl, hz0, hz1, HL⟩ := hrel
      by_cases hlt : i < n
      · obtain rfl := ha (by omega)
        have g1 := h.row i hlt
        have hl := h.len i hlt
        clear h ha
        go_wp2
        · go_ret
          exact ⟨rfl, _, rfl, fun h => by omega⟩
        · go_ret
          exact ⟨rfl, _, rfl, fun h => by omega⟩
        · go_roundg (n - (i + 1))
          case measure => omega
          case rel => exact ⟨rfl, i + 1, _, by omega, rfl, by go_num, rfl, by omega, by omega, fun j hj => by
              by_cases e : j = i
              · subst e; omega
              · exact HL.out j (by omega)⟩
      · obtain rfl : i = n := by omega
        go_wp2
        go_ret
        exact ⟨rfl, _, rfl, fun _ => ⟨by omega, HL.out⟩⟩

set_option maxHeartbeats 1000000 in
theorem targets9 (a : Option Addr) (n c : Nat) (w : World) (ha : 0 < n → a = some ⟨sb, so, none⟩) (h : Rws w n sb so A L C RB RO Z) (hn : n ≤ 131072) (hL : ∀ i, i < n → L i ≤ 131072) :
    Calls Try.prog 9 #[.slice a n c, .int .i64 (n : Int)] w fun e w' => w' = w ∧ ∃ r : Bool, e = .returned (.bool r) ∧ (r = true → ∀ i, i < n → ∀ j, j < L i → 0 ≤ Z i j ∧ Z i j < n) := by
  go_enter Try.func9, Try.ntmps9
  go_wp2
  go_loopg [5] n (fun g s5 wr => wr = w ∧ ∃ i : Nat, i ≤ n ∧ g = n - i ∧ s5 = .int .i64 (i : Int) ∧ Hid (∀ i', i' < i → ∀ j, j < L i' → 0 ≤ Z i' j ∧ Z i' j < n))
  case atStart => exact ⟨rfl, 0, by omega, rfl, rfl, fun i' h => absurd h (Nat.not_lt_zero _)⟩
  case round =>
    obtain ⟨rfl, i, hi, rfl, rfl, HQ⟩ := hrel
    by_cases hlt : i < n
    · obtain rfl := ha (by omega)
      have g1 := h.row i hlt
      have hl := hL i hlt
      have Hc : Hid (∀ j, j < L i → A i = some ⟨RB i, RO i, none⟩ ∧ wr.cell? ⟨RB i, RO i + j, none⟩ = some (.int .i64 (Z i j))) := h.cell i hlt
      have Hw : Hid (∀ j, j < L i → -9223372036854775808 ≤ Z i j ∧ Z i j ≤ 9223372036854775807) := h.wf i hlt
      have hiz : (i : Int) < (n : Int) := by omega
      clear h ha hL
      go_wp2_with fail
      go_loopg [6] (L i) (fun g s6 wi => wi = wr ∧ ∃ j : Nat, j ≤ L i ∧ g = L i - j ∧ s6 = .int .i64 (j : Int) ∧ Hid (∀ j', j' < j → 0 ≤ Z i j' ∧ Z i j' < n))
      case atStart => exact ⟨rfl, 0, by omega, rfl, rfl, fun t h => absurd h (Nat.not_lt_zero _)⟩
      case round =>
        obtain ⟨rfl, j, hj, rfl, rfl, HT⟩ := hrel
        by_cases hlt2 : j < L i
        · have hc := Hc.out j hlt2
          have hw := Hw.out j hlt2
          have hjz : (j : Int) < (L i : Int) := by omega
          rw [hc.1] at g1
          have g2 := hc.2
          clear hc
          rcases (show Z i j < 0 ∨ (0 ≤ Z i j ∧ (n : Int) ≤ Z i j) ∨ (0 ≤ Z i j ∧ Z i j < (n : Int)) by omega) with hb | ⟨hb1, hb2⟩ | ⟨hb1, hb2⟩
          · go_wp2_with fail
            all_goals go_ret
            all_goals exact ⟨rfl, false, rfl, fun h => by cases h⟩
          · go_wp2_with fail
            all_goals go_ret
            all_goals exact ⟨rfl, false, rfl, fun h => by cases h⟩
          · go_wp2_with fail
            go_roundg (L i - (j + 1))
            case measure => omega
            case rel =>
              refine ⟨rfl, j + 1, by omega, rfl, by go_num, fun j' h1 => ?_⟩
              by_cases e : j' = j
              · subst e; exact ⟨hb1, hb2⟩
              · exact HT.out j' (by omega)
        · obtain rfl : j = L i := by omega
          go_wp2_with fail
          go_roundg (n - (i + 1))
          case measure => omega
          case rel =>
            refine ⟨rfl, i + 1, by omega, rfl, by go_num, fun i' h1 j h2 => ?_⟩
            by_cases e : i' = i
            · subst e; exact HT.out j h2
            · exact HQ.out i' (by omega) j h2
    · obtain rfl : i = n := by omega
      go_wp2
      go_ret
      exact ⟨rfl, true, rfl, fun _ => HQ.out⟩
end
end Go.Proofs.Qxb6600624a
