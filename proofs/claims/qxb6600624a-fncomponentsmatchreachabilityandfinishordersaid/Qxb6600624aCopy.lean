import Derived.Test.Qxb6600624aHelpers
set_option linter.unusedVariables false
set_option linter.unusedSimpArgs false
namespace Go.Proofs.Qxb6600624a
open Go.RowKit
theorem Try.info27 : (Try.prog.info? 27).map (fun i => (i.zero, i.size, i.bytes)) = some (some (.slice none 0 0), 1, 24) := by kernel_rfl

/-- One row of the copy: nil, or a block between H and U. -/
def RowOk (H U : Nat) (wr : World) (v : Value) (l : Nat) (z : Nat → Int) : Prop :=
  ∃ ao c, v = .slice ao l c ∧ ((ao = none ∧ l = 0) ∨ ∃ b, ao = some ⟨b, 0, none⟩ ∧ H < b ∧ b < U ∧ ∀ j, j < l → wr.cell? ⟨b, j, none⟩ = some (.int .i64 (z j)))
theorem RowOk.keep {H U U' : Nat} {wr w' : World} {v : Value} {l : Nat} {z : Nat → Int} (h : RowOk H U wr v l z) (hs : U ≤ U') (hb : ∀ k, H < k → k < U → w'.heap[k]? = wr.heap[k]?) : RowOk H U' w' v l z := by
  obtain ⟨ao, c, rfl, h1⟩ := h
  refine ⟨ao, c, rfl, ?_⟩
  rcases h1 with h1 | ⟨b, rfl, h2, h3, h4⟩
  · exact .inl h1
  · refine .inr ⟨b, rfl, h2, by omega, fun j hj => ?_⟩
    rw [World.cell?_of_block (hb b h2 h3)]
    exact h4 j hj

/-- The copy, k rows made, in blocks below U. -/
structure CpO (w wr : World) (n k U : Nat) (L : Nat → Nat) (Z : Nat → Nat → Int) (V : Nat → Value) : Prop where
  since : w.Since w.heap.size wr
  lo : w.heap.size + 1 ≤ U
  hi : U ≤ wr.heap.size
  top : wr.rowIs w.heap.size 27 n (fun i => if i < k then V i else .slice none 0 0)
  ok : ∀ i, i < k → RowOk w.heap.size U wr (V i) (L i) (Z i)
section
variable {w wr : World} {n k j U b : Nat} {L : Nat → Nat} {Z : Nat → Nat → Int} {V : Nat → Value}
theorem cpO_start (w : World) (n : Nat) (L : Nat → Nat) (Z : Nat → Nat → Int) : CpO w (w.alloc (.cells (madeCells #[.slice none 0 0] n) 27)) n 0 (w.heap.size + 1) L Z (fun _ => .slice none 0 0) :=
  ⟨(World.Since.refl _ _).alloc (Nat.le_refl _) _, Nat.le_refl _, by simp, (World.rowIs_made w _ n 27).congr (fun j _ => by simp), fun i h => absurd h (Nat.not_lt_zero _)⟩
theorem CpO.alloc (h : CpO w wr n k U L Z V) (o : Obj) : CpO w (wr.alloc o) n k U L Z V :=
  ⟨h.since.alloc (by have := h.lo; have := h.hi; omega) _, h.lo, by have := h.hi; simp; omega, h.top.alloc _, fun i hi => (h.ok i hi).keep (Nat.le_refl _) (fun q _ hq => Go.Deep.blk_alloc_lt _ _ _ (by have := h.hi; omega))⟩
theorem CpO.store (h : CpO w wr n k U L Z V) (hb : U ≤ b) (j : Nat) (v : Value) : CpO w (wr.setCell ⟨b, j, none⟩ v) n k U L Z V :=
  ⟨h.since.setCell (by show w.heap.size ≤ b; have := h.lo; omega) _, h.lo, by rw [Go.Deep.nblk_setCell]; exact h.hi, h.top.setOther (by show w.heap.size ≠ b; have := h.lo; omega) _,
    fun i hi => (h.ok i hi).keep (Nat.le_refl _) (fun q _ hq => Go.Deep.blk_setCell_other _ _ _ _ (by show q ≠ b; omega))⟩
/-- Row k is laid: a new block. -/
theorem CpO.lay (h : CpO w wr n k U L Z V) (hb1 : U ≤ b) (hb2 : b < wr.heap.size) (hrow : wr.rowIs b 3 (L k) (fun i => .int .i64 (Z k i))) :
    CpO w (wr.setCell ⟨w.heap.size, k, none⟩ (.slice (some ⟨b, 0, none⟩) (L k) (L k))) n (k + 1) (b + 1) L Z (fun i => if i = k then .slice (some ⟨b, 0, none⟩) (L k) (L k) else V i) := by
  have hbk : ∀ q, w.heap.size < q → (wr.setCell ⟨w.heap.size, k, none⟩ (.slice (some ⟨b, 0, none⟩) (L k) (L k))).heap[q]? = wr.heap[q]? := fun q hq => Go.Deep.blk_setCell_other _ _ _ _ (by show q ≠ w.heap.size; omega)
  refine ⟨h.since.setCell (Nat.le_refl _) _, by have := h.lo; omega, by rw [Go.Deep.nblk_setCell]; omega, (h.top.set k _).congr (fun i _ => ?_), fun i hi => ?_⟩
  · by_cases e : i = k
    · subst e; simp
    · by_cases hlt : i < k
      · simp [e, hlt, show i < k + 1 by omega]
      · simp [e, hlt, show ¬ i < k + 1 by omega]
  · by_cases e : i = k
    · subst e
      simp only [if_true]
      exact ⟨_, _, rfl, .inr ⟨b, rfl, by have := h.lo; omega, by omega, fun j hj => by rw [World.cell?_of_block (hbk b (by have := h.lo; omega))]; exact hrow.cell hj⟩⟩
    · simp only [if_neg e]
      exact (h.ok i (by omega)).keep (by omega) (fun q hq _ => hbk q hq)
/-- Row k is nil. -/
theorem CpO.none (h : CpO w wr n k U L Z V) (hl : L k = 0) : CpO w wr n (k + 1) U L Z (fun i => if i = k then .slice none 0 0 else V i) := by
  refine ⟨h.since, h.lo, h.hi, h.top.congr (fun i _ => ?_), fun i hi => ?_⟩
  · by_cases e : i = k
    · subst e; simp
    · by_cases hlt : i < k
      · simp [e, hlt, show i < k + 1 by omega]
      · simp [e, hlt, show ¬ i < k + 1 by omega]
  · by_cases e : i = k
    · subst e
      simp only [if_true]
      exact ⟨_, _, by rw [hl], .inl ⟨rfl, hl⟩⟩
    · simp only [if_neg e]
      exact h.ok i (by omega)
end

section
variable {sb so : Nat} {A : Nat → Option Addr} {L C RB RO : Nat → Nat} {Z : Nat → Nat → Int}
set_option maxHeartbeats 2000000 in
theorem copy_any (x : Addr) (n c : Nat) (w : World) (ha : 0 < n → x = ⟨sb, so, none⟩) (h : Rws w n sb so A L C RB RO Z) (hn : n ≤ 131072) (hL : ∀ i, i < n → L i ≤ 131072) (hA0 : ∀ i, i < n → A i = none → L i = 0) :
    Calls Try.prog 10 #[.slice (some x) n c] w fun e w' => e = .returned (.slice (some ⟨w.heap.size, 0, none⟩) n n) ∧ ∃ U V, CpO w w' n n U L Z V := by
  have h1 := fun w => Lib.run_eql_slice_nil (P := Try.prog) w 22 27 (some x) n c 0 0 Try.underlying22
  have hmk := run_make_row' (P := Try.prog) 22 27 (.slice none 0 0) 24 Try.underlying22 Try.info27 rfl .i64 .i64 n (by omega) (by omega)
  go_enter Try.func10, Try.ntmps10
  go_wp2_with fail
  go_loopg [4] n (fun g s4 wr => ∃ (k U : Nat) (V : Nat → Value), k ≤ n ∧ g = n - k ∧ s4 = .int .i64 (k : Int) ∧ CpO w wr n k U L Z V)
  case atStart => exact ⟨0, _, _, by omega, rfl, rfl, cpO_start w n L Z⟩
  case round =>
    obtain ⟨k, U, V, hk, rfl, rfl, hO⟩ := hrel
    clear h1 hmk
    by_cases hlt : k < n
    · obtain rfl := ha (by omega)
      have hkz : (k : Int) < (n : Int) := by omega
      have h0 := h.row k hlt
      have hsb : sb < w.heap.size := World.block_lt_of_cell? _ _ h0
      have g0 : wr.cell? ⟨sb, so + k, none⟩ = some (.slice (A k) (L k) (C k)) := by rw [hO.since.cell (a := ⟨sb, so + k, none⟩) hsb]; exact h0
      have hLk := hL k hlt
      have hsz : w.heap.size < wr.heap.size := by have := hO.lo; have := hO.hi; omega
      have h2 := fun w => Lib.run_eql_slice_nil (P := Try.prog) w 27 3 (A k) (L k) (C k) 0 0 Try.underlying27
      cases hAk : A k with
      | none =>
        have hl0 := hA0 k hlt hAk
        rw [hAk] at g0 h2
        have hO2 := hO.none hl0
        rw [hl0] at g0 h2
        clear hAk h0 hl0 hLk
        go_wp2_with fail
        go_roundg (n - (k + 1))
        case measure => omega
        case rel => exact ⟨k + 1, U, _, by omega, rfl, by go_num, hO2⟩
      | some ak =>
        rw [hAk] at g0 h2 h0
        have HR : Hid (w.cell? ⟨sb, so + k, none⟩ = some (.slice (some ak) (L k) (C k))) := h0
        have hmk := run_make_row' (P := Try.prog) 27 3 (.int .i64 0) 8 Try.underlying27 Try.info3 rfl .i64 .i64 (L k) (by omega) (by omega)
        have Hc : Hid (∀ j, j < L k → ak = ⟨RB k, RO k, none⟩ ∧ RB k < w.heap.size ∧ w.cell? ⟨RB k, RO k + j, none⟩ = some (.int .i64 (Z k j))) := fun j hj => by
          have hcj := h.cell k hlt j hj
          rw [hAk] at hcj
          exact ⟨by have := hcj.1; simpa using this, World.block_lt_of_cell? _ _ hcj.2, hcj.2⟩
        clear hAk h0
        go_wp2_with fail
        have hO1 := hO.alloc (.cells (madeCells #[.int .i64 0] (L k)) 3)
        have hr1 : (wr.alloc (.cells (madeCells #[.int .i64 0] (L k)) 3)).rowIs wr.heap.size 3 (L k) (fun i => if i < 0 then .int .i64 (Z k i) else .int .i64 0) := (World.rowIs_made wr _ (L k) 3).congr (fun i _ => by simp)
        clear hmk h2 g0
        obtain ⟨b, Hb⟩ : ∃ b, Hid (b = wr.heap.size) := ⟨_, rfl⟩
        have hUb : U ≤ b := by rw [Hb.out]; exact hO.hi
        have hbw : w.heap.size < b := by rw [Hb.out]; exact hsz
        have hbb := Hb.out.symm
        rw [hbb] at hr1
        rw [hbb]
        clear hbb hO
        go_loopg [6] (L k) (fun g s6 wi => ∃ j : Nat, j ≤ L k ∧ g = L k - j ∧ s6 = .int .i64 (j : Int) ∧ CpO w wi n k U L Z V ∧ b < wi.heap.size ∧ wi.rowIs b 3 (L k) (fun i => if i < j then .int .i64 (Z k i) else .int .i64 0))
        case atStart => exact ⟨0, by omega, rfl, rfl, hO1, by rw [Hb.out]; simp, hr1⟩
        case round =>
          clear hO1 hr1
          obtain ⟨j, hj, rfl, rfl, hO, hbs, hrow⟩ := hrel
          have g0 : wr.cell? ⟨sb, so + k, none⟩ = some (.slice (some ak) (L k) (C k)) := by rw [hO.since.cell (a := ⟨sb, so + k, none⟩) hsb]; exact HR.out
          by_cases hlt2 : j < L k
          · have hjz : (j : Int) < (L k : Int) := by omega
            obtain ⟨rfl, hRB, hcj⟩ := Hc.out j hlt2
            have g1 : wr.cell? ⟨RB k, RO k + j, none⟩ = some (.int .i64 (Z k j)) := by rw [hO.since.cell (a := ⟨RB k, RO k + j, none⟩) hRB]; exact hcj
            have g2 : wr.cell? ⟨b, j, none⟩ = some (.int .i64 0) := by simpa using hrow.cell hlt2
            have g3 := hrow.frozen j
            have hO2 := hO.store hUb j (.int .i64 (Z k j))
            have hrow2 : (wr.setCell ⟨b, j, none⟩ (.int .i64 (Z k j))).rowIs b 3 (L k) (fun i => if i < j + 1 then .int .i64 (Z k i) else .int .i64 0) := (hrow.set j _).congr fun i _ => by
              by_cases e : i = j
              · subst e; simp
              · by_cases hlt : i < j
                · simp [e, hlt, show i < j + 1 by omega]
                · simp [e, hlt, show ¬ i < j + 1 by omega]
            clear hcj hrow hO
            go_wp2_with fail
            go_roundg (L k - (j + 1))
            case measure => omega
            case rel => exact ⟨j + 1, by omega, rfl, by go_num, hO2, by rw [Go.Deep.nblk_setCell]; exact hbs, hrow2⟩
          · obtain rfl : j = L k := by omega
            have g2 : wr.cell? ⟨w.heap.size, k, none⟩ = some (.slice none 0 0) := by simpa using hO.top.cell hlt
            have g3 := hO.top.frozen k
            have hO2 := hO.lay hUb hbs (hrow.congr fun i hi => by rw [if_pos hi])
            clear hrow hO
            go_wp2_with fail
            go_roundg (n - (k + 1))
            case measure => omega
            case rel => exact ⟨k + 1, b + 1, _, by omega, rfl, by go_num, hO2⟩
    · obtain rfl : k = n := by omega
      go_wp2_with fail
      go_ret
      exact ⟨rfl, U, V, hO⟩
end
end Go.Proofs.Qxb6600624a
