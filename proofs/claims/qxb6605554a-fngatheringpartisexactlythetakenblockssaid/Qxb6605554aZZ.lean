import Derived.Test.Qxb6605554aPart
set_option linter.unusedVariables false
set_option linter.unusedSimpArgs false
namespace Go.Proofs.Qxb6605554a
open Go.RowKit
theorem Try.info2 : (Try.prog.info? 2).map (fun i => (i.zero, i.size, i.bytes)) = some (some (.int .i64 0), 1, 8) := by kernel_rfl

set_option maxHeartbeats 1000000 in
set_option maxRecDepth 100000 in
theorem zz_all (W : Int) (a : Option Addr) (n c : Nat) (x y u v : Int) (w : World) :
    Calls Try.prog 16 #[.int .i64 W, .slice a n c, .int .i64 x, .int .i64 y, .int .i64 u, .int .i64 v, .bool true] w fun e w' =>
      e = .returned (.tuple #[.int .i64 W, .bool true, .slice none 0 0, .slice none 0 0, .slice none 0 0]) ∧ Below w.heap.size w w' := by
  have hq := fun w => Lib.run_eql_slice_nil (P := Try.prog) w 53 50 none 0 0 0 0 Try.underlying53
  go_enter Try.func16, Try.ntmps16
  go_wp2_with fail
  refine (part_all W w.heap.size _ (by simp) (by simp)).mono ?_
  rintro e w1 ⟨rfl, hB⟩
  go_wp2_with fail
  refine bodyPost_ret (v := .tuple #[.int .i64 W, .bool true, .slice none 0 0, .slice none 0 0, .slice none 0 0]) (by simp [results, Try.results16, go_sem]) rfl ⟨rfl, ?_⟩
  exact (((Below.refl _ _).alloc (Nat.le_refl _) _).trans (hB.mono (by simp))).alloc (by have := hB.size; simp at this; omega) _

/-- The three columns, k of their cells filled. -/
structure ZR (w1 wr : World) (PB : Obj) (P : List Pc) (m k : Nat) : Prop where
  since : (w1.alloc PB).Since (w1.heap.size + 1) wr
  size : wr.heap.size = w1.heap.size + 4
  r1 : wr.rowIs (w1.heap.size + 1) 2 m (fun i => if i < k then .int .i64 (st P i) else .int .i64 0)
  r2 : wr.rowIs (w1.heap.size + 2) 2 m (fun i => if i < k then .int .i64 (en P i) else .int .i64 0)
  r3 : wr.rowIs (w1.heap.size + 3) 2 m (fun i => if i < k then .int .i64 (aa P i) else .int .i64 0)
theorem ZR.start (w1 : World) (PB : Obj) (P : List Pc) (m : Nat) : ZR w1 ((((w1.alloc PB).alloc (.cells (madeCells #[.int .i64 0] m) 2)).alloc (.cells (madeCells #[.int .i64 0] m) 2)).alloc (.cells (madeCells #[.int .i64 0] m) 2)) PB P m 0 := by
  refine ⟨(((World.Since.refl _ _).alloc (by simp) _).alloc (by simp) _).alloc (by simp) _, by simp, ?_, ?_, ?_⟩
  · have h := World.rowIs_made (w1.alloc PB) (.int .i64 0) m 2
    rw [show (w1.alloc PB).heap.size = w1.heap.size + 1 by simp] at h
    exact ((h.alloc _).alloc _).congr (fun i _ => by simp)
  · have h := World.rowIs_made ((w1.alloc PB).alloc (.cells (madeCells #[.int .i64 0] m) 2)) (.int .i64 0) m 2
    rw [show ((w1.alloc PB).alloc (.cells (madeCells #[.int .i64 0] m) 2)).heap.size = w1.heap.size + 2 by simp] at h
    exact (h.alloc _).congr (fun i _ => by simp)
  · have h := World.rowIs_made (((w1.alloc PB).alloc (.cells (madeCells #[.int .i64 0] m) 2)).alloc (.cells (madeCells #[.int .i64 0] m) 2)) (.int .i64 0) m 2
    rw [show (((w1.alloc PB).alloc (.cells (madeCells #[.int .i64 0] m) 2)).alloc (.cells (madeCells #[.int .i64 0] m) 2)).heap.size = w1.heap.size + 3 by simp] at h
    exact h.congr (fun i _ => by simp)
theorem fill_step (f : Nat → Value) (z : Value) (k i : Nat) : (if i = k then f k else if i < k then f i else z) = if i < k + 1 then f i else z := by
  by_cases e : i = k
  · subst e; simp
  · rw [if_neg e]
    by_cases h : i < k
    · rw [if_pos h, if_pos (by omega)]
    · rw [if_neg h, if_neg (by omega)]
theorem ZR.step {w1 wr : World} {PB : Obj} {P : List Pc} {m k : Nat} (h : ZR w1 wr PB P m k) :
    ZR w1 (((wr.setCell ⟨w1.heap.size + 1, k, none⟩ (.int .i64 (st P k))).setCell ⟨w1.heap.size + 2, k, none⟩ (.int .i64 (en P k))).setCell ⟨w1.heap.size + 3, k, none⟩ (.int .i64 (aa P k))) PB P m (k + 1) := by
  refine ⟨((h.since.setCell (by show _ ≤ w1.heap.size + 1; omega) _).setCell (by show _ ≤ w1.heap.size + 2; omega) _).setCell (by show _ ≤ w1.heap.size + 3; omega) _, by simp [h.size], ?_, ?_, ?_⟩
  · exact (((h.r1.set k _).setOther (by show w1.heap.size + 1 ≠ w1.heap.size + 2; omega) _).setOther (by show w1.heap.size + 1 ≠ w1.heap.size + 3; omega) _).congr fun i _ => fill_step (fun i => .int .i64 (st P i)) _ k i
  · exact (((h.r2.setOther (by show w1.heap.size + 2 ≠ w1.heap.size + 1; omega) _).set k _).setOther (by show w1.heap.size + 2 ≠ w1.heap.size + 3; omega) _).congr fun i _ => fill_step (fun i => .int .i64 (en P i)) _ k i
  · exact (((h.r3.setOther (by show w1.heap.size + 3 ≠ w1.heap.size + 1; omega) _).setOther (by show w1.heap.size + 3 ≠ w1.heap.size + 2; omega) _).set k _).congr fun i _ => fill_step (fun i => .int .i64 (aa P i)) _ k i

set_option maxHeartbeats 2000000 in
set_option maxRecDepth 100000 in
theorem zz_any (W : Int) (a : Option Addr) (b o n c : Nat) (x y u v : Int) (z : Nat → Int) (w : World) (hn : n ≤ 131072) (ha : 0 < n → a = some ⟨b, o, none⟩) (hc : ∀ i, i < n → w.cell? ⟨b, o + i, none⟩ = some (.int .u64 (z i)))
   (hz : ∀ i, i < n → 0 ≤ z i ∧ z i < 18446744073709551616) (hin : ∀ q t : Nat, q < n → t < 64 → z q / 2 ^ t % 2 = 1 → 64 * ((q : Int) * 64 + t) < W) (hW : -9223372036854775808 ≤ W) (hW2 : W ≤ 9223372036854775807) :
    Calls Try.prog 16 #[.int .i64 W, .slice a n c, .int .i64 x, .int .i64 y, .int .i64 u, .int .i64 v, .bool false] w fun e w' =>
      ∃ (P : List Pc) (held : Int) (B : Nat), e = .returned (.tuple #[.int .i64 W, .bool false, .slice (some ⟨B, 0, none⟩) P.length P.length, .slice (some ⟨B + 1, 0, none⟩) P.length P.length, .slice (some ⟨B + 2, 0, none⟩) P.length P.length]) ∧
        Inv z W (64 * n) P held ∧ Below w.heap.size w w' ∧ w.heap.size < B ∧
        w'.rowIs B 2 P.length (fun i => .int .i64 (st P i)) ∧ w'.rowIs (B + 1) 2 P.length (fun i => .int .i64 (en P i)) ∧ w'.rowIs (B + 2) 2 P.length (fun i => .int .i64 (aa P i)) := by
  go_enter Try.func16, Try.ntmps16
  go_wp2_with fail
  have hb : 0 < n → b < w.heap.size := fun h => World.block_lt_of_cell? _ _ (hc 0 h)
  refine (part_any W w.heap.size a b o n c z _ hn ha (fun i hi => by rw [World.cell?_alloc_old _ _ _ (by show b ≠ _; have := hb (by omega); omega)]; exact hc i hi) hz hin hW hW2 (by simp) (by simp) (by simp)).mono ?_
  rintro e w1 ⟨P, held, gp, cap, rfl, hInv, hB, hown⟩
  clear hc hz hin hb ha
  obtain ⟨m, HM⟩ : ∃ m, Hid (m = P.length) := ⟨_, rfl⟩
  have hml : m ≤ 536870912 := by have := inv_count hInv; rw [HM.out]; omega
  rw [← HM.out] at hown
  have hM := HM.out.symm
  rw [hM]
  clear hM
  have hq := fun w => Lib.run_eql_slice_nil (P := Try.prog) w 53 50 (some ⟨gp, 0, none⟩) m cap 0 0 Try.underlying53
  have hmk := run_make_row' (P := Try.prog) 34 2 (.int .i64 0) 8 Try.underlying34 Try.info2 rfl .i64 .i64 m (by omega) (by omega)
  go_wp2_with fail
  clear hq hmk
  have hgp := (hown.lt gp rfl).2
  have Hown : Hid (w1.ownsRow ((w.alloc (.cells #[.int .i64 W, .slice a n c, .int .i64 x, .int .i64 y, .int .i64 u, .int .i64 v, .bool false] 52)).heap.size + 1) 50 3 (.slice (some ⟨gp, 0, none⟩) m cap) m (flat P)) := hown
  clear hown
  go_loopg [24] m (fun g s24 wr => ∃ k : Nat, k ≤ m ∧ g = m - k ∧ s24 = .int .i64 k ∧ ZR w1 wr (.cells #[.int .i64 W, .slice (some ⟨gp, 0, none⟩) m cap] 55) P m k)
  case atStart => exact ⟨0, by omega, rfl, rfl, ZR.start w1 _ P m⟩
  case round =>
    obtain ⟨k, hk, rfl, rfl, hZ⟩ := hrel
    have e : (w1.alloc (.cells #[.int .i64 W, .slice (some ⟨gp, 0, none⟩) m cap] 55)).heap[w1.heap.size]? = some (.cells #[.int .i64 W, .slice (some ⟨gp, 0, none⟩) m cap] 55) := Go.Deep.blk_alloc_new _ _
    have g0 : wr.cell? ⟨w1.heap.size, 0, none⟩ = some (.int .i64 W) := by
      rw [hZ.since.cell (by show w1.heap.size < _; omega)]; unfold World.cell?; rw [e]; rfl
    have g1 : wr.cell? ⟨w1.heap.size, 1, none⟩ = some (.slice (some ⟨gp, 0, none⟩) m cap) := by
      rw [hZ.since.cell (by show w1.heap.size < _; omega)]; unfold World.cell?; rw [e]; rfl
    clear e
    by_cases hlt : k < m
    · have hcell : ∀ j v, j < m * 3 → (flat P)[j]? = some v → wr.cell? ⟨gp, j, none⟩ = some v := fun j v hj hv => by
        rw [hZ.since.cell (by show gp < _; omega), World.cell?_alloc_old _ _ _ (by show gp ≠ _; omega), Hown.out.cellAt j hj]; exact hv
      have hf := flat_at P k (by rw [← HM.out]; exact hlt)
      have c0 := hcell (k * 3) _ (by omega) hf.1
      have c1 := hcell (k * 3 + 1) _ (by omega) hf.2.1
      have c2 := hcell (k * 3 + 2) _ (by omega) hf.2.2
      have d1 : wr.cell? ⟨w1.heap.size + 1, k, none⟩ = some (.int .i64 0) := by simpa using hZ.r1.cell hlt
      have d2 : wr.cell? ⟨w1.heap.size + 2, k, none⟩ = some (.int .i64 0) := by simpa using hZ.r2.cell hlt
      have d3 : wr.cell? ⟨w1.heap.size + 3, k, none⟩ = some (.int .i64 0) := by simpa using hZ.r3.cell hlt
      have f1 := hZ.r1.frozen k
      have f2 := hZ.r2.frozen k
      have f3 := hZ.r3.frozen k
      clear hf hcell
      go_wp2_with fail
      go_roundg (m - (k + 1))
      case measure => omega
      case rel => exact ⟨k + 1, by omega, rfl, by go_num, hZ.step⟩
    · obtain rfl : k = m := by omega
      have R1 := hZ.r1.congr (g := fun i => .int .i64 (st P i)) (fun i hi => by rw [if_pos hi])
      have R2 := hZ.r2.congr (g := fun i => .int .i64 (en P i)) (fun i hi => by rw [if_pos hi])
      have R3 := hZ.r3.congr (g := fun i => .int .i64 (aa P i)) (fun i hi => by rw [if_pos hi])
      have HB : Below w.heap.size w wr := by
        refine ((((Below.refl _ _).alloc (Nat.le_refl _) _).trans (hB.mono (by simp))).alloc (by have := hB.size; simp at this; omega) (.cells #[.int .i64 W, .slice (some ⟨gp, 0, none⟩) k cap] 55)).trans ?_
        have h2 : w.heap.size ≤ w1.heap.size := by have := hB.size; simp at this; omega
        exact (Since_below hZ.since).mono (by omega)
      have hwB : w.heap.size < w1.heap.size + 1 := by have := hB.size; simp at this; omega
      clear hZ
      go_wp2_with fail
      refine bodyPost_ret (v := .tuple #[.int .i64 W, .bool false, .slice (some ⟨w1.heap.size + 1, 0, none⟩) k k, .slice (some ⟨w1.heap.size + 2, 0, none⟩) k k, .slice (some ⟨w1.heap.size + 3, 0, none⟩) k k]) (by simp [results, Try.results16, go_sem]) rfl ?_
      have e := HM.out
      subst e
      exact ⟨P, held, w1.heap.size + 1, rfl, hInv, HB, hwB, R1, R2, R3⟩
end Go.Proofs.Qxb6605554a
