import Derived.Test.Qxb6600624aTW
set_option linter.unusedVariables false
set_option linter.unusedSimpArgs false
namespace Go.Proofs.Qxb6600624a
open Go.RowKit
theorem Try.info3 : (Try.prog.info? 3).map (fun i => (i.zero, i.size, i.bytes)) = some (some (.int .i64 0), 1, 8) := by kernel_rfl
theorem Try.info4 : (Try.prog.info? 4).map (fun i => (i.zero, i.size, i.bytes)) = some (some (.bool false), 1, 1) := by kernel_rfl
theorem Try.info62 : (Try.prog.info? 62).map (fun i => (i.zero, i.size, i.bytes)) = some (some (.agg #[.int .i64 0, .int .i64 0]), 2, 16) := by kernel_rfl

theorem grown_trans {a b c : World} {row : Option Nat} (h : a.grownBy b row) (k : b.grownBy c row) : a.grownBy c row :=
  ⟨k.os.trans h.os, k.tape.trans h.tape, k.output.trans h.output, Nat.le_trans h.size k.size, fun j hj hne => (k.block j (Nat.lt_of_lt_of_le hj h.size) hne).trans (h.block j hj hne)⟩

set_option maxHeartbeats 2000000 in
theorem visit_any (H n v : Nat) (w0 w : World) (M : TM) (sv fv : Value) (h : TW H n w0 w M sv fv) (hv : v < n) (hn : n ≤ 131072) (hvis : M.vis ≤ 131072) (hs : M.stk.length ≤ 131072) (hf : M.frs.length ≤ 131072) :
    Calls Try.prog 26 #[.int .i64 (v : Int), .pointer (some ⟨H + 9, 0, none⟩), .pointer (some ⟨H + 2, 0, none⟩), .pointer (some ⟨H + 4, 0, none⟩), .pointer (some ⟨H + 7, 0, none⟩), .pointer (some ⟨H + 6, 0, none⟩), .pointer (some ⟨H + 8, 0, none⟩)] w
      fun e w' => e = .returned (.tuple #[]) ∧ ∃ sv' fv', TW H n w0 w' { M with vis := M.vis + 1, idx := upd M.idx v (M.vis + 1), low := upd M.low v (M.vis + 1), stk := M.stk ++ [v], ons := upd M.ons v true, frs := M.frs ++ [(v, 0)] } sv' fv' := by
  obtain ⟨i3, hi, hz0, hz1, hz2⟩ := info_parts Try.info3
  obtain ⟨i62, hj, hy0, hy1, hy2⟩ := info_parts Try.info62
  have hvz : (v : Int) < (n : Int) := by omega
  go_enter Try.func26, Try.ntmps26
  have c9 := cell_of_one h.bvis
  have f9 := free_of_one h.bvis
  go_upto_region 1 with fail
  have h1 := h.setVis (M.vis + 1)
  rw [show ((M.vis + 1 : Nat) : Int) = (M.vis : Int) + 1 from by omega] at h1
  generalize w.setCell ⟨H + 9, 0, none⟩ (.int .i64 ((M.vis : Int) + 1)) = w1 at h1 ⊢
  clear c9 f9
  have c9 := cell_of_one h1.bvis
  have c2 := cell_of_one h1.bidx
  have c4 := cell_of_one h1.blow
  have d1 : w1.cell? ⟨H + 1, v, none⟩ = some (.int .i64 (M.idx v : Int)) := h1.idx.cell hv
  have d3 : w1.cell? ⟨H + 3, v, none⟩ = some (.int .i64 (M.low v : Int)) := h1.low.cell hv
  have e1 := h1.idx.frozen v
  have e3 := h1.low.frozen v
  go_region
  all_goals go_upto_region 2 with fail
  have h2 := ((h1.setIdx v (M.vis + 1)).setLow v (M.vis + 1)).drew
  rw [show ((M.vis + 1 : Nat) : Int) = (M.vis : Int) + 1 from by omega] at h2
  generalize ((w1.setCell ⟨H + 1, v, none⟩ (.int .i64 ((M.vis : Int) + 1))).setCell ⟨H + 3, v, none⟩ (.int .i64 ((M.vis : Int) + 1))).drew = w2 at h2 ⊢
  clear c9 c2 c4 d1 d3 e1 e3 h1
  have c7 := cell_of_one h2.bstk
  have hs2 := h2.size
  have ho := h2.stk
  have ho' : w2.ownsRow (H + 10) 3 1 sv M.stk.length (ints M.stk) := ho
  clear ho
  go_upto_region 3 with (at_builtin; refine wpList_append_lies _ rfl _ _ _ rfl (H + 10) 3 i3 (.int .i64 0) 1 8 Try.underlying27 hi hz0 hz1 hz2 rfl (by decide) _ _ _ rfl (ho'.alloc _) ⟨w2.heap.size, 0, none⟩ 1 1 [.int .i64 (v : Int)] rfl rfl (by exact cell_one_new _ _ _) (by intro u hu; simp at hu; subst hu; rfl) (by decide) (by unfold maxLen; omega) (by omega) (by simp; omega) (w2.heap.size + 1) (by simp) ?_; intro g cap w3 hown hgrow hat hlt; have hg3 : w2.grownBy w3 sv.ownBlock := grown_trans (World.grownBy_alloc w2 _ _) hgrow; have b7 : w3.heap[H + 7]? = w2.heap[H + 7]? := h2.blk hg3 (by omega) (fun e => by have := h2.stkRow _ e.symm; omega); have c7' : w3.cell? ⟨H + 7, 0, none⟩ = some sv := cell_of_one (b7.trans h2.bstk); have f7' : w3.frozen? ⟨H + 7, 0, none⟩ = false := free_of_one (b7.trans h2.bstk); have h3 := h2.newStk hg3 h2.stkRow h2.apart (l := M.stk ++ [v]) (by rw [List.length_append, ints_append]; exact hown); clear hown hgrow hat hlt)
  generalize w3.setCell ⟨H + 7, 0, none⟩ (.slice (some ⟨g, 0, none⟩) (M.stk.length + 1) cap) = w4 at h3 ⊢
  clear c7 c7' f7' hg3 b7 h2 ho'
  have c6 := cell_of_one h3.bons
  have d5 : w4.cell? ⟨H + 5, v, none⟩ = some (.bool (M.ons v)) := h3.ons.cell hv
  have e5 := h3.ons.frozen v
  go_upto_region 4 with fail
  have h4 := h3.setOns v true
  generalize w4.setCell ⟨H + 5, v, none⟩ (.bool true) = w5 at h4 ⊢
  clear c6 d5 e5 h3 h hs2
  have c8 := cell_of_one h4.bfrs
  have hs2 := h4.size
  have ho' : w5.ownsRow (H + 10) 62 2 fv M.frs.length (flat2 M.frs) := h4.frs
  go_wp2_with (at_builtin; refine wpList_append_lies _ rfl _ _ _ rfl (H + 10) 62 i62 (.agg #[.int .i64 0, .int .i64 0]) 2 16 Try.underlying60 hj hy0 hy1 hy2 rfl (by decide) _ _ _ rfl (ho'.alloc _) ⟨w5.heap.size, 0, none⟩ 1 1 [.int .i64 (v : Int), .int .i64 0] rfl rfl (by exact World.news_of_block (cs := #[.int .i64 (v : Int), .int .i64 0]) (Go.Deep.blk_alloc_new _ _)) (by intro u hu; simp at hu; rcases hu with rfl | rfl <;> rfl) (by decide) (by unfold maxLen; omega) (by omega) (by simp; omega) (w5.heap.size + 1) (by simp) ?_; intro g' cap' w6 hown hgrow hat hlt; have hg3 : w5.grownBy w6 fv.ownBlock := grown_trans (World.grownBy_alloc w5 _ _) hgrow; have b8 : w6.heap[H + 8]? = w5.heap[H + 8]? := h4.blk hg3 (by omega) (fun e => by have := h4.frsRow _ e.symm; omega); have c8' : w6.cell? ⟨H + 8, 0, none⟩ = some fv := cell_of_one (b8.trans h4.bfrs); have f8' : w6.frozen? ⟨H + 8, 0, none⟩ = false := free_of_one (b8.trans h4.bfrs); have h5 := h4.newFrs hg3 h4.frsRow h4.apart' (l := M.frs ++ [(v, 0)]) (by rw [List.length_append, flat2_append]; exact hown); clear hown hgrow hat hlt)
  go_end0
  exact ⟨rfl, _, _, h5⟩
end Go.Proofs.Qxb6600624a
