import Derived.Test.Qxb6605554aInside
set_option linter.unusedVariables false
set_option linter.unusedSimpArgs false
namespace Go.Proofs.Qxb6605554a
open Go.RowKit
theorem Try.info50 : (Try.prog.info? 50).map (fun i => (i.zero, i.size, i.bytes)) = some (some (.agg #[.int .i64 0, .int .i64 0, .int .i64 0]), 3, 24) := by kernel_rfl
def flat : List Pc → List Value
  | [] => []
  | x :: t => .int .i64 x.1 :: .int .i64 x.2.1 :: .int .i64 x.2.2 :: flat t
theorem flat_len : ∀ P : List Pc, (flat P).length = P.length * 3
  | [] => rfl
  | x :: t => by simp [flat, flat_len t]; omega
theorem flat_append : ∀ P Q : List Pc, flat (P ++ Q) = flat P ++ flat Q
  | [], _ => rfl
  | x :: t, Q => by simp [flat, flat_append t Q]
theorem flat_at : ∀ (P : List Pc) (i : Nat), i < P.length → (flat P)[i * 3]? = some (.int .i64 (st P i)) ∧ (flat P)[i * 3 + 1]? = some (.int .i64 (en P i)) ∧ (flat P)[i * 3 + 2]? = some (.int .i64 (aa P i))
  | [], i, h => absurd h (Nat.not_lt_zero _)
  | x :: t, 0, _ => by simp [flat, st, en, aa]
  | x :: t, i + 1, h => by
    have ih := flat_at t i (by simpa using h)
    rw [show (i + 1) * 3 = i * 3 + 1 + 1 + 1 by omega]
    simpa [flat, st, en, aa] using ih

/-- The block of the result, as it is laid. -/
def R0 : Obj := .cells #[.int .i64 0, .slice none 0 0] 55
structure PR (w wr : World) (P : List Pc) (m gp cap : Nat) : Prop where
  own : wr.ownsRow (w.heap.size + 1) 50 3 (.slice (some ⟨gp, 0, none⟩) m cap) m (flat P)
  below : Below (w.heap.size + 1) (w.alloc R0) wr
section
variable {w wr w1 : World} {P Q : List Pc} {m k gp cap gp' cap' : Nat}
theorem PR.len (h : PR w wr P m gp cap) : m = P.length := by have := h.own.1; rw [flat_len] at this; omega
theorem PR.size (h : PR w wr P m gp cap) : w.heap.size + 1 ≤ wr.heap.size := by have := h.below.size; simp at this; exact this
theorem PR.base (h : PR w wr P m gp cap) : w.heap.size + 1 ≤ gp := (h.own.lt gp rfl).1
theorem PR.cell (h : PR w wr P m gp cap) {b o : Nat} {v : Value} (hv : w.cell? ⟨b, o, none⟩ = some v) : wr.cell? ⟨b, o, none⟩ = some v := by
  have hb : b < w.heap.size := World.block_lt_of_cell? _ _ hv
  rw [h.below.cell (by show b < _; omega), World.cell?_alloc_old _ _ _ (by show b ≠ _; omega)]
  exact hv
theorem PR.ends {x : Pc} (h : PR w wr (Q ++ [x]) (k + 1) gp cap) : wr.cell? ⟨gp, k * 3 + 1, none⟩ = some (.int .i64 x.2.1) := by
  have hl : (Q ++ [x]).length = Q.length + 1 := by simp
  have hk : k = Q.length := by have := h.len; omega
  have h1 := h.own.cellAt (k * 3 + 1) (by omega)
  rw [h1, hk, (flat_at (Q ++ [x]) Q.length (by omega)).2.1, en_last]
theorem PR.frozen (h : PR w wr P m gp cap) (j : Nat) : wr.frozen? ⟨gp, j, none⟩ = false := h.own.frozenAt j
theorem PR.drew (h : PR w wr P m gp cap) : PR w wr.drew P m gp cap := ⟨h.own, h.below.drew⟩
theorem PR.store {s e a : Int} (h : PR w wr (Q ++ [(s, e, a)]) (k + 1) gp cap) (E : Int) : PR w (wr.setCell ⟨gp, k * 3 + 1, none⟩ (.int .i64 E)) (Q ++ [(s, E, a)]) (k + 1) gp cap := by
  have hs := h.own.stored (k * 3 + 1) (.int .i64 E)
  have hl : (Q ++ [(s, e, a)]).length = Q.length + 1 := by simp
  have hk : k = Q.length := by have := h.len; omega
  refine ⟨?_, h.below.grown hs.2 h.size (fun k e => by cases e; exact h.base)⟩
  have e1 : (flat (Q ++ [(s, e, a)])).set (k * 3 + 1) (.int .i64 E) = flat (Q ++ [(s, E, a)]) := by
    rw [hk, flat_append, flat_append, List.set_append_right _ _ (by rw [flat_len]; omega), flat_len]
    congr 1
    rw [Nat.add_sub_cancel_left]
    rfl
  have h2 := hs.1
  rw [e1] at h2
  exact h2
theorem PR.push {s e a : Int} (h : PR w wr P m gp cap) {ob : Obj}
    (ho : w1.ownsRow (w.heap.size + 1) 50 3 (.slice (some ⟨gp', 0, none⟩) (m + 1) cap') (m + 1) (flat P ++ [.int .i64 s, .int .i64 e, .int .i64 a]))
    (hg : (wr.alloc ob).grownBy w1 (Value.slice (some ⟨gp, 0, none⟩) m cap).ownBlock) : PR w w1 (P ++ [(s, e, a)]) (m + 1) gp' cap' := by
  refine ⟨?_, (h.below.alloc h.size ob).grown hg (by have := h.size; simp; omega) (fun k e => by cases e; exact h.base)⟩
  have e1 : flat P ++ [.int .i64 s, .int .i64 e, .int .i64 a] = flat (P ++ [(s, e, a)]) := by rw [flat_append]; rfl
  rw [e1] at ho
  exact ho
theorem PR.result (h : PR w wr P m gp cap) : wr.cell? ⟨w.heap.size, 0, none⟩ = some (.int .i64 0) ∧ wr.cell? ⟨w.heap.size, 1, none⟩ = some (.slice none 0 0) ∧ ∀ j, wr.frozen? ⟨w.heap.size, j, none⟩ = false := by
  have e : (w.alloc R0).heap[w.heap.size]? = some R0 := Go.Deep.blk_alloc_new _ _
  refine ⟨?_, ?_, fun j => ?_⟩
  · rw [h.below.cell (by show w.heap.size < _; omega)]; unfold World.cell?; rw [e]; rfl
  · rw [h.below.cell (by show w.heap.size < _; omega)]; unfold World.cell?; rw [e]; rfl
  · rw [h.below.frozen (by show w.heap.size < _; omega)]; unfold World.frozen?; rw [e]; simp [R0]
theorem PR.last (h : PR w wr P m gp cap) (x y : Value) : Below w.heap.size w ((wr.setCell ⟨w.heap.size, 0, none⟩ x).setCell ⟨w.heap.size, 1, none⟩ y) ∧
    ((wr.setCell ⟨w.heap.size, 0, none⟩ x).setCell ⟨w.heap.size, 1, none⟩ y).ownsRow (w.heap.size + 1) 50 3 (.slice (some ⟨gp, 0, none⟩) m cap) m (flat P) :=
  ⟨((((Below.refl _ _).alloc (Nat.le_refl _) _).trans (h.below.mono (by omega))).setCell (Nat.le_refl _) _).setCell (Nat.le_refl _) _,
    ownsRow_setCell_below (ownsRow_setCell_below h.own (by show w.heap.size < _; omega) _) (by show w.heap.size < _; omega) _⟩
theorem news3 (W : World) (a b c : Value) (t : TypeId) (B : Nat) (hB : W.heap.size = B) : ∀ j u, [a, b, c][j]? = some u → ((W.alloc (.cells #[a, b, c] t)).drew).cell? ((⟨B, 0, none⟩ : Addr).add j) = some u := by
  subst hB
  exact World.news_of_block (w := (W.alloc (.cells #[a, b, c] t)).drew) (cs := #[a, b, c]) (t := t) (fr := (0, 0)) (Go.Deep.blk_alloc_new W _)
end

set_option maxHeartbeats 2000000 in
set_option maxRecDepth 100000 in
theorem part_any (W : Int) (G : Nat) (a : Option Addr) (b o n c : Nat) (z : Nat → Int) (w : World) (hn : n ≤ 131072) (ha : 0 < n → a = some ⟨b, o, none⟩) (hc : ∀ i, i < n → w.cell? ⟨b, o + i, none⟩ = some (.int .u64 (z i)))
   (hz : ∀ i, i < n → 0 ≤ z i ∧ z i < 18446744073709551616) (hin : ∀ q t : Nat, q < n → t < 64 → z q / 2 ^ t % 2 = 1 → 64 * ((q : Int) * 64 + t) < W) (hW : -9223372036854775808 ≤ W) (hW2 : W ≤ 9223372036854775807)
   (h0 : w.cell? ⟨G, 0, none⟩ = some (.int .i64 W)) (h1 : w.cell? ⟨G, 1, none⟩ = some (.slice a n c)) (h6 : w.cell? ⟨G, 6, none⟩ = some (.bool false)) :
    Calls Try.prog 26 #[.pointer (some ⟨G, 0, none⟩)] w fun e w' => ∃ (P : List Pc) (held : Int) (gp cap : Nat), e = .returned (.agg #[.int .i64 W, .slice (some ⟨gp, 0, none⟩) P.length cap]) ∧ Inv z W (64 * n) P held ∧ Below w.heap.size w w' ∧
      w'.ownsRow (w.heap.size + 1) 50 3 (.slice (some ⟨gp, 0, none⟩) P.length cap) P.length (flat P) := by
  obtain ⟨i0, hi, hz0, hz1, hz2⟩ := info_parts Try.info50
  have hG : G < w.heap.size := World.block_lt_of_cell? _ _ h0
  have Hin : Hid (∀ B : Nat, B < 64 * n → Bit z B → 64 * (B : Int) < W) := fun B hB hb => by
    have := hin (B / 64) (B % 64) (by omega) (by omega) hb
    omega
  clear hin
  go_enter Try.func26, Try.ntmps26
  go_wp2
  go_loopg [3, 4, 5] (64 * n) (fun g s3 s4 s5 wr => ∃ (B : Nat) (P : List Pc) (held : Int) (m gp cap : Nat), B ≤ 64 * n ∧ g = 64 * n - B ∧ s5 = .int .i64 B ∧ s4 = .int .i64 held ∧ s3 = .slice (some ⟨gp, 0, none⟩) m cap ∧
     PR w wr P m gp cap ∧ Inv z W B P held)
  case atStart => exact ⟨0, [], 0, 0, w.heap.size + 1, 0, by omega, rfl, rfl, rfl, rfl, ⟨⟨rfl, .inr ⟨_, 0, #[], rfl, Nat.le_refl _, by have := Go.Deep.blk_alloc_new (w.alloc (Obj.cells #[Value.int IntKind.i64 0, Value.slice none 0 0] 55)) (Obj.cells #[] 50); simpa using this, Nat.le_refl _, by unfold maxLen; omega, rfl, rfl⟩⟩, (Below.refl _ _).alloc (by simp) _⟩, inv_start z W⟩
  case round =>
    obtain ⟨B, P, held, m, gp, cap, hB, rfl, rfl, rfl, rfl, hPR, hInv⟩ := hrel
    by_cases hlt : B < 64 * n
    · obtain rfl := ha (by omega)
      have g0 := hPR.cell h0
      have g1 := hPR.cell h1
      have g2 := hPR.cell (hc (B / 64) (by omega))
      have Hz : Hid (0 ≤ z (B / 64) ∧ z (B / 64) < 18446744073709551616) := hz _ (by omega)
      clear h0 h1 h6 hc ha hz
      have hB2 : (B : Int) < n * 64 := by omega
      have hB5 : (B : Int) ≤ 8388608 := by omega
      have hp1 := hInv.pos
      have hp2 := hInv.le
      have hPl : m ≤ 536870912 := by have := inv_count hInv; have := hPR.len; omega
      by_cases hw0 : z (B / 64) = 0
      · have hw1 : (z (B / 64) == 0) = true := by simpa using hw0
        have Hzero := inv_zero hInv hw0
        clear hw0
        go_wp2
        go_roundg (64 * n - (B + 64))
        case measure => omega
        case rel => exact ⟨B + 64, P, held, m, gp, cap, by have := Hzero.1; omega, rfl, by go_num, rfl, rfl, hPR, Hzero.2⟩
      · have hw1 : (z (B / 64) == 0) = false := by simpa using hw0
        have Hw : Hid (¬ z (B / 64) = 0) := hw0
        have Hbit := and64_bit_zero (z (B / 64)) (B % 64) (by omega) Hz.out.1 Hz.out.2
        clear hw0
        by_cases hb : Bit z B
        · have hb1 : (bits .and .u64 (z (B / 64)) (IntKind.u64.wrap (2 ^ (B % 64))) == 0) = false := by
            rw [beq_eq_false_iff_ne]; intro h; exact Hbit.1 h hb
          have hin := Hin.out B hlt hb
          have Hb : Hid (Bit z B) := hb
          clear Hbit hb
          go_upto_region 12 with fail
          go_cut [7, 8] (fun s7 s8 wc => wc = wr.drew ∧ s7 = .int .i64 (64 * (B : Int)) ∧ ∃ E : Int, s8 = .int .i64 E ∧ 64 * (B : Int) < E ∧ E ≤ 64 * (B : Int) + 64 ∧ E ≤ W ∧ Hid (E = min (64 * (B : Int) + 64) W))
          case first =>
            go_region
            all_goals go_wp2_with fail
            all_goals go_meet
            all_goals exact ⟨rfl, by go_num, _, rfl, by omega, by omega, by omega, by show _ = _; omega⟩
          case rest =>
          obtain ⟨rfl, rfl, E, rfl, hE1, hE2, hE3, HE⟩ := hcut
          have hPR := hPR.drew
          have hms := hPR.size
          by_cases hm : m = 0
          · subst hm
            have HN := inv_push hInv Hw.out Hb.out hin HE.out (fun i h => by have := hPR.len; omega)
            go_upto_region 16 with fail
            go_wp2_with (at_builtin; refine wpList_append_lies _ rfl _ _ _ rfl (w.heap.size + 1) 50 i0 (.agg #[.int .i64 0, .int .i64 0, .int .i64 0]) 3 24 Try.underlying53 hi hz0 hz1 hz2 rfl (by decide) _ _ _ rfl (by exact hPR.own.alloc _) ⟨wr.heap.size, 0, none⟩ 1 1 [.int .i64 (64 * (B : Int)), .int .i64 E, .int .i64 held] rfl rfl (by exact news3 _ _ _ _ _ _ (by simp)) (by intro u hu; simp at hu; rcases hu with rfl | rfl | rfl <;> rfl) (by decide) (by unfold maxLen; omega) (by omega) (by have := hPR.size; simp at this ⊢; omega) (wr.heap.size + 1) (by simp) ?_; intro g' cap' w2 hown hgrow hat hlt; have hPR2 := hPR.push hown hgrow; clear hown hgrow hat hlt)
            go_roundg (64 * n - (B + 1))
            case measure => omega
            case rel => exact ⟨B + 1, _, _, _, g', cap', by omega, rfl, by go_num, by go_num, rfl, hPR2, HN⟩
          · obtain ⟨k, rfl⟩ : ∃ k, m = k + 1 := ⟨m - 1, by omega⟩
            obtain ⟨Q, x, rfl⟩ : ∃ Q x, P = Q ++ [x] := by
              rcases List.eq_nil_or_concat P with rfl | ⟨Q, x, hQ⟩
              · have := hPR.len; simp at this
              · exact ⟨Q, x, by rw [hQ, List.concat_eq_append]⟩
            obtain ⟨s, e, t⟩ := x
            have q1 := hPR.ends
            have q2 := hPR.frozen (k * 3 + 1)
            have hk : (k : Int) < (k : Int) + 1 := by omega
            by_cases he : e = 64 * (B : Int)
            · subst he
              have HN := inv_merge hInv Hw.out Hb.out hin HE.out
              go_wp2_with fail
              go_roundg (64 * n - (B + 1))
              case measure => omega
              case rel => exact ⟨B + 1, _, _, _, gp, cap, by omega, rfl, by go_num, by go_num, rfl, hPR.store E, HN⟩
            · have he1 : (e == 64 * (B : Int)) = false := by simpa using he
              have HN := inv_push hInv Hw.out Hb.out hin HE.out (fun i h => by
                have hi : i = Q.length := by simp at h; omega
                subst hi
                rw [en_last]; exact he)
              clear he
              go_upto_region 16 with fail
              go_wp2_with (at_builtin; refine wpList_append_lies _ rfl _ _ _ rfl (w.heap.size + 1) 50 i0 (.agg #[.int .i64 0, .int .i64 0, .int .i64 0]) 3 24 Try.underlying53 hi hz0 hz1 hz2 rfl (by decide) _ _ _ rfl (by exact hPR.own.alloc _) ⟨wr.heap.size, 0, none⟩ 1 1 [.int .i64 (64 * (B : Int)), .int .i64 E, .int .i64 held] rfl rfl (by exact news3 _ _ _ _ _ _ (by simp)) (by intro u hu; simp at hu; rcases hu with rfl | rfl | rfl <;> rfl) (by decide) (by unfold maxLen; omega) (by omega) (by have := hPR.size; simp at this ⊢; omega) (wr.heap.size + 1) (by simp) ?_; intro g' cap' w2 hown hgrow hat hlt; have hPR2 := hPR.push hown hgrow; clear hown hgrow hat hlt)
              go_roundg (64 * n - (B + 1))
              case measure => omega
              case rel => exact ⟨B + 1, _, _, _, g', cap', by omega, rfl, by go_num, by go_num, rfl, hPR2, HN⟩
        · have hb1 : (bits .and .u64 (z (B / 64)) (IntKind.u64.wrap (2 ^ (B % 64))) == 0) = true := by
            rw [beq_iff_eq]; exact Hbit.2 hb
          have Hs := inv_skip hInv Hw.out hb
          clear Hbit hb
          go_wp2
          go_roundg (64 * n - (B + 1))
          case measure => omega
          case rel => exact ⟨B + 1, P, held, m, gp, cap, by omega, rfl, by go_num, rfl, rfl, hPR, Hs⟩
    · obtain rfl : B = 64 * n := by omega
      have g0 := hPR.cell h0
      have g1 := hPR.cell h1
      have r0 : wr.cell? ⟨w.heap.size, 0, none⟩ = some (.int .i64 0) := hPR.result.1
      have r1 : wr.cell? ⟨w.heap.size, 1, none⟩ = some (.slice none 0 0) := hPR.result.2.1
      have r2 : ∀ j, wr.frozen? ⟨w.heap.size, j, none⟩ = false := hPR.result.2.2
      have hl := hPR.last (.int .i64 W) (.slice (some ⟨gp, 0, none⟩) m cap)
      have Hl := hPR.len
      have HP : Hid (PR w wr P m gp cap) := hPR
      have HL : Hid (m = P.length) := Hl
      clear Hl hPR
      go_wp2_with fail
      refine bodyPost_ret (v := .agg #[.int .i64 W, .slice (some ⟨gp, 0, none⟩) m cap]) (by simp [results, Try.results26, go_sem, r0, r1]) rfl ?_
      have e := HL.out
      subst e
      exact ⟨P, held, gp, cap, rfl, hInv, hl.1, hl.2⟩

set_option maxHeartbeats 1000000 in
set_option maxRecDepth 100000 in
theorem part_all (W : Int) (G : Nat) (w : World) (h0 : w.cell? ⟨G, 0, none⟩ = some (.int .i64 W)) (h6 : w.cell? ⟨G, 6, none⟩ = some (.bool true)) :
    Calls Try.prog 26 #[.pointer (some ⟨G, 0, none⟩)] w fun e w' => e = .returned (.agg #[.int .i64 W, .slice none 0 0]) ∧ Below w.heap.size w w' := by
  have hG : G < w.heap.size := World.block_lt_of_cell? _ _ h0
  go_enter Try.func26, Try.ntmps26
  go_wp2_with fail
  exact bodyPost_ret (v := .agg #[.int .i64 W, .slice none 0 0]) (by simp [results, Try.results26, go_sem]) rfl ⟨rfl, (Below.refl _ _).alloc (Nat.le_refl _) _⟩
end Go.Proofs.Qxb6605554a
