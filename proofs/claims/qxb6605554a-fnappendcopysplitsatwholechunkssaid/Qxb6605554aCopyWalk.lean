import Derived.Test.Qxb6605554aParts
import Derived.Test.Qxb6605554aPlain
import Derived.WalkKit
import Derived.WalkSpells
import Derived.Deep.LoopGhost
import Derived.Deep.OwnRows
import Derived.Deep.Light
import Derived.Deep.AppendLies
import Derived.BigQuiet
import Derived.Deep.DeepCutAuto
set_option linter.unusedVariables false
set_option linter.unusedSimpArgs false
namespace Go.Proofs.Qxb6605554a
open Go.RowKit
theorem one_new_drew (w : World) (v : Value) (t : TypeId) (B : Nat) (hB : w.heap.size = B) : ∀ j u, [v][j]? = some u → ((w.alloc (.cells #[v] t)).drew).cell? ((⟨B, 0, none⟩ : Addr).add j) = some u := by subst hB; exact cell_one_new w v t
/-- The slice s0 owns pre, then x, then tail. -/
structure R1 (base : Nat) (w0 wi : World) (pre : List Int) (x : Int) (tail : List Int) (g cap : Nat) : Prop where
  own : wi.ownsRow base 5 1 (.slice (some ⟨g, 0, none⟩) (pre.length + 1 + tail.length) cap) (pre.length + 1 + tail.length) ((pre ++ x :: tail).map (Value.int .u8))
  below : Below base w0 wi
  size : base ≤ wi.heap.size
theorem R1.cell {base : Nat} {w0 wi : World} {pre tail : List Int} {x : Int} {g cap : Nat} (h : R1 base w0 wi pre x tail g cap) : wi.cell? ⟨g, pre.length, none⟩ = some (.int .u8 x) := by
  rw [h.own.cellAt _ (by omega)]
  simp
theorem R1.frozen {base : Nat} {w0 wi : World} {pre tail : List Int} {x : Int} {g cap : Nat} (h : R1 base w0 wi pre x tail g cap) (j : Nat) : wi.frozen? ⟨g, j, none⟩ = false := h.own.frozenAt j
theorem R1.base_le {base : Nat} {w0 wi : World} {pre tail : List Int} {x : Int} {g cap : Nat} (h : R1 base w0 wi pre x tail g cap) : base ≤ g := (h.own.lt g rfl).1
theorem R1.store {base : Nat} {w0 wi : World} {pre tail : List Int} {x : Int} {g cap : Nat} (h : R1 base w0 wi pre x tail g cap) (y : Int) : R1 base w0 (wi.setCell ⟨g, pre.length, none⟩ (.int .u8 y)) pre y tail g cap := by
  have hs := h.own.stored pre.length (.int .u8 y)
  refine ⟨?_, h.below.grown hs.2 h.size (fun k e => by cases e; exact h.base_le), Nat.le_trans h.size hs.2.size⟩
  have e : ((pre ++ x :: tail).map (Value.int .u8)).set pre.length (.int .u8 y) = (pre ++ y :: tail).map (Value.int .u8) := by
    simp
  rw [← e]
  exact hs.1
theorem R1.drew {base : Nat} {w0 wi : World} {pre tail : List Int} {x : Int} {g cap : Nat} (h : R1 base w0 wi pre x tail g cap) : R1 base w0 wi.drew pre x tail g cap := ⟨h.own, h.below.drew, h.size⟩
theorem R1.push {base : Nat} {w0 wi w1 : World} {pre tail : List Int} {x c : Int} {g cap g' cap' : Nat} (h : R1 base w0 wi pre x tail g cap) {ob : Obj}
    (ho : w1.ownsRow base 5 1 (.slice (some ⟨g', 0, none⟩) (pre.length + 1 + tail.length + 1) cap') (pre.length + 1 + tail.length + 1) ((pre ++ x :: tail).map (Value.int .u8) ++ [.int .u8 c]))
    (hg : (wi.alloc ob).grownBy w1 (Value.slice (some ⟨g, 0, none⟩) (pre.length + 1 + tail.length) cap).ownBlock) : R1 base w0 w1 pre x (tail ++ [c]) g' cap' := by
  refine ⟨?_, (h.below.alloc h.size ob).grown hg (by have := h.size; simp; omega) (fun k e => by cases e; exact h.base_le), by have := hg.size; have := h.size; simp at *; omega⟩
  have e : (pre ++ x :: tail).map (Value.int .u8) ++ [.int .u8 c] = (pre ++ x :: (tail ++ [c])).map (Value.int .u8) := by simp
  rw [e] at ho
  simpa [Nat.add_assoc] using ho


theorem wrap_mod (x : Int) : wrap64 x % 4294967296 = x % 4294967296 := by
  have h : wrap64 x = (x + 9223372036854775808) % 18446744073709551616 - 9223372036854775808 := by first | rfl | (simp [wrap64, IntKind.wrap]) 
  rw [h]; omega
theorem wrap_bd (x : Int) : -9223372036854775808 ≤ wrap64 x ∧ wrap64 x ≤ 9223372036854775807 := by
  have h : wrap64 x = (x + 9223372036854775808) % 18446744073709551616 - 9223372036854775808 := by first | rfl | (simp [wrap64, IntKind.wrap]) 
  rw [h]; omega
set_option maxHeartbeats 4000000 in
/-- WHAT appendCopy COMES TO: it hands back a slice that owns zs and then the stream. -/
theorem appendCopy_any (v : Value) (zs : List Int) (base : Nat) (off size : Int) (F : Nat) (w : World) (h : w.ownsRow base 5 1 v zs.length (zs.map (Value.int .u8))) (hb : base ≤ w.heap.size) (hlen : zs.length + 7 * F ≤ 1900000)
    (hs : size ≤ 65536 * F) (hs0 : size ≤ 1073741824) (ho : -9223372036854775808 ≤ off) (ho2 : off ≤ 9223372036854775807) :
    Calls Try.prog 25 #[v, .int .i64 off, .int .i64 size] w fun e w' => ∃ v', e = .returned v' ∧ w'.ownsRow base 5 1 v' (zs ++ enc F off size).length ((zs ++ enc F off size).map (Value.int .u8)) ∧ Below base w w' := by
  obtain ⟨i0, hi, hz0, hz1, hz2⟩ := info_parts Try.info5
  obtain ⟨T, HT⟩ : ∃ T, Hid (T = zs ++ enc F off size) := ⟨_, rfl⟩
  have HT' : zs ++ enc F off size = T := HT.out.symm
  rw [HT']
  clear HT'
  go_enter Try.func25, Try.ntmps25
  go_wp2
  go_loopg [0, 1, 2] F (fun f s0 s1 s2 wr => ∃ (o s : Int) (L : List Int), s1 = .int .i64 o ∧ s2 = .int .i64 s ∧ wr.ownsRow base 5 1 s0 L.length (L.map (Value.int .u8)) ∧ s ≤ 1073741824 ∧ s ≤ 65536 * f ∧ L.length + 7 * f ≤ 1900000 ∧ base ≤ wr.heap.size ∧ -9223372036854775808 ≤ o ∧ o ≤ 9223372036854775807 ∧ Below base w wr ∧ Hid (T = L ++ enc f o s))
  case atStart => exact ⟨off, size, zs, rfl, rfl, h, hs0, hs, hlen, hb, ho, ho2, Below.refl _ _, HT⟩
  case round =>
    clear h HT hlen hs hs0 ho ho2 hb
    obtain ⟨o, s, L, rfl, rfl, hO, hs1, hsf, hL, hbr, ho1, ho2, hBr, HTr⟩ := hrel
    by_cases hpos : 0 < s
    · have hform : ∃ a c, u0 = .slice a L.length c := by
        rcases hO.2 with ⟨rfl, h0⟩ | ⟨g, cap, cur, rfl, _⟩
        · exact ⟨none, 0, by rw [h0]⟩
        · exact ⟨_, _, rfl⟩
      obtain ⟨a, c, rfl⟩ := hform
      go_upto_region 2 with fail
      go_cut [7] (fun s7 wc => wr = wc ∧ ∃ n : Int, s7 = .int .i64 n ∧ 1 ≤ n ∧ n ≤ 65536 ∧ n ≤ s ∧ (n = 65536 ∨ n = s))
      case first =>
        go_wp2_with fail
        all_goals go_meet
        case rel => exact ⟨rfl, _, rfl, by omega, by omega, by omega, by omega⟩
        case rel => exact ⟨rfl, _, rfl, by omega, by omega, by omega, by omega⟩
      case rest =>
      obtain ⟨rfl, n, rfl, hn1, hn2, hn3, Hn⟩ := hcut
      go_wp2_with (at_builtin; refine wpList_append_lies _ rfl _ _ _ rfl base 5 i0 (.int .u8 0) 1 1 Try.underlying22 hi hz0 hz1 hz2 rfl (by decide) _ _ _ rfl (hO.alloc _) ⟨wr.heap.size, 0, none⟩ 1 1 [.int .u8 128] rfl rfl ?c1 ?c2 (by decide) ?c3 ?c4 ?c5 (wr.heap.size + 1) (by simp) ?_)
      case c1 => exact cell_one_new _ _ _
      case c2 => intro u hu; simp at hu; subst hu; rfl
      case c3 => unfold maxLen; omega
      case c4 => omega
      case c5 => simp; omega
      intro g cap w1 hown hgrow hat hlt
      have r0 : R1 base w w1 L 128 [] g cap := by
        refine ⟨by simpa using hown, (hBr.alloc hbr _).grown hgrow (by simp; omega) (fun k e => (hO.lt k e).1), by have := hgrow.size; simp at this; omega⟩
      clear hown hgrow hat hlt hO
      go_wp2_with fail
      go_loopg [0, 22] 4 (fun k s0 s22 wi => ∃ (j g cap : Nat), j ≤ 4 ∧ k = 4 - j ∧ s22 = .int .i64 j ∧ s0 = .slice (some ⟨g, 0, none⟩) (L.length + 1 + (bs o j).length) cap ∧ R1 base w wi L (128 + mk o j) (bs o j) g cap)
      case atStart => exact ⟨0, g, cap, by omega, rfl, rfl, rfl, r0⟩
      case round =>
        obtain ⟨j, g, cap, hj, rfl, rfl, rfl, r1⟩ := hrel
        clear r0
        rcases (show j = 0 ∨ j = 1 ∨ j = 2 ∨ j = 3 ∨ j = 4 by omega) with rfl | rfl | rfl | rfl | rfl
        · have hbl : (L.length + 1 + (bs o 0).length : Nat) ≤ 2000009 := by have := bs_len o 0; omega
          by_cases hc : o % 256 = 0
          · have hc1 : (o % 256 != 0) = false := by simpa using hc
            clear hc
            go_wp2
            go_roundg (4 - 1)
            case measure => omega
            case rel => exact ⟨1, g, cap, by omega, rfl, by go_num, by rw [bs_zero0 (by simpa using hc1)], by rw [bs_zero0 (by simpa using hc1), mk_zero0 (by simpa using hc1)]; exact r1⟩
          · have hc1 : (o % 256 != 0) = true := by simpa using hc
            have hor : bits .or .u8 (128 + mk o 0) 1 = 128 + mk o 1 := or_mk0 o hc
            have q1 := r1.cell
            have q2 := r1.frozen L.length
            clear hc
            go_upto_region 10 with fail
            go_region
            all_goals go_upto_region 11 with fail
            all_goals
              have r2 := (r1.store (128 + mk o 1)).drew
              clear q1 q2 r1
              go_wp2_with (at_builtin; (refine wpList_append_lies _ rfl _ _ _ rfl base 5 i0 (.int .u8 0) 1 1 Try.underlying22 hi hz0 hz1 hz2 rfl (by decide) _ _ _ rfl (r2.own.alloc _) ⟨wr.heap.size, 0, none⟩ 1 1 [.int .u8 (o % 256)] rfl rfl (by exact one_new_drew _ _ _ _ (by simp)) (by intro u hu; simp at hu; subst hu; rfl) (by decide) (by unfold maxLen; omega) (by omega) (by have := r2.size; simp at this ⊢; omega) (wr.heap.size + 1) (by simp) ?_); intro g' cap' w2 hown hgrow hat hlt; have r3 := r2.push hown hgrow; clear hown hgrow hat hlt)
              go_roundg (4 - 1)
              case measure => omega
              case rel => exact ⟨1, g', cap', by omega, rfl, by go_num, by rw [bs_one0 (by simpa using hc1)]; simp [Nat.add_assoc], by rw [bs_one0 (by simpa using hc1)]; exact r3⟩
        · have hbl : (L.length + 1 + (bs o 1).length : Nat) ≤ 2000009 := by have := bs_len o 1; omega
          by_cases hc : o / 256 % 256 = 0
          · have hc1 : (o / 256 % 256 != 0) = false := by simpa using hc
            clear hc
            go_wp2
            go_roundg (4 - 2)
            case measure => omega
            case rel => exact ⟨2, g, cap, by omega, rfl, by go_num, by rw [bs_zero1 (by simpa using hc1)], by rw [bs_zero1 (by simpa using hc1), mk_zero1 (by simpa using hc1)]; exact r1⟩
          · have hc1 : (o / 256 % 256 != 0) = true := by simpa using hc
            have hor : bits .or .u8 (128 + mk o 1) 2 = 128 + mk o 2 := or_mk1 o hc
            have q1 := r1.cell
            have q2 := r1.frozen L.length
            clear hc
            go_upto_region 10 with fail
            go_region
            all_goals go_upto_region 11 with fail
            all_goals
              have r2 := (r1.store (128 + mk o 2)).drew
              clear q1 q2 r1
              go_wp2_with (at_builtin; (refine wpList_append_lies _ rfl _ _ _ rfl base 5 i0 (.int .u8 0) 1 1 Try.underlying22 hi hz0 hz1 hz2 rfl (by decide) _ _ _ rfl (r2.own.alloc _) ⟨wr.heap.size, 0, none⟩ 1 1 [.int .u8 (o / 256 % 256)] rfl rfl (by exact one_new_drew _ _ _ _ (by simp)) (by intro u hu; simp at hu; subst hu; rfl) (by decide) (by unfold maxLen; omega) (by omega) (by have := r2.size; simp at this ⊢; omega) (wr.heap.size + 1) (by simp) ?_); intro g' cap' w2 hown hgrow hat hlt; have r3 := r2.push hown hgrow; clear hown hgrow hat hlt)
              go_roundg (4 - 2)
              case measure => omega
              case rel => exact ⟨2, g', cap', by omega, rfl, by go_num, by rw [bs_one1 (by simpa using hc1)]; simp [Nat.add_assoc], by rw [bs_one1 (by simpa using hc1)]; exact r3⟩
        · have hbl : (L.length + 1 + (bs o 2).length : Nat) ≤ 2000009 := by have := bs_len o 2; omega
          by_cases hc : o / 65536 % 256 = 0
          · have hc1 : (o / 65536 % 256 != 0) = false := by simpa using hc
            clear hc
            go_wp2
            go_roundg (4 - 3)
            case measure => omega
            case rel => exact ⟨3, g, cap, by omega, rfl, by go_num, by rw [bs_zero2 (by simpa using hc1)], by rw [bs_zero2 (by simpa using hc1), mk_zero2 (by simpa using hc1)]; exact r1⟩
          · have hc1 : (o / 65536 % 256 != 0) = true := by simpa using hc
            have hor : bits .or .u8 (128 + mk o 2) 4 = 128 + mk o 3 := or_mk2 o hc
            have q1 := r1.cell
            have q2 := r1.frozen L.length
            clear hc
            go_upto_region 10 with fail
            go_region
            all_goals go_upto_region 11 with fail
            all_goals
              have r2 := (r1.store (128 + mk o 3)).drew
              clear q1 q2 r1
              go_wp2_with (at_builtin; (refine wpList_append_lies _ rfl _ _ _ rfl base 5 i0 (.int .u8 0) 1 1 Try.underlying22 hi hz0 hz1 hz2 rfl (by decide) _ _ _ rfl (r2.own.alloc _) ⟨wr.heap.size, 0, none⟩ 1 1 [.int .u8 (o / 65536 % 256)] rfl rfl (by exact one_new_drew _ _ _ _ (by simp)) (by intro u hu; simp at hu; subst hu; rfl) (by decide) (by unfold maxLen; omega) (by omega) (by have := r2.size; simp at this ⊢; omega) (wr.heap.size + 1) (by simp) ?_); intro g' cap' w2 hown hgrow hat hlt; have r3 := r2.push hown hgrow; clear hown hgrow hat hlt)
              go_roundg (4 - 3)
              case measure => omega
              case rel => exact ⟨3, g', cap', by omega, rfl, by go_num, by rw [bs_one2 (by simpa using hc1)]; simp [Nat.add_assoc], by rw [bs_one2 (by simpa using hc1)]; exact r3⟩
        · have hbl : (L.length + 1 + (bs o 3).length : Nat) ≤ 2000009 := by have := bs_len o 3; omega
          by_cases hc : o / 16777216 % 256 = 0
          · have hc1 : (o / 16777216 % 256 != 0) = false := by simpa using hc
            clear hc
            go_wp2
            go_roundg (4 - 4)
            case measure => omega
            case rel => exact ⟨4, g, cap, by omega, rfl, by go_num, by rw [bs_zero3 (by simpa using hc1)], by rw [bs_zero3 (by simpa using hc1), mk_zero3 (by simpa using hc1)]; exact r1⟩
          · have hc1 : (o / 16777216 % 256 != 0) = true := by simpa using hc
            have hor : bits .or .u8 (128 + mk o 3) 8 = 128 + mk o 4 := or_mk3 o hc
            have q1 := r1.cell
            have q2 := r1.frozen L.length
            clear hc
            go_upto_region 10 with fail
            go_region
            all_goals go_upto_region 11 with fail
            all_goals
              have r2 := (r1.store (128 + mk o 4)).drew
              clear q1 q2 r1
              go_wp2_with (at_builtin; (refine wpList_append_lies _ rfl _ _ _ rfl base 5 i0 (.int .u8 0) 1 1 Try.underlying22 hi hz0 hz1 hz2 rfl (by decide) _ _ _ rfl (r2.own.alloc _) ⟨wr.heap.size, 0, none⟩ 1 1 [.int .u8 (o / 16777216 % 256)] rfl rfl (by exact one_new_drew _ _ _ _ (by simp)) (by intro u hu; simp at hu; subst hu; rfl) (by decide) (by unfold maxLen; omega) (by omega) (by have := r2.size; simp at this ⊢; omega) (wr.heap.size + 1) (by simp) ?_); intro g' cap' w2 hown hgrow hat hlt; have r3 := r2.push hown hgrow; clear hown hgrow hat hlt)
              go_roundg (4 - 4)
              case measure => omega
              case rel => exact ⟨4, g', cap', by omega, rfl, by go_num, by rw [bs_one3 (by simpa using hc1)]; simp [Nat.add_assoc], by rw [bs_one3 (by simpa using hc1)]; exact r3⟩
        · go_wp2_with fail
          go_loopg [0, 45] 2 (fun k s0 s45 wi => ∃ (j g cap : Nat), j ≤ 2 ∧ k = 2 - j ∧ s45 = .int .i64 j ∧ s0 = .slice (some ⟨g, 0, none⟩) (L.length + 1 + (bs o 4 ++ bs n j).length) cap ∧ R1 base w wi L (128 + mk o 4 + 16 * mk n j) (bs o 4 ++ bs n j) g cap)
          case atStart => exact ⟨0, g, cap, by omega, rfl, rfl, by simp [bs], by simpa [bs, mk] using r1⟩
          case round =>
            clear r1
            obtain ⟨j, g, cap, hj, rfl, rfl, rfl, r1⟩ := hrel
            rcases (show j = 0 ∨ j = 1 ∨ j = 2 by omega) with rfl | rfl | rfl
            · obtain ⟨N, HN⟩ : ∃ N, Hid ((bs o 4 ++ bs n 0).length = N) := ⟨_, rfl⟩
              have hbl : L.length + 1 + N ≤ 2000009 := by have := bs_len o 4; have := bs_len n 0; have e := HN.out; rw [List.length_append] at e; omega
              have HN' := HN.out
              rw [HN']
              clear HN'
              by_cases hc : n % 256 = 0
              · have hc1 : (n % 256 != 0) = false := by simpa using hc
                clear hc
                go_wp2
                go_roundg (2 - 1)
                case measure => omega
                case rel => exact ⟨1, g, cap, by omega, rfl, by go_num, by rw [bs_zero0 (by simpa using hc1), HN.out], by rw [bs_zero0 (by simpa using hc1), mk_zero0 (by simpa using hc1)]; exact r1⟩
              · have hc1 : (n % 256 != 0) = true := by simpa using hc
                have hor : bits .or .u8 (128 + mk o 4 + 16 * mk n 0) 16 = 128 + mk o 4 + 16 * mk n 1 := or_nk0 o n hc
                have q1 := r1.cell
                have q2 := r1.frozen L.length
                clear hc
                go_upto_region 18 with fail
                go_region
                all_goals go_upto_region 19 with fail
                all_goals
                  have r2 := (r1.store (128 + mk o 4 + 16 * mk n 1)).drew
                  have r2o := r2.own
                  rw [HN.out] at r2o
                  clear q1 q2 r1
                  go_wp2_with (at_builtin; refine wpList_append_lies _ rfl _ _ _ rfl base 5 i0 (.int .u8 0) 1 1 Try.underlying22 hi hz0 hz1 hz2 rfl (by decide) _ _ _ rfl (r2o.alloc _) ⟨wr.heap.size, 0, none⟩ 1 1 [.int .u8 (n % 256)] rfl rfl (by exact one_new_drew _ _ _ _ (by simp)) (by intro u hu; simp at hu; subst hu; rfl) (by decide) (by unfold maxLen; omega) (by omega) (by have := r2.size; simp at this ⊢; omega) (wr.heap.size + 1) (by simp) ?_; intro g' cap' w2 hown hgrow hat hlt; rw [← HN.out] at hown hgrow; have r3 := r2.push hown hgrow; clear hown hgrow hat hlt r2o)
                  go_roundg (2 - 1)
                  case measure => omega
                  case rel => exact ⟨1, g', cap', by omega, rfl, by go_num, by rw [bs_one0 (by simpa using hc1), ← HN.out]; simp [Nat.add_assoc], by rw [bs_one0 (by simpa using hc1), ← List.append_assoc]; exact r3⟩
            · obtain ⟨N, HN⟩ : ∃ N, Hid ((bs o 4 ++ bs n 1).length = N) := ⟨_, rfl⟩
              have hbl : L.length + 1 + N ≤ 2000009 := by have := bs_len o 4; have := bs_len n 1; have e := HN.out; rw [List.length_append] at e; omega
              have HN' := HN.out
              rw [HN']
              clear HN'
              by_cases hc : n / 256 % 256 = 0
              · have hc1 : (n / 256 % 256 != 0) = false := by simpa using hc
                clear hc
                go_wp2
                go_roundg (2 - 2)
                case measure => omega
                case rel => exact ⟨2, g, cap, by omega, rfl, by go_num, by rw [bs_zero1 (by simpa using hc1), HN.out], by rw [bs_zero1 (by simpa using hc1), mk_zero1 (by simpa using hc1)]; exact r1⟩
              · have hc1 : (n / 256 % 256 != 0) = true := by simpa using hc
                have hor : bits .or .u8 (128 + mk o 4 + 16 * mk n 1) 32 = 128 + mk o 4 + 16 * mk n 2 := or_nk1 o n hc
                have q1 := r1.cell
                have q2 := r1.frozen L.length
                clear hc
                go_upto_region 18 with fail
                go_region
                all_goals go_upto_region 19 with fail
                all_goals
                  have r2 := (r1.store (128 + mk o 4 + 16 * mk n 2)).drew
                  have r2o := r2.own
                  rw [HN.out] at r2o
                  clear q1 q2 r1
                  go_wp2_with (at_builtin; refine wpList_append_lies _ rfl _ _ _ rfl base 5 i0 (.int .u8 0) 1 1 Try.underlying22 hi hz0 hz1 hz2 rfl (by decide) _ _ _ rfl (r2o.alloc _) ⟨wr.heap.size, 0, none⟩ 1 1 [.int .u8 (n / 256 % 256)] rfl rfl (by exact one_new_drew _ _ _ _ (by simp)) (by intro u hu; simp at hu; subst hu; rfl) (by decide) (by unfold maxLen; omega) (by omega) (by have := r2.size; simp at this ⊢; omega) (wr.heap.size + 1) (by simp) ?_; intro g' cap' w2 hown hgrow hat hlt; rw [← HN.out] at hown hgrow; have r3 := r2.push hown hgrow; clear hown hgrow hat hlt r2o)
                  go_roundg (2 - 2)
                  case measure => omega
                  case rel => exact ⟨2, g', cap', by omega, rfl, by go_num, by rw [bs_one1 (by simpa using hc1), ← HN.out]; simp [Nat.add_assoc], by rw [bs_one1 (by simpa using hc1), ← List.append_assoc]; exact r3⟩
            · go_wp2
              obtain ⟨gk, rfl⟩ : ∃ k, gk = k + 1 := ⟨gk - 1, by omega⟩
              have hil : (L ++ instr o n).length = L.length + 1 + (bs o 4 ++ bs n 2).length := by simp [instr]; omega
              have hi7 := instr_len o n
              go_roundg gk
              case measure => omega
              case rel =>
                refine ⟨wrap64 (o + n), s - n, L ++ instr o n, rfl, rfl, ?_, by omega, by omega, by simp only [List.length_append]; omega, r1.size, (wrap_bd _).1, (wrap_bd _).2, r1.below, ?_⟩
                · rw [hil]; exact r1.own
                · have e := HTr.out
                  rw [enc_step gk o s n hpos (by omega), ← List.append_assoc] at e
                  show T = _
                  rw [e, enc_congr gk (s - n) (wrap_mod (o + n)).symm]
    · have hnil : enc gk o s = [] := enc_nil _ _ _ (by omega)
      have HE : Hid (T = L) := by have := HTr.out; rw [hnil, List.append_nil] at this; exact this
      clear hnil HTr
      go_wp2
      go_ret
      exact ⟨_, rfl, by rw [HE.out]; exact hO, hBr⟩
end Go.Proofs.Qxb6605554a
