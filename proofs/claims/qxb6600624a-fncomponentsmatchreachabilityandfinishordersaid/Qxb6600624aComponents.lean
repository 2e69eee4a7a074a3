import Derived.Test.Qxb6600624aStart
import Derived.StillTailTactics
set_option linter.unusedVariables false
set_option linter.unusedSimpArgs false
namespace Go.Proofs.Qxb6600624a
open Go.RowKit

set_option maxHeartbeats 40000000 in
set_option maxRecDepth 100000 in
theorem components_any (adj : Nat → List Nat) (n c : Nat) (a : Option Addr) (sb so : Nat) (A : Nat → Option Addr) (C RB RO : Nat → Nat) (I : Nat → TS → Prop) (w : World) (hn : n ≤ 131072) (ha : 0 < n → a = some ⟨sb, so, none⟩) (hS : Succ w n adj sb so A C RB RO) (hK : Keeps adj n I) :
    Calls Try.prog 20 #[.slice a n c] w fun e w' => e = .returned (.slice (some ⟨w.heap.size, 0, none⟩) n n) ∧ Below w.heap.size w w' ∧ ∃ T : TS, I n T ∧ T.segs = [] ∧ w'.rowIs w.heap.size 3 n (fun i => .int .i64 (T.comp i : Int)) := by
  have hmk := run_make_row' (P := Try.prog) 27 3 (.int .i64 0) 8 Try.underlying27 Try.info3 rfl .i64 .i64 n (by omega) (by omega)
  have hmk2 := run_make_row' (P := Try.prog) 29 4 (.bool false) 1 Try.underlying29 Try.info4 rfl .i64 .i64 n (by omega) (by omega)
  go_enter Try.func20, Try.ntmps20
  obtain ⟨H, hH⟩ : ∃ H, H = w.heap.size := ⟨_, rfl⟩
  go_wp2_with fail
  clear hmk hmk2
  simp only [← hH, Nat.add_assoc, Nat.reduceAdd]
  have h0 := tw_start n H w hH
  unfold laid0 at h0
  generalize (((((((((w.alloc (.cells (madeCells #[.int .i64 0] n) 3)).alloc (.cells (madeCells #[.int .i64 0] n) 3)).alloc (.cells #[.slice (some ⟨H + 1, 0, none⟩) n n] 27)).alloc (.cells (madeCells #[.int .i64 0] n) 3)).alloc
    (.cells #[.slice (some ⟨H + 3, 0, none⟩) n n] 27)).alloc (.cells (madeCells #[.bool false] n) 4)).alloc (.cells #[.slice (some ⟨H + 5, 0, none⟩) n n] 29)).alloc (.cells #[.slice none 0 0] 27)).alloc (.cells #[.slice none 0 0] 60)).alloc (.cells #[.int .i64 0] 3) = w1 at h0 ⊢
  have HS : Hid (Succ w n adj sb so A C RB RO) := hS
  have HH : Hid (H = w.heap.size) := hH
  clear hS hH
  go_loopg [11, 32] n (fun g s11 s32 wr => ∃ (r : Nat) (T : TS) (sv fv : Value), r ≤ n ∧ g = n - r ∧ s32 = .int .i64 (r : Int) ∧ s11 = .int .i64 (T.cnt : Int) ∧ TW H n w wr T.tm sv fv ∧ Hid (I r T) ∧ Hid (T.segs = []))
  case atStart => exact ⟨0, T0, _, _, by omega, rfl, rfl, rfl, h0, hK.start, rfl⟩
  case round =>
    obtain ⟨r, T, sv, fv, hr, rfl, rfl, rfl, hT, HI, Hsg⟩ := hrel
    clear h0
    by_cases hrn : r < n
    · have hrz : (r : Int) < (n : Int) := by omega
      have c2 := cell_of_one hT.bidx
      have d1 : wr.cell? ⟨H + 1, r, none⟩ = some (.int .i64 (T.idx r : Int)) := hT.idx.cell hrn
      by_cases hi : T.idx r = 0
      · have hiz : ((T.idx r : Int) != 0) = false := by rw [hi]; rfl
        have Hi : Hid (T.idx r = 0) := hi
        clear hi
        go_wp2_with fail
        have hInv := hK.inv r T HI.out
        refine (visit_any H n r w wr T.tm sv fv hT hrn hn (Nat.le_trans hInv.vis_le hn) (Nat.le_trans hInv.stk_le hn) (Nat.le_trans hInv.frs_le hn)).mono ?_
        rintro e w2 ⟨rfl, sv2, fv2, hT2⟩
        rw [← tm_visit] at hT2
        have HI2 : Hid (I r (T.visit r)) := hK.root r T HI.out hrn Hsg.out Hi.out
        have Hi2 : Hid ((T.visit r).idx r ≠ 0) := by show upd T.idx r (T.vis + 1) r ≠ 0; rw [upd_same]; omega
        have hcnt : (T.visit r).cnt = T.cnt := rfl
        rw [← hcnt]
        generalize T.visit r = T2 at hT2 HI2 Hi2 ⊢
        clear hcnt hInv hT HI Hsg Hi hiz c2 d1
        go_wp2_with fail
        go_loopg [11] (mu adj n T2) (fun g s11 wi => ∃ (T : TS) (sv fv : Value), g = mu adj n T ∧ s11 = .int .i64 (T.cnt : Int) ∧ TW H n w wi T.tm sv fv ∧ Hid (I r T) ∧ Hid (T.idx r ≠ 0))
        case atStart => exact ⟨T2, sv2, fv2, rfl, rfl, hT2, HI2, Hi2⟩
        case round =>
          clear hT2 HI2 Hi2
          obtain ⟨T, sv, fv, rfl, rfl, hT, HI, Hi⟩ := hrel
          have c8 := cell_of_one hT.bfrs
          by_cases hsg : T.segs = []
          · have HI2 := hK.skip r T HI.out hrn hsg Hi.out
            have hfl : T.tm.frs.length = 0 := by show (frsOf T.segs).length = 0; rw [hsg]; rfl
            have hfv : ∃ ao cp, fv = .slice ao 0 cp := by
              have ho := hT.frs
              rw [hfl] at ho
              rcases ho.2 with ⟨rfl, _⟩ | ⟨g, cap, cur, rfl, _⟩
              · exact ⟨none, 0, rfl⟩
              · exact ⟨_, _, rfl⟩
            obtain ⟨ao, cp, rfl⟩ := hfv
            have Hsg : Hid (T.segs = []) := hsg
            have HI3 : Hid (I (r + 1) T) := HI2
            clear hsg HI2 HI Hi hfl
            go_wp2_with fail
            go_roundg (n - (r + 1))
            case measure => omega
            case rel => exact ⟨r + 1, T, sv, _, by omega, rfl, by go_num, rfl, hT, HI3, Hsg⟩
          · obtain ⟨S, v, k, D, hsS⟩ : ∃ S v k D, T.segs = S ++ [(v, k, D)] := by
              rcases List.eq_nil_or_concat T.segs with h | ⟨S, x, h⟩
              · exact absurd h hsg
              · obtain ⟨v, k, D⟩ := x; exact ⟨S, v, k, D, by rw [h, List.concat_eq_append]⟩
            clear hsg
            have hInv := hK.inv r T HI.out
            have hmem : (v, k, D) ∈ T.segs := by rw [hsS]; simp
            have hvn : v < n := hInv.node_lt hmem
            have hkl : k ≤ (adj v).length := hInv.seg _ hmem
            have hft := frs_top hsS
            have hlen : T.tm.frs.length = S.length + 1 := by rw [hft, List.length_append, frsOf_len]; rfl
            obtain ⟨g, cap, rfl, hgl, hcap⟩ := hT.frsForm hlen
            have hml : S.length + 1 ≤ 131072 := by have := hInv.frs_le; rw [show T.frs.length = S.length + 1 from hlen] at this; omega
            obtain ⟨t0, t1, t2⟩ := hT.topFrs hft (frsOf_len S).symm
            obtain ⟨m, Hm⟩ : ∃ m, Hid (m = S.length) := ⟨_, rfl⟩
            have hmm := Hm.out.symm
            rw [hmm] at hT t0 t1 hml hcap
            clear c8
            have c8 := cell_of_one hT.bfrs
            have hll := (HS.out).len v hvn
            have row0 : wr.cell? ⟨sb, so + v, none⟩ = some (.slice (A v) (adj v).length (C v)) := by
              have h1 := HS.out.row v hvn
              rw [hT.below.cell (by rw [HH.out]; exact World.block_lt_of_cell? _ _ h1)]; exact h1
            obtain rfl := ha (by omega)
            have hvz : (v : Int) < (n : Int) := by omega
            have HsS : Hid (T.segs = S ++ [(v, k, D)]) := hsS
            have Hft : Hid (T.tm.frs = frsOf S ++ [(v, k)]) := hft
            have HInv : Hid (Inv adj n r T) := hInv
            clear hsS hft hInv hmem hlen hmm
            by_cases hk : k < (adj v).length
            · have hkz : (k : Int) < ((adj v).length : Int) := by omega
              have hkc := HS.out.cell v hvn k hk
              have cellk : wr.cell? ⟨RB v, RO v + k, none⟩ = some (.int .i64 (((adj v).getD k 0 : Nat) : Int)) := by
                rw [hT.below.cell (by rw [HH.out]; exact World.block_lt_of_cell? _ _ hkc.2)]; exact hkc.2
              rw [hkc.1] at row0
              obtain ⟨x, hx⟩ : ∃ x, (adj v)[k]? = some x := ⟨_, List.getElem?_eq_getElem hk⟩
              have hxx : (adj v).getD k 0 = x := by simp [List.getD, hx]
              rw [hxx] at cellk
              have hxn : x < n := HS.out.lt v hvn x (adj_getElem_mem hx)
              have hxz : (x : Int) < (n : Int) := by omega
              have Hx : Hid ((adj v)[k]? = some x) := hx
              have Hk : Hid (k < (adj v).length) := hk
              have hT1 := ((hT.nextFrs (k' := k + 1) Hft.out (by rw [frsOf_len]; exact Hm.out)).drew).drew
              rw [show ((k + 1 : Nat) : Int) = (k : Int) + 1 from by omega] at hT1
              clear hkc hxx hx
              go_upto_region 17 with fail
              go_region
              go_upto_region 18 with fail
              go_region
              go_upto_region 20 with fail
              generalize (wr.setCell ⟨g, m * 2 + 1, none⟩ (.int .i64 ((k : Int) + 1))).drew.drew = w3 at hT1 ⊢
              clear row0 cellk t0 t1 t2 c8 hT
              have c2 := cell_of_one hT1.bidx
              have d1 : w3.cell? ⟨H + 1, x, none⟩ = some (.int .i64 (T.idx x : Int)) := hT1.idx.cell hxn
              by_cases hi : T.idx x = 0
              · have hiz : ((T.idx x : Int) == 0) = true := by rw [hi]; rfl
                have HI1 : Hid (I r ((T.visit x).setSegs (S ++ [(v, k + 1, D), (x, 0, [])]))) := hK.n1 r T S v k D x HI.out HsS.out Hx.out hi
                have Hmu : Hid (mu adj n ((T.visit x).setSegs (S ++ [(v, k + 1, D), (x, 0, [])])) < mu adj n T) := mu_n1 HsS.out Hk.out hxn hi
                have Hi2 : Hid (((T.visit x).setSegs (S ++ [(v, k + 1, D), (x, 0, [])])).idx r ≠ 0) := by
                  show upd T.idx x (T.vis + 1) r ≠ 0
                  by_cases e : r = x
                  · subst e; rw [upd_same]; omega
                  · rw [upd_other _ _ e]; exact Hi.out
                clear hi
                go_wp2_with fail
                have hInv := HInv.out
                refine (visit_any H n x w w3 _ sv _ hT1 hxn hn (Nat.le_trans hInv.vis_le hn) (Nat.le_trans hInv.stk_le hn) (by show (frsOf S ++ [(v, k + 1)]).length ≤ _; rw [List.length_append, frsOf_len, ← Hm.out]; exact hml)).mono ?_
                rintro e w4 ⟨rfl, sv4, fv4, hT4⟩
                have hT5 : TW H n w w4 ((T.visit x).setSegs (S ++ [(v, k + 1, D), (x, 0, [])])).tm sv4 fv4 := by rw [tm_n1 HsS.out]; exact hT4
                clear hT4 hInv hT1 c2 d1
                go_wp2_with fail
                go_roundg (mu adj n ((T.visit x).setSegs (S ++ [(v, k + 1, D), (x, 0, [])])))
                case measure => exact Hmu.out
                case rel => exact ⟨_, sv4, fv4, rfl, rfl, hT5, HI1, Hi2⟩
              · have hiz : ((T.idx x : Int) == 0) = false := by simpa using hi
                have c6 := cell_of_one hT1.bons
                have d5 : w3.cell? ⟨H + 5, x, none⟩ = some (.bool (T.ons x)) := hT1.ons.cell hxn
                have Hmu : Hid (mu adj n (T.setSegs (S ++ [(v, k + 1, D)])) < mu adj n T) := mu_adv 0 HsS.out Hk.out
                cases ho : T.ons x with
                | false =>
                  rw [ho] at d5
                  have HI1 : Hid (I r (T.setSegs (S ++ [(v, k + 1, D)]))) := hK.n3 r T S v k D x HI.out HsS.out Hx.out hi ho
                  have hT5 : TW H n w w3 (T.setSegs (S ++ [(v, k + 1, D)])).tm sv (.slice (some ⟨g, 0, none⟩) (m + 1) cap) := by rw [tm_n3 HsS.out]; exact hT1
                  clear hi ho hT1
                  go_wp2_with fail
                  go_roundg (mu adj n (T.setSegs (S ++ [(v, k + 1, D)])))
                  case measure => exact Hmu.out
                  case rel => exact ⟨_, sv, _, rfl, rfl, hT5, HI1, Hi⟩
                | true =>
                  rw [ho] at d5
                  have HI1 : Hid (I r ((T.setLow v (T.idx x)).setSegs (S ++ [(v, k + 1, D)]))) := hK.n2 r T S v k D x HI.out HsS.out Hx.out hi ho
                  have c4 := cell_of_one hT1.blow
                  have d3 : w3.cell? ⟨H + 3, v, none⟩ = some (.int .i64 (T.low v : Int)) := hT1.low.cell hvn
                  have e3 := hT1.low.frozen v
                  have t0 := (hT1.topFrs (A := frsOf S) rfl (by rw [frsOf_len]; exact Hm.out)).1
                  clear hi ho
                  go_upto_region 23 with fail
                  go_cut [] (fun wc => TW H n w wc ((T.setLow v (T.idx x)).setSegs (S ++ [(v, k + 1, D)])).tm sv (.slice (some ⟨g, 0, none⟩) (m + 1) cap))
                  case first =>
                    by_cases hle : T.idx x < T.low v
                    · have hlz : (T.idx x : Int) < (T.low v : Int) := by omega
                      have hT5 := (hT1.setLow v (T.idx x)).drew
                      have HE : Hid (min (T.low v) (T.idx x) = T.idx x) := by show min _ _ = _; omega
                      go_still_tail 18, (by kernel_rfl)
                      go_wp2_with fail
                      go_meet
                      case rel => rw [tm_n2 HsS.out]; show TW _ _ _ _ { T.tm with low := upd T.tm.low v (min (T.low v) (T.idx x)), frs := frsOf S ++ [(v, k + 1)] } _ _; rw [HE.out]; exact hT5
                    · have hlz : (T.low v : Int) ≤ (T.idx x : Int) := by omega
                      have hlz2 : ¬ (T.idx x : Int) < (T.low v : Int) := by omega
                      have hT5 := (hT1.setLow v (T.low v)).drew
                      have HE : Hid (min (T.low v) (T.idx x) = T.low v) := by show min _ _ = _; omega
                      go_still_tail 18, (by kernel_rfl)
                      go_wp2_with fail
                      go_meet
                      case rel => rw [tm_n2 HsS.out]; show TW _ _ _ _ { T.tm with low := upd T.tm.low v (min (T.low v) (T.idx x)), frs := frsOf S ++ [(v, k + 1)] } _ _; rw [HE.out]; exact hT5
                  case rest =>
                  clear c2 d1 c6 d5 c4 d3 e3 t0 hT1
                  go_wp2_with fail
                  go_roundg (mu adj n ((T.setLow v (T.idx x)).setSegs (S ++ [(v, k + 1, D)])))
                  case measure => exact Hmu.out
                  case rel => exact ⟨_, sv, _, rfl, rfl, hcut, HI1, Hi⟩
            · have hkd : k = (adj v).length := by omega
              have hkz : ¬ (k : Int) < ((adj v).length : Int) := by omega
              have Hkd : Hid (k = (adj v).length) := hkd
              have hT1 := (hT.popFrs Hft.out (by rw [frsOf_len]; exact Hm.out)).drew
              have f8 := free_of_one hT.bfrs
              have hcapz : ((m : Nat) : Int) ≤ (cap : Int) := by omega
              have hcap0 : ¬ cap = 0 := by omega
              clear hkd
              go_upto_region 17 with fail
              go_region
              go_upto_region 26 with fail
              generalize (wr.setCell ⟨H + 8, 0, none⟩ (.slice (some ⟨g, 0, none⟩) m cap)).drew = w4 at hT1 ⊢
              clear hT t0 t1 t2 c8 f8 row0
              have c8 := cell_of_one hT1.bfrs
              by_cases hm0 : m = 0
              · obtain rfl : S = [] := List.eq_nil_of_length_eq_zero (by rw [← Hm.out]; exact hm0)
                subst hm0
                have hT2 := hT1
                have Hlv : Hid (T.tm.low v = T.low v) := rfl
                have Hroot : Hid (T.low v = T.idx v) := by
                  have h1 := HInv.out.low1 (v, k, D) (by rw [HsS.out]; simp)
                  have h2 := HInv.out.low2 (v, k, D) (by rw [HsS.out]; rfl) (v, k, D) (by rw [HsS.out]; simp)
                  exact Nat.le_antisymm h1 h2
                go_upto_region 29 with fail
                clear hT1 c8
                have d3 : w4.cell? ⟨H + 3, v, none⟩ = some (.int .i64 (T.low v : Int)) := by have h1 : w4.cell? ⟨H + 3, v, none⟩ = some (.int .i64 ((T.tm.low v : Nat) : Int)) := hT2.low.cell hvn; rw [show T.tm.low v = T.low v from Hlv.out] at h1; exact h1
                have d1 : w4.cell? ⟨H + 1, v, none⟩ = some (.int .i64 (T.idx v : Int)) := hT2.idx.cell hvn
                have c4 := cell_of_one hT2.blow
                have c2 := cell_of_one hT2.bidx
                have hroot : T.low v = T.idx v := Hroot.out
                have hrz : ((T.low v : Int) == (T.idx v : Int)) = true := by rw [beq_iff_eq]; omega
                have HI1 : Hid (I r ((T.fin v).popSeg [] v D)) := hK.pop0 r T v k D HI.out HsS.out Hkd.out hroot
                have Hmu : Hid (mu adj n ((T.fin v).popSeg [] v D) < mu adj n T) := mu_pop (S := []) HsS.out
                clear hroot
                go_region
                all_goals go_upto_region 30 with fail
                have hT3 := hT2.drew
                generalize w4.drew = w6 at hT3 ⊢
                clear d3 d1 c4 c2 hT2
                go_loopg [18] D.length (fun gk s18 wi => ∃ (D1 D2 : List Nat) (sv' : Value), gk = D1.length ∧ Hid (D = D1 ++ D2) ∧ TW H n w wi { T.tm with low := T.tm.low, frs := frsOf [], stk := stkOf [] ++ v :: D1, comp := (fun y => if y ∈ D2 then T.cnt else T.comp y), ons := (fun y => if y ∈ D2 then false else T.ons y) } sv' (.slice (some ⟨g, 0, none⟩) 0 cap))
                case atStart => exact ⟨D, [], sv, rfl, by show D = D ++ []; simp, by
                    have e1 : T.tm.stk = stkOf [] ++ v :: D := stk_top HsS.out
                    have e2 : (fun y => if y ∈ ([] : List Nat) then T.cnt else T.comp y) = T.comp := by funext y; simp
                    have e3 : (fun y => if y ∈ ([] : List Nat) then false else T.ons y) = T.ons := by funext y; simp
                    rw [e2, e3, ← e1]
                    exact hT3⟩
                case round =>
                  clear hT3
                  obtain ⟨D1, D2, sv', rfl, HD, hW⟩ := hrel
                  rcases List.eq_nil_or_concat D1 with rfl | ⟨D1', x, hD1⟩
                  · obtain ⟨ms, Hms⟩ : ∃ ms, Hid (ms = (stkOf []).length) := ⟨_, rfl⟩
                    have hms := Hms.out
                    have hlen : (stkOf [] ++ [v]).length = ms + 1 := by rw [List.length_append, ← hms]; rfl
                    obtain ⟨gs, caps, rfl, hgs, hcaps⟩ := hW.stkForm (m := ms) hlen
                    have hmb : ms + 1 ≤ 131072 := by
                      have h1 := HInv.out.stk_le
                      rw [show T.stk = stkOf [] ++ v :: D from stk_top HsS.out, List.length_append, List.length_cons] at h1
                      omega
                    have c7 := cell_of_one hW.bstk
                    have f7 := free_of_one hW.bstk
                    have tv := hW.topStk (A := stkOf []) (x := v) rfl hms
                    have c6 := cell_of_one hW.bons
                    have d5 := hW.ons.cell hvn
                    have e5 := hW.ons.frozen v
                    have d0 := hW.comp.cell hvn
                    have e0 := hW.comp.frozen v
                    have hcz : ((ms : Nat) : Int) ≤ (caps : Int) := by omega
                    have hc0 : ¬ caps = 0 := by omega
                    have hvv : ((v : Int) == (v : Int)) = true := by simp
                    have hcb : T.cnt ≤ 131072 := Nat.le_trans HInv.out.cnt_le hn
                    have hT6 := ((hW.popStk (A := stkOf []) (x := v) rfl hms).setOns v false).setComp v T.cnt
                    have hT7 : TW H n w (((wr.setCell ⟨H + 7, 0, none⟩ (.slice (some ⟨gs, 0, none⟩) ms caps)).setCell ⟨H + 5, v, none⟩ (.bool false)).setCell ⟨H, v, none⟩ (.int .i64 (T.cnt : Int))) ((T.fin v).popSeg [] v D).tm (.slice (some ⟨gs, 0, none⟩) ms caps) (.slice (some ⟨g, 0, none⟩) 0 cap) := by
                      have eD : D = D2 := by have := HD.out; simpa using this
                      rw [tm_pop]
                      have e1 : upd (fun y => if y ∈ D2 then T.cnt else T.comp y) v T.cnt = fun y => if y = v ∨ y ∈ D then T.cnt else T.tm.comp y := by
                        funext y; unfold upd; rw [eD]; by_cases h1 : y = v
                        · simp [h1]
                        · simp [h1]; rfl
                      have e2 : upd (fun y => if y ∈ D2 then false else T.ons y) v false = fun y => if y = v ∨ y ∈ D then false else T.tm.ons y := by
                        funext y; unfold upd; rw [eD]; by_cases h1 : y = v
                        · simp [h1]
                        · simp [h1]; rfl
                      rw [← e1, ← e2]
                      exact hT6
                    clear hT6 hW hlen hms
                    go_wp2_with fail
                    go_roundg (mu adj n ((T.fin v).popSeg [] v D))
                    case measure => exact Hmu.out
                    case rel => exact ⟨_, _, _, rfl, by go_num, hT7, HI1, Hi⟩
                  · rw [List.concat_eq_append] at hD1
                    subst hD1
                    obtain ⟨ms, Hms⟩ : ∃ ms, Hid (ms = (stkOf [] ++ v :: D1').length) := ⟨_, rfl⟩
                    have hms := Hms.out
                    have hsx : stkOf [] ++ v :: (D1' ++ [x]) = (stkOf [] ++ v :: D1') ++ [x] := by simp
                    rw [hsx] at hW
                    have hlen : ((stkOf [] ++ v :: D1') ++ [x]).length = ms + 1 := by rw [List.length_append, ← hms]; rfl
                    obtain ⟨gs, caps, rfl, hgs, hcaps⟩ := hW.stkForm (m := ms) hlen
                    have hxD : x ∈ D := by rw [HD.out]; simp
                    have hst : T.stk = stkOf [] ++ v :: D := stk_top HsS.out
                    have hxn : x < n := HInv.out.mem_lt (by rw [hst]; simp [hxD])
                    have hmb : ms + 1 ≤ 131072 := by
                      have h1 := HInv.out.stk_le
                      rw [hst, HD.out, List.length_append, List.length_cons, List.length_append, List.length_append, List.length_singleton] at h1
                      rw [hms, List.length_append, List.length_cons]
                      omega
                    have hxv : ((x : Int) == (v : Int)) = false := by
                      have h1 := HInv.out.inc
                      rw [hst, List.pairwise_append, List.pairwise_cons] at h1
                      have h2 := h1.2.1.1 x hxD
                      rw [beq_eq_false_iff_ne]
                      intro e
                      have e' : x = v := by omega
                      rw [e'] at h2
                      exact Nat.lt_irrefl _ h2
                    have c7 := cell_of_one hW.bstk
                    have f7 := free_of_one hW.bstk
                    have tv := hW.topStk (A := stkOf [] ++ v :: D1') (x := x) rfl hms
                    have c6 := cell_of_one hW.bons
                    have d5 := hW.ons.cell hxn
                    have e5 := hW.ons.frozen x
                    have d0 := hW.comp.cell hxn
                    have e0 := hW.comp.frozen x
                    have hcz : ((ms : Nat) : Int) ≤ (caps : Int) := by omega
                    have hc0 : ¬ caps = 0 := by omega
                    have hxz : (x : Int) < (n : Int) := by omega
                    have hT6 := ((hW.popStk (A := stkOf [] ++ v :: D1') (x := x) rfl hms).setOns x false).setComp x T.cnt
                    have e1 : upd (fun y => if y ∈ D2 then T.cnt else T.comp y) x T.cnt = fun y => if y ∈ x :: D2 then T.cnt else T.comp y := by
                      funext y; unfold upd; by_cases h1 : y = x
                      · simp [h1]
                      · simp [h1]
                    have e2 : upd (fun y => if y ∈ D2 then false else T.ons y) x false = fun y => if y ∈ x :: D2 then false else T.ons y := by
                      funext y; unfold upd; by_cases h1 : y = x
                      · simp [h1]
                      · simp [h1]
                    have HT6 : Hid (TW H n w (((wr.setCell ⟨H + 7, 0, none⟩ (.slice (some ⟨gs, 0, none⟩) ms caps)).setCell ⟨H + 5, x, none⟩ (.bool false)).setCell ⟨H, x, none⟩ (.int .i64 (T.cnt : Int))) { T.tm with low := T.tm.low, frs := frsOf [], stk := stkOf [] ++ v :: D1', comp := (fun y => if y ∈ x :: D2 then T.cnt else T.comp y), ons := (fun y => if y ∈ x :: D2 then false else T.ons y) } (.slice (some ⟨gs, 0, none⟩) ms caps) (.slice (some ⟨g, 0, none⟩) 0 cap)) := by
                      rw [← e1, ← e2]; exact hT6
                    clear e1 e2 hT6 hW hlen hsx hst hxD hms
                    go_wp2_with fail
                    go_roundg D1'.length
                    case measure => simp
                    case rel => exact ⟨D1', x :: D2, _, rfl, by have := HD.out; rw [this]; show _ = _; simp, HT6.out⟩
              · obtain ⟨m', rfl⟩ : ∃ m', m = m' + 1 := ⟨m - 1, by omega⟩
                obtain ⟨S', p, kp, Dp, rfl⟩ : ∃ S' p kp Dp, S = S' ++ [(p, kp, Dp)] := by
                  rcases List.eq_nil_or_concat S with h | ⟨S', x, h⟩
                  · have := Hm.out; rw [h] at this; simp at this
                  · obtain ⟨p, kp, Dp⟩ := x; exact ⟨S', p, kp, Dp, by rw [h, List.concat_eq_append]⟩
                have Hs2 : Hid (T.segs = S' ++ [(p, kp, Dp), (v, k, D)]) := by show T.segs = _; rw [HsS.out]; simp
                have hpn : p < n := HInv.out.node_lt (s := (p, kp, Dp)) (by rw [Hs2.out]; simp)
                have hpz : (p : Int) < (n : Int) := by omega
                have hpv : v ≠ p := fun e => by have := HInv.out.two_lt Hs2.out; rw [e] at this; exact Nat.lt_irrefl _ this
                have Hlv : Hid (upd T.tm.low p (min (T.tm.low p) (T.tm.low v)) v = T.low v) := upd_other _ _ hpv
                have hm1 : m' = S'.length := by have := Hm.out; simp at this; omega
                have t0 := (hT1.topFrs (A := frsOf S') (v := p) (k := kp) (by show frsOf (S' ++ [(p, kp, Dp)]) = _; rw [frsOf_append]; rfl) (by rw [frsOf_len]; exact hm1)).1
                have d3 : w4.cell? ⟨H + 3, p, none⟩ = some (.int .i64 (T.low p : Int)) := hT1.low.cell hpn
                have d3v : w4.cell? ⟨H + 3, v, none⟩ = some (.int .i64 (T.low v : Int)) := hT1.low.cell hvn
                have e3 := hT1.low.frozen p
                have c4 := cell_of_one hT1.blow
                clear hm1 hpv hm0
                go_upto_region 28 with fail
                go_cut [] (fun wc => TW H n w wc { T.tm with low := upd T.tm.low p (min (T.tm.low p) (T.tm.low v)), frs := frsOf (S' ++ [(p, kp, Dp)]) } sv (.slice (some ⟨g, 0, none⟩) (m' + 1) cap))
                case first =>
                  by_cases hle : T.low v < T.low p
                  · have hlz : (T.low v : Int) < (T.low p : Int) := by omega
                    have hT5 := (hT1.setLow p (T.low v)).drew
                    have HE : Hid (min (T.tm.low p) (T.tm.low v) = T.low v) := by show min (T.low p) (T.low v) = _; omega
                    go_still_tail 12, (by kernel_rfl)
                    go_wp2_with fail
                    go_meet
                    case rel => rw [HE.out]; exact hT5
                  · have hlz : (T.low p : Int) ≤ (T.low v : Int) := by omega
                    have hlz2 : ¬ (T.low v : Int) < (T.low p : Int) := by omega
                    have hT5 := (hT1.setLow p (T.low p)).drew
                    have HE : Hid (min (T.tm.low p) (T.tm.low v) = T.low p) := by show min (T.low p) (T.low v) = _; omega
                    go_still_tail 12, (by kernel_rfl)
                    go_wp2_with fail
                    go_meet
                    case rel => rw [HE.out]; exact hT5
                case rest =>
                have hT2 := hcut
                clear t0 d3 d3v e3 c4 hT1 c8 hcut
                go_upto_region 29 with fail
                have d3 : wc.cell? ⟨H + 3, v, none⟩ = some (.int .i64 (T.low v : Int)) := by have h1 : wc.cell? ⟨H + 3, v, none⟩ = some (.int .i64 (((upd T.tm.low p (min (T.tm.low p) (T.tm.low v))) v : Nat) : Int)) := hT2.low.cell hvn; rw [show (upd T.tm.low p (min (T.tm.low p) (T.tm.low v))) v = T.low v from Hlv.out] at h1; exact h1
                have d1 : wc.cell? ⟨H + 1, v, none⟩ = some (.int .i64 (T.idx v : Int)) := hT2.idx.cell hvn
                have c4 := cell_of_one hT2.blow
                have c2 := cell_of_one hT2.bidx
                by_cases hroot : T.low v = T.idx v
                · have hrz : ((T.low v : Int) == (T.idx v : Int)) = true := by rw [beq_iff_eq]; omega
                  have HI1 : Hid (I r (((T.fin v).setLow p (T.low v)).popSeg (S' ++ [(p, kp, Dp)]) v D)) := hK.pop1 r T S' p kp Dp v k D HI.out Hs2.out Hkd.out hroot
                  have Hmu : Hid (mu adj n (((T.fin v).setLow p (T.low v)).popSeg (S' ++ [(p, kp, Dp)]) v D) < mu adj n T) := mu_pop (S := S' ++ [(p, kp, Dp)]) HsS.out
                  clear hroot
                  go_region
                  all_goals go_upto_region 30 with fail
                  have hT3 := hT2.drew
                  generalize wc.drew = w6 at hT3 ⊢
                  clear d3 d1 c4 c2 hT2
                  go_loopg [18] D.length (fun gk s18 wi => ∃ (D1 D2 : List Nat) (sv' : Value), gk = D1.length ∧ Hid (D = D1 ++ D2) ∧ TW H n w wi { T.tm with low := (upd T.tm.low p (min (T.tm.low p) (T.tm.low v))), frs := frsOf (S' ++ [(p, kp, Dp)]), stk := stkOf (S' ++ [(p, kp, Dp)]) ++ v :: D1, comp := (fun y => if y ∈ D2 then T.cnt else T.comp y), ons := (fun y => if y ∈ D2 then false else T.ons y) } sv' (.slice (some ⟨g, 0, none⟩) (m' + 1) cap))
                  case atStart => exact ⟨D, [], sv, rfl, by show D = D ++ []; simp, by
                      have e1 : T.tm.stk = stkOf (S' ++ [(p, kp, Dp)]) ++ v :: D := stk_top HsS.out
                      have e2 : (fun y => if y ∈ ([] : List Nat) then T.cnt else T.comp y) = T.comp := by funext y; simp
                      have e3 : (fun y => if y ∈ ([] : List Nat) then false else T.ons y) = T.ons := by funext y; simp
                      rw [e2, e3, ← e1]
                      exact hT3⟩
                  case round =>
                    clear hT3
                    obtain ⟨D1, D2, sv', rfl, HD, hW⟩ := hrel
                    rcases List.eq_nil_or_concat D1 with rfl | ⟨D1', x, hD1⟩
                    · obtain ⟨ms, Hms⟩ : ∃ ms, Hid (ms = (stkOf (S' ++ [(p, kp, Dp)])).length) := ⟨_, rfl⟩
                      have hms := Hms.out
                      have hlen : (stkOf (S' ++ [(p, kp, Dp)]) ++ [v]).length = ms + 1 := by rw [List.length_append, ← hms]; rfl
                      obtain ⟨gs, caps, rfl, hgs, hcaps⟩ := hW.stkForm (m := ms) hlen
                      have hmb : ms + 1 ≤ 131072 := by
                        have h1 := HInv.out.stk_le
                        rw [show T.stk = stkOf (S' ++ [(p, kp, Dp)]) ++ v :: D from stk_top HsS.out, List.length_append, List.length_cons] at h1
                        omega
                      have c7 := cell_of_one hW.bstk
                      have f7 := free_of_one hW.bstk
                      have tv := hW.topStk (A := stkOf (S' ++ [(p, kp, Dp)])) (x := v) rfl hms
                      have c6 := cell_of_one hW.bons
                      have d5 := hW.ons.cell hvn
                      have e5 := hW.ons.frozen v
                      have d0 := hW.comp.cell hvn
                      have e0 := hW.comp.frozen v
                      have hcz : ((ms : Nat) : Int) ≤ (caps : Int) := by omega
                      have hc0 : ¬ caps = 0 := by omega
                      have hvv : ((v : Int) == (v : Int)) = true := by simp
                      have hcb : T.cnt ≤ 131072 := Nat.le_trans HInv.out.cnt_le hn
                      have hT6 := ((hW.popStk (A := stkOf (S' ++ [(p, kp, Dp)])) (x := v) rfl hms).setOns v false).setComp v T.cnt
                      have hT7 : TW H n w (((wr.setCell ⟨H + 7, 0, none⟩ (.slice (some ⟨gs, 0, none⟩) ms caps)).setCell ⟨H + 5, v, none⟩ (.bool false)).setCell ⟨H, v, none⟩ (.int .i64 (T.cnt : Int))) (((T.fin v).setLow p (T.low v)).popSeg (S' ++ [(p, kp, Dp)]) v D).tm (.slice (some ⟨gs, 0, none⟩) ms caps) (.slice (some ⟨g, 0, none⟩) (m' + 1) cap) := by
                        have eD : D = D2 := by have := HD.out; simpa using this
                        rw [tm_pop1]
                        have e1 : upd (fun y => if y ∈ D2 then T.cnt else T.comp y) v T.cnt = fun y => if y = v ∨ y ∈ D then T.cnt else T.tm.comp y := by
                          funext y; unfold upd; rw [eD]; by_cases h1 : y = v
                          · simp [h1]
                          · simp [h1]; rfl
                        have e2 : upd (fun y => if y ∈ D2 then false else T.ons y) v false = fun y => if y = v ∨ y ∈ D then false else T.tm.ons y := by
                          funext y; unfold upd; rw [eD]; by_cases h1 : y = v
                          · simp [h1]
                          · simp [h1]; rfl
                        rw [← e1, ← e2]
                        exact hT6
                      clear hT6 hW hlen hms
                      go_wp2_with fail
                      go_roundg (mu adj n (((T.fin v).setLow p (T.low v)).popSeg (S' ++ [(p, kp, Dp)]) v D))
                      case measure => exact Hmu.out
                      case rel => exact ⟨_, _, _, rfl, by go_num, hT7, HI1, Hi⟩
                    · rw [List.concat_eq_append] at hD1
                      subst hD1
                      obtain ⟨ms, Hms⟩ : ∃ ms, Hid (ms = (stkOf (S' ++ [(p, kp, Dp)]) ++ v :: D1').length) := ⟨_, rfl⟩
                      have hms := Hms.out
                      have hsx : stkOf (S' ++ [(p, kp, Dp)]) ++ v :: (D1' ++ [x]) = (stkOf (S' ++ [(p, kp, Dp)]) ++ v :: D1') ++ [x] := by simp
                      rw [hsx] at hW
                      have hlen : ((stkOf (S' ++ [(p, kp, Dp)]) ++ v :: D1') ++ [x]).length = ms + 1 := by rw [List.length_append, ← hms]; rfl
                      obtain ⟨gs, caps, rfl, hgs, hcaps⟩ := hW.stkForm (m := ms) hlen
                      have hxD : x ∈ D := by rw [HD.out]; simp
                      have hst : T.stk = stkOf (S' ++ [(p, kp, Dp)]) ++ v :: D := stk_top HsS.out
                      have hxn : x < n := HInv.out.mem_lt (by rw [hst]; simp [hxD])
                      have hmb : ms + 1 ≤ 131072 := by
                        have h1 := HInv.out.stk_le
                        rw [hst, HD.out, List.length_append, List.length_cons, List.length_append, List.length_append, List.length_singleton] at h1
                        rw [hms, List.length_append, List.length_cons]
                        omega
                      have hxv : ((x : Int) == (v : Int)) = false := by
                        have h1 := HInv.out.inc
                        rw [hst, List.pairwise_append, List.pairwise_cons] at h1
                        have h2 := h1.2.1.1 x hxD
                        rw [beq_eq_false_iff_ne]
                        intro e
                        have e' : x = v := by omega
                        rw [e'] at h2
                        exact Nat.lt_irrefl _ h2
                      have c7 := cell_of_one hW.bstk
                      have f7 := free_of_one hW.bstk
                      have tv := hW.topStk (A := stkOf (S' ++ [(p, kp, Dp)]) ++ v :: D1') (x := x) rfl hms
                      have c6 := cell_of_one hW.bons
                      have d5 := hW.ons.cell hxn
                      have e5 := hW.ons.frozen x
                      have d0 := hW.comp.cell hxn
                      have e0 := hW.comp.frozen x
                      have hcz : ((ms : Nat) : Int) ≤ (caps : Int) := by omega
                      have hc0 : ¬ caps = 0 := by omega
                      have hxz : (x : Int) < (n : Int) := by omega
                      have hT6 := ((hW.popStk (A := stkOf (S' ++ [(p, kp, Dp)]) ++ v :: D1') (x := x) rfl hms).setOns x false).setComp x T.cnt
                      have e1 : upd (fun y => if y ∈ D2 then T.cnt else T.comp y) x T.cnt = fun y => if y ∈ x :: D2 then T.cnt else T.comp y := by
                        funext y; unfold upd; by_cases h1 : y = x
                        · simp [h1]
                        · simp [h1]
                      have e2 : upd (fun y => if y ∈ D2 then false else T.ons y) x false = fun y => if y ∈ x :: D2 then false else T.ons y := by
                        funext y; unfold upd; by_cases h1 : y = x
                        · simp [h1]
                        · simp [h1]
                      have HT6 : Hid (TW H n w (((wr.setCell ⟨H + 7, 0, none⟩ (.slice (some ⟨gs, 0, none⟩) ms caps)).setCell ⟨H + 5, x, none⟩ (.bool false)).setCell ⟨H, x, none⟩ (.int .i64 (T.cnt : Int))) { T.tm with low := (upd T.tm.low p (min (T.tm.low p) (T.tm.low v))), frs := frsOf (S' ++ [(p, kp, Dp)]), stk := stkOf (S' ++ [(p, kp, Dp)]) ++ v :: D1', comp := (fun y => if y ∈ x :: D2 then T.cnt else T.comp y), ons := (fun y => if y ∈ x :: D2 then false else T.ons y) } (.slice (some ⟨gs, 0, none⟩) ms caps) (.slice (some ⟨g, 0, none⟩) (m' + 1) cap)) := by
                        rw [← e1, ← e2]; exact hT6
                      clear e1 e2 hT6 hW hlen hsx hst hxD hms
                      go_wp2_with fail
                      go_roundg D1'.length
                      case measure => simp
                      case rel => exact ⟨D1', x :: D2, _, rfl, by have := HD.out; rw [this]; show _ = _; simp, HT6.out⟩
                · have hrz : ((T.low v : Int) == (T.idx v : Int)) = false := by rw [beq_eq_false_iff_ne]; omega
                  have HI1 : Hid (I r (((T.fin v).setLow p (T.low v)).setSegs (S' ++ [(p, kp, Dp ++ v :: D)]))) := hK.join r T S' p kp Dp v k D HI.out Hs2.out Hkd.out hroot
                  have Hmu : Hid (mu adj n (((T.fin v).setLow p (T.low v)).setSegs (S' ++ [(p, kp, Dp ++ v :: D)])) < mu adj n T) := mu_join Hs2.out
                  have hT5 : TW H n w wc (((T.fin v).setLow p (T.low v)).setSegs (S' ++ [(p, kp, Dp ++ v :: D)])).tm sv (.slice (some ⟨g, 0, none⟩) (m' + 1) cap) := by rw [tm_join Hs2.out]; exact hT2
                  clear hroot
                  go_region
                  all_goals go_wp2_with fail
                  all_goals go_roundg (mu adj n (((T.fin v).setLow p (T.low v)).setSegs (S' ++ [(p, kp, Dp ++ v :: D)])))
                  all_goals first | exact Hmu.out | exact ⟨_, sv, _, rfl, rfl, hT5.drew, HI1, Hi⟩
      · have hiz : ((T.idx r : Int) != 0) = true := by simpa using hi
        have Hi : Hid (I (r + 1) T) := hK.skip r T HI.out hrn Hsg.out hi
        clear hi
        go_wp2_with fail
        go_roundg (n - (r + 1))
        case measure => omega
        case rel => exact ⟨r + 1, T, sv, fv, by omega, rfl, by go_num, rfl, hT, Hi, Hsg⟩
    · obtain rfl : r = n := by omega
      go_wp2_with fail
      go_ret
      have e := HH.out
      subst e
      exact ⟨rfl, hT.below, T, HI.out, Hsg.out, hT.comp⟩
end Go.Proofs.Qxb6600624a
