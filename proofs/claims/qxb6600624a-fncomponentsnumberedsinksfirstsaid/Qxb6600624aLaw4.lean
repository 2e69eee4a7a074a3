import Derived.Test.Qxb6600624aSuccOf
import Derived.Deep.QuietTactic
import Derived.BigQuiet
set_option linter.unusedVariables false
set_option linter.unusedSimpArgs false
namespace Go.Proofs.Qxb6600624a
open Go.RowKit

/-- One more than the greatest number of the first i. -/
def kmax (f : Nat → Nat) : Nat → Nat
  | 0 => 0
  | i + 1 => max (kmax f i) (f i + 1)
theorem kmax_le {f : Nat → Nat} {n : Nat} : ∀ i, (∀ j, j < i → f j < n) → kmax f i ≤ n
  | 0, _ => Nat.zero_le _
  | i + 1, h => by
    have h1 := kmax_le i (fun j hj => h j (by omega))
    have h2 := h i (by omega)
    simp only [kmax]; omega
theorem kmax_gt {f : Nat → Nat} : ∀ i j, j < i → f j < kmax f i
  | 0, j, h => absurd h (Nat.not_lt_zero _)
  | i + 1, j, h => by
    simp only [kmax]
    by_cases e : j = i
    · subst e; omega
    · have := kmax_gt (f := f) i j (by omega); omega
theorem kmax_ex {f : Nat → Nat} : ∀ i c, c < kmax f i → ∃ j, j < i ∧ c ≤ f j
  | 0, c, h => absurd h (Nat.not_lt_zero _)
  | i + 1, c, h => by
    simp only [kmax] at h
    by_cases e : c < kmax f i
    · obtain ⟨j, h1, h2⟩ := kmax_ex i c e
      exact ⟨j, by omega, h2⟩
    · exact ⟨i, by omega, by omega⟩
/-- Number c is among the first i. -/
def usedB (f : Nat → Nat) : Nat → Nat → Bool
  | 0, _ => false
  | i + 1, c => if c = f i then true else usedB f i c
theorem usedB_of {f : Nat → Nat} : ∀ i j, j < i → usedB f i (f j) = true
  | 0, j, h => absurd h (Nat.not_lt_zero _)
  | i + 1, j, h => by
    simp only [usedB]
    by_cases e : f j = f i
    · simp [e]
    · rw [if_neg e]
      exact usedB_of i j (by
        by_cases h2 : j = i
        · subst h2; exact absurd rfl e
        · omega)

/-- What the law needs of the numbers. -/
structure Good (adj : Nat → List Nat) (n : Nat) (f : Nat → Nat) : Prop where
  lt : ∀ i, i < n → f i < n
  arc : ∀ i, i < n → ∀ y ∈ adj i, f y ≤ f i
  used : ∀ c, c < kmax f n → usedB f n c = true
theorem good_of {adj : Nat → List Nat} {n : Nat} {T : TS} (h : Inv adj n n T) (h0 : T.segs = []) : Good adj n T.comp := by
  have hstk : T.stk = [] := by simp [TS.stk, h0, stkOf]
  have hons : ∀ x, T.ons x = false := fun x => by
    have := h.mem x
    rw [hstk] at this
    cases hx : T.ons x with
    | false => rfl
    | true => rw [hx] at this; simp at this
  have hlt : ∀ i, i < n → T.comp i < T.cnt := fun i hi => (h.done i (h.roots i hi) (hons i)).1
  refine ⟨fun i hi => by have := hlt i hi; have := h.cnt_le; omega, fun i hi y hy => ((h.done i (h.roots i hi) (hons i)).2 y hy).2.2, fun c hc => ?_⟩
  obtain ⟨j, hj, hcj⟩ := kmax_ex n c hc
  obtain ⟨x, hx1, _, hx2⟩ := h.used c (by have := hlt j hj; omega)
  rw [← hx2]
  exact usedB_of n x (h.lt x hx1)

set_option maxHeartbeats 4000000 in
theorem law4 (a : Option Addr) (n c : Nat) (w : World) (hR : IsRows w a n c) : Calls Try.prog 4 #[.slice a n c] w fun e w' => e = .returned (.bool true) ∧ Below w.heap.size w w' := by
  obtain ⟨sb, so, A, L, C, RB, RO, Z, ha, hW, hn, hnil, hA0⟩ := rws_of hR
  go_enter Try.func4, Try.ntmps4
  go_wp2_with fail
  refine (bytes13 a n c w ha hW hn).mono ?_
  rintro e w' ⟨rfl, r, rfl⟩
  cases r with
  | false =>
    go_wp2_with fail
    go_ret
    exact ⟨rfl, Below.refl _ _⟩
  | true =>
    go_wp2_with fail
    refine (nested8 a n c w' ha hW hn).mono ?_
    rintro e w2 ⟨rfl, t, rfl, ht⟩
    by_cases ht0 : t < 0
    · go_wp2_with fail
      go_ret
      exact ⟨rfl, Below.refl _ _⟩
    · obtain ⟨hn, hL⟩ := ht (by omega)
      clear ht
      go_wp2_with fail
      refine (targets9 a n c w2 ha hW hn hL).mono ?_
      rintro e w3 ⟨rfl, r, rfl, hr⟩
      cases r with
      | false =>
        go_wp2_with fail
        go_ret
        exact ⟨rfl, Below.refl _ _⟩
      | true =>
        have hZ := hr rfl
        clear hr
        go_wp2_with fail
        refine (copied a n c w3 ha hW hnil hn hL hA0 hZ).mono ?_
        rintro e w4 ⟨hB4, a', c', sb', so', A', C', RB', RO', rfl, ha', hS⟩
        clear hW ha hnil hL hA0 hZ hR
        generalize hadj : adjOf L Z = adj at hS
        clear hadj
        go_wp2_with fail
        refine (comp11 adj n c' a' sb' so' A' C' RB' RO' (Inv adj n) w4 hn ha' hS (keeps_inv adj n hS.lt)).mono ?_
        rintro e w5 ⟨rfl, hB5, T, hI, hseg, hcomp⟩
        have hG := good_of hI hseg
        generalize T.comp = f at hcomp hG
        clear hI hseg T
        have hS5 := hS.later hB5
        have hBw : Below w3.heap.size w3 w5 := hB4.trans (hB5.mono hB4.size)
        have hHlt : w4.heap.size < w5.heap.size := by
          obtain ⟨cs, hcs, _⟩ := hcomp
          exact (Array.getElem?_eq_some_iff.mp hcs).1
        generalize w4.heap.size = H at hcomp hHlt ⊢
        clear hS hB4 hB5 w4
        go_wp2_with fail
        go_loopg [5, 6] n (fun g s5 s6 wr => wr = w5 ∧ ∃ i : Nat, i ≤ n ∧ g = n - i ∧ s5 = .int .i64 (kmax f i : Int) ∧ s6 = .int .i64 (i : Int))
        case atStart => exact ⟨rfl, 0, by omega, rfl, rfl, rfl⟩
        case round =>
          obtain ⟨hwr, i, hi, rfl, rfl, rfl⟩ := hrel
          obtain rfl := hwr.symm
          clear hwr
          have hkn : kmax f i ≤ n := kmax_le i fun j hj => hG.lt j (by omega)
          by_cases hlt : i < n
          · have g1 := hcomp.cell hlt
            have hf := hG.lt i hlt
            have hiz : (i : Int) < (n : Int) := by omega
            have hfz : (f i : Int) < (n : Int) := by omega
            by_cases hk : kmax f i < f i + 1
            · have hkz : (kmax f i : Int) < (f i : Int) + 1 := by omega
              go_wp2_with fail
              go_roundg (n - (i + 1))
              case measure => omega
              case rel =>
                have e : kmax f (i + 1) = f i + 1 := by simp only [kmax]; omega
                exact ⟨rfl, i + 1, by omega, rfl, by rw [e]; go_num, by go_num⟩
            · have hkz : ¬ (kmax f i : Int) < (f i : Int) + 1 := by omega
              go_wp2_with fail
              go_roundg (n - (i + 1))
              case measure => omega
              case rel =>
                have e : kmax f (i + 1) = kmax f i := by simp only [kmax]; omega
                exact ⟨rfl, i + 1, by omega, rfl, by rw [e], by go_num⟩
          · obtain rfl : i = n := by omega
            generalize hK : kmax f i = K at hkn
            have hmk := run_make_row' (P := Try.prog) 29 4 (.bool false) 1 Try.underlying29 Try.info4 rfl .i64 .i64 K (by omega) (by omega)
            have HK : Hid (kmax f i = K) := hK
            clear hK
            go_wp2_with fail
            clear hmk
            obtain ⟨B, HB⟩ : ∃ B, Hid (B = w5.heap.size) := ⟨_, rfl⟩
            have hHB : H < B := by rw [HB.out]; exact hHlt
            have hBB := HB.out.symm
            have hw3 : w3.heap.size ≤ B := by rw [HB.out]; exact hBw.size
            have hcell : ∀ (wi : World), Below B w5 wi → ∀ (p : Addr) v, w5.cell? p = some v → wi.cell? p = some v := fun wi hb p v hp => by
              rw [hb.cell (by rw [HB.out]; exact World.block_lt_of_cell? _ _ hp)]; exact hp
            have HU : Hid ((w5.alloc (.cells (madeCells #[.bool false] K) 4)).rowIs B 4 K (fun c => .bool (usedB f 0 c))) := by
              rw [HB.out]; exact (World.rowIs_made w5 _ K 4).congr (fun _ _ => rfl)
            have HA : Hid (Below w5.heap.size w5 (w5.alloc (.cells (madeCells #[.bool false] K) 4))) := (Below.refl _ _).alloc (Nat.le_refl _) _
            rw [hBB] at *
            clear hBB
            go_loopg [8] i (fun g s8 wi => ∃ j : Nat, j ≤ i ∧ g = i - j ∧ s8 = .int .i64 (j : Int) ∧ Hid (Below B w5 wi) ∧ wi.rowIs B 4 K (fun c => .bool (usedB f j c)))
            case atStart => exact ⟨0, by omega, rfl, rfl, HA.out, HU.out⟩
            case round =>
              clear HA HU
              obtain ⟨j, hj, rfl, rfl, HA, hU⟩ := hrel
              by_cases hlt2 : j < i
              · have g1 : wr.cell? ⟨H, j, none⟩ = some (.int .i64 (f j : Int)) := hcell _ HA.out _ _ (hcomp.cell hlt2)
                have hfj : f j < K := by rw [← HK.out]; exact kmax_gt i j hlt2
                have hjz : (j : Int) < (i : Int) := by omega
                have hfz : (f j : Int) < (K : Int) := by omega
                have g2 := hU.cell hfj
                have g3 := hU.frozen (f j)
                have HU2 : Hid ((wr.setCell ⟨B, f j, none⟩ (.bool true)).rowIs B 4 K (fun c => .bool (usedB f (j + 1) c))) := (hU.set (f j) (.bool true)).congr fun c _ => by
                  by_cases e : c = f j
                  · simp [usedB, e]
                  · simp [usedB, e]
                have HA2 : Hid (Below B w5 (wr.setCell ⟨B, f j, none⟩ (.bool true))) := HA.out.setCell (Nat.le_refl _) _
                clear hU HA
                go_wp2_with fail
                go_roundg (i - (j + 1))
                case measure => omega
                case rel => exact ⟨j + 1, by omega, rfl, by go_num, HA2.out, HU2.out⟩
              · obtain rfl : j = i := by omega
                have hBe : Below w3.heap.size w3 wr := hBw.trans (HA.out.mono hw3)
                have hS6 : Succ wr j adj sb' so' A' C' RB' RO' := ⟨fun x hx => hcell _ HA.out _ _ (hS5.row x hx), fun x hx y hy => ⟨(hS5.cell x hx y hy).1, hcell _ HA.out _ _ (hS5.cell x hx y hy).2⟩, hS5.lt, hS5.len⟩
                have HC : Hid (∀ x, x < j → wr.cell? ⟨H, x, none⟩ = some (.int .i64 (f x : Int))) := fun x hx => hcell _ HA.out _ _ (hcomp.cell hx)
                clear hcell hcomp hS5 hBw HA
                go_wp2_with fail
                go_loopg [9] K (fun g s9 wi => wi = wr ∧ ∃ c : Nat, c ≤ K ∧ g = K - c ∧ s9 = .int .i64 (c : Int))
                case atStart => exact ⟨rfl, 0, by omega, rfl, rfl⟩
                case round =>
                  obtain ⟨rfl, c, hc, rfl, rfl⟩ := hrel
                  by_cases hlt3 : c < K
                  · have g1 := hU.cell hlt3
                    rw [hG.used c (by rw [HK.out]; exact hlt3)] at g1
                    have hcz : (c : Int) < (K : Int) := by omega
                    clear hU
                    go_wp2_with fail
                    go_roundg (K - (c + 1))
                    case measure => omega
                    case rel => exact ⟨rfl, c + 1, by omega, rfl, by go_num⟩
                  · obtain rfl : c = K := by omega
                    clear hU
                    go_wp2_with fail
                    go_loopg [10] j (fun g s10 wi => ∃ d x : Nat, wi = wr.drewN d ∧ x ≤ j ∧ g = j - x ∧ s10 = .int .i64 (x : Int))
                    case atStart => exact ⟨0, 0, rfl, by omega, rfl, rfl⟩
                    case round =>
                      obtain ⟨d, x, rfl, hx, rfl, rfl⟩ := hrel
                      by_cases hlt4 : x < j
                      · obtain rfl := ha' (by omega)
                        have hxz : (x : Int) < (j : Int) := by omega
                        have Hr : Hid (wr.cell? ⟨sb', so' + x, none⟩ = some (.slice (A' x) (adj x).length (C' x))) := hS6.row x hlt4
                        have Hc : Hid (∀ y, y < (adj x).length → A' x = some ⟨RB' x, RO' x, none⟩ ∧ wr.cell? ⟨RB' x, RO' x + y, none⟩ = some (.int .i64 (((adj x).getD y 0 : Nat) : Int))) := hS6.cell x hlt4
                        have hlen := hS6.len x hlt4
                        go_wp2_with fail
                        go_loopg [11] (adj x).length (fun g s11 wi => ∃ d y : Nat, wi = wr.drewN d ∧ y ≤ (adj x).length ∧ g = (adj x).length - y ∧ s11 = .int .i64 (y : Int))
                        case atStart => exact ⟨d, 0, rfl, by omega, rfl, rfl⟩
                        case round =>
                          clear d
                          obtain ⟨d, y, rfl, hy, rfl, rfl⟩ := hrel
                          have g1 := Hr.out
                          by_cases hlt5 : y < (adj x).length
                          · have hyz : (y : Int) < ((adj x).length : Int) := by omega
                            obtain ⟨e1, g2⟩ := Hc.out y hlt5
                            rw [e1] at g1
                            have hmem : (adj x).getD y 0 ∈ adj x := by
                              rw [List.getD_eq_getElem?_getD, List.getElem?_eq_getElem hlt5]
                              exact List.getElem_mem hlt5
                            have htl := hS6.lt x hlt4 _ hmem
                            have har := hG.arc x hlt4 _ hmem
                            generalize (adj x).getD y 0 = t at g2 hmem htl har
                            have g3 := HC.out x hlt4
                            have g4 := HC.out t htl
                            have htz : (t : Int) < (j : Int) := by omega
                            have harz : ¬ (f x : Int) < (f t : Int) := by omega
                            clear e1 hmem
                            go_wp2_with fail
                            go_quiet (fail)
                            go_wp2_with fail
                            go_roundg ((adj x).length - (y + 1))
                            case measure => omega
                            case rel => exact ⟨_, y + 1, rfl, by omega, rfl, by go_num⟩
                          · obtain rfl : y = (adj x).length := by omega
                            go_wp2_with fail
                            go_roundg (j - (x + 1))
                            case measure => omega
                            case rel => exact ⟨d, x + 1, rfl, by omega, rfl, by go_num⟩
                      · obtain rfl : x = j := by omega
                        go_wp2_with fail
                        go_ret
                        exact ⟨rfl, hBe.trans ⟨rfl, rfl, rfl, Nat.le_refl _, fun _ _ => rfl⟩⟩
end Go.Proofs.Qxb6600624a
