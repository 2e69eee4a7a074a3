import Derived.Test.Qxb6605554aZZ
set_option linter.unusedVariables false
set_option linter.unusedSimpArgs false
namespace Go.Proofs.Qxb6605554a
open Go.RowKit

theorem rowCells {k : IntKind} {w : World} {a : Option Addr} {n c : Nat} {zs : List Int} (h : IsRow k w a n c zs) : ∃ b o, (0 < n → a = some ⟨b, o, none⟩) ∧ ∀ i, i < n → w.cell? ⟨b, o + i, none⟩ = some (.int k (zs.getD i 0)) := by
  rcases h with ⟨rfl, rfl, rfl, rfl⟩ | ⟨x, rfl, hl, hm, hz, hc, hwf⟩
  · exact ⟨0, 0, fun h => by omega, fun i hi => by omega⟩
  · have hx : 0 < n → x = ⟨x.block, x.off, none⟩ := fun h0 => by
      have := hc 0 (by omega)
      simp only [Addr.add_zero'] at this
      exact cell_spot this
    refine ⟨x.block, x.off, fun h => by rw [← hx h], fun i hi => ?_⟩
    have h1 := hc i (by omega)
    rw [hx (by omega), addr_add_none] at h1
    exact h1
theorem rowWf {w : World} {a : Option Addr} {n c : Nat} {zs : List Int} (h : IsRow .u64 w a n c zs) : ∀ i, i < n → 0 ≤ zs.getD i 0 ∧ zs.getD i 0 < 18446744073709551616 := by
  intro i hi
  rcases h with ⟨rfl, rfl, rfl, rfl⟩ | ⟨x, rfl, hl, hm, hz, hc, hwf⟩
  · omega
  · have hlt : i < zs.length := by omega
    have hw := hwf zs[i] (List.getElem_mem hlt)
    simp [Lit.wf, IntKind.min, IntKind.max, IntKind.signed, IntKind.bits] at hw
    simp [List.getD, List.getElem?_eq_getElem hlt]
    omega

set_option maxHeartbeats 4000000 in
set_option maxRecDepth 100000 in
theorem gatherMain (W : Int) (a : Option Addr) (n c : Nat) (x y u v : Int) (zs : List Int) (w : World) (hn : n ≤ 131072) (h : IsRow .u64 w a n c zs) (hW : -9223372036854775808 ≤ W) (hW2 : W ≤ 9223372036854775807) :
    Calls Try.prog 5 #[.int .i64 W, .slice a n c, .int .i64 x, .int .i64 y, .int .i64 u, .int .i64 v, .bool false] w fun e w' => e = .returned (.bool true) ∧ Below w.heap.size w w' := by
  have hn2 : n ≤ 1048576 := by omega
  obtain ⟨b, o, ha, hc⟩ := rowCells h
  have hz := rowWf h
  go_enter Try.func5, Try.ntmps5
  go_wp2_with fail
  refine (bytes13 _ _ _ _ _ _ _ _ _ _ hn2).mono ?_
  rintro e w' ⟨rfl, rfl⟩
  go_wp2_with fail
  refine (inside W a b o n c (fun i => zs.getD i 0) _ hn ha hc hz).mono ?_
  rintro e w1 ⟨rfl, r, rfl, hr⟩
  clear ha hc
  cases r with
  | false =>
    clear hr
    go_wp2
    go_ret
    exact ⟨rfl, Below.refl _ _⟩
  | true =>
    have hin := hr rfl
    clear hr
    go_wp2_with fail
    refine (clone64 _ _ _ _ _ hn2 h).mono ?_
    rintro e w2 ⟨a1, rfl, hr1, hB1, hl1⟩
    obtain ⟨Z, HZ⟩ : ∃ Z, Hid (Z = zs.take n) := ⟨_, rfl⟩
    have hZz : ∀ i, i < n → Z.getD i 0 = zs.getD i 0 := fun i hi => by rw [HZ.out]; simp [List.getElem?_take, hi]
    rw [← HZ.out] at hr1 hl1
    go_wp2_with fail
    refine (clone64 _ _ _ _ _ hn2 hr1).mono ?_
    rintro e w3 ⟨a2, rfl, hr2, hB2, -⟩
    rw [List.take_of_length_le (by omega)] at hr2
    obtain ⟨b2, o2, ha2, hc2⟩ := rowCells hr2
    obtain ⟨b1, o1, ha1, hc1⟩ := rowCells hr1
    go_wp2_with fail
    refine (zz_any W a2 b2 o2 n n x y u v (fun i => Z.getD i 0) _ hn ha2 hc2 (fun i hi => by rw [hZz i hi]; exact hz i hi) (fun q t hq ht hb => hin q t hq ht (by rw [hZz q hq] at hb; exact hb)) hW hW2).mono ?_
    rintro e w4 ⟨P, held, B, rfl, hInv, hB3, hBw, R1, R2, R3⟩
    have hBB : Below w1.heap.size w1 w4 := (hB1.trans (hB2.mono hB1.size)).trans (hB3.mono (by have := hB1.size; have := hB2.size; omega))
    have Hc1 : Hid (∀ i, i < n → w4.cell? ⟨b1, o1 + i, none⟩ = some (.int .u64 (Z.getD i 0))) := fun i hi => by
      have hb := World.block_lt_of_cell? _ _ (hc1 i hi)
      rw [hB3.cell (by exact Nat.lt_of_lt_of_le hb hB2.size), hB2.cell (by exact hb)]
      exact hc1 i hi
    have Hz : Hid (∀ i, i < n → 0 ≤ Z.getD i 0 ∧ Z.getD i 0 < 18446744073709551616) := fun i hi => by rw [hZz i hi]; exact hz i hi
    clear hc1 hc2 ha2 hr1 hr2 hB1 hB2 hB3 hin hz h hZz HZ hl1
    obtain ⟨m, HM⟩ : ∃ m, Hid (m = P.length) := ⟨_, rfl⟩
    have hml : m ≤ 536870912 := by have := inv_count hInv; rw [HM.out]; omega
    rw [← HM.out] at R1 R2 R3
    have hM := HM.out.symm
    rw [hM]
    clear hM
    go_wp2_with fail
    have HInv : Hid (Inv (fun i => Z.getD i 0) W (64 * n) P held) := hInv
    have HR1 : Hid (w4.rowIs B 2 m (fun i => .int .i64 (st P i))) := R1
    have HR2 : Hid (w4.rowIs (B + 1) 2 m (fun i => .int .i64 (en P i))) := R2
    have HR3 : Hid (w4.rowIs (B + 2) 2 m (fun i => .int .i64 (aa P i))) := R3
    clear hInv R1 R2 R3
    go_loopg [22, 23] m (fun g s22 s23 wr => wr = w4 ∧ ∃ k : Nat, k ≤ m ∧ g = m - k ∧ s23 = .int .i64 k ∧ s22 = .int .i64 (sumLen P k))
    case atStart => exact ⟨rfl, 0, by omega, rfl, rfl, rfl⟩
    case round =>
      obtain ⟨rfl, k, hk, rfl, rfl, rfl⟩ := hrel
      by_cases hlt : k < m
      · have hkP : k < P.length := by rw [← HM.out]; exact hlt
        have hS := HInv.out.each k hkP
        have hA := HInv.out.ats k hkP
        have hsum := sum_mono HInv.out (P.length - k) k (by omega)
        have hsum2 := HInv.out.le
        have c1 : wr.cell? ⟨B, k, none⟩ = some (.int .i64 (st P k)) := HR1.out.cell hlt
        have c2 : wr.cell? ⟨B + 1, k, none⟩ = some (.int .i64 (en P k)) := HR2.out.cell hlt
        have c3 : wr.cell? ⟨B + 2, k, none⟩ = some (.int .i64 (sumLen P k)) := by rw [← hA]; exact HR3.out.cell hlt
        have HSum : Hid (sumLen P (k + 1) = sumLen P k + (en P k - st P k)) := rfl
        have Hap : Hid (∀ j, j + 1 = k → en P j < st P k) := fun j e => by subst e; exact HInv.out.apart j hkP
        obtain ⟨S, HS⟩ : ∃ S, Hid (S = st P k) := ⟨_, rfl⟩
        obtain ⟨E, HE⟩ : ∃ E, Hid (E = en P k) := ⟨_, rfl⟩
        obtain ⟨A, HA⟩ : ∃ A, Hid (A = sumLen P k) := ⟨_, rfl⟩
        have hA1 := HA.out.symm
        rw [← HS.out, ← HE.out] at hS HSum
        rw [← HS.out] at c1
        rw [← HE.out] at c2
        rw [hA1] at c3 hsum HSum
        rw [hA1]
        clear hA1 hA hkP
        obtain ⟨hS1, hS2, hS3, hS4, hS5, hS6⟩ := hS
        have hS7 : (S % 64 != 0) = false := by simpa using hS4
        have hne : (A != A) = false := by simp
        have hkn : (64 * (n : Int)) ≤ 8388608 := by omega
        have hE9 : E ≤ (n : Int) * 64 * 64 := by omega
        have hE10 : E ≤ 536870912 := by omega
        have hsu := hsum.1
        have hsv : A ≤ 1000000000 := by have := hsum.2; omega
        clear hS4 hsum hsum2 hS6
        by_cases hE64 : E % 64 = 0
        · have hE1 : (E % 64 != 0) = false := by simpa using hE64
          clear hE64 hS5
          rcases (show k = 0 ∨ ∃ j, k = j + 1 from by cases k with | zero => exact .inl rfl | succ j => exact .inr ⟨j, rfl⟩) with rfl | ⟨j, rfl⟩
          · go_wp2_with fail
            go_roundg (m - (0 + 1))
            case measure => omega
            case rel => exact ⟨rfl, 0 + 1, by omega, rfl, by go_num, by rw [HSum.out]⟩
          · have c4 : wr.cell? ⟨B + 1, j, none⟩ = some (.int .i64 (en P j)) := HR2.out.cell (by omega)
            have hap := Hap.out j rfl
            rw [← HS.out] at hap
            go_wp2_with fail
            go_roundg (m - (j + 1 + 1))
            case measure => omega
            case rel => exact ⟨rfl, j + 1 + 1, by omega, rfl, by go_num, by rw [HSum.out]⟩
        · have hE1 : (E % 64 != 0) = true := by simpa using hE64
          obtain rfl : E = W := by omega
          have hE2 : (E != E) = false := by simp
          clear hE64 hS5
          rcases (show k = 0 ∨ ∃ j, k = j + 1 from by cases k with | zero => exact .inl rfl | succ j => exact .inr ⟨j, rfl⟩) with rfl | ⟨j, rfl⟩
          · go_wp2_with fail
            go_roundg (m - (0 + 1))
            case measure => omega
            case rel => exact ⟨rfl, 0 + 1, by omega, rfl, by go_num, by rw [HSum.out]⟩
          · have c4 : wr.cell? ⟨B + 1, j, none⟩ = some (.int .i64 (en P j)) := HR2.out.cell (by omega)
            have hap := Hap.out j rfl
            rw [← HS.out] at hap
            go_wp2_with fail
            go_roundg (m - (j + 1 + 1))
            case measure => omega
            case rel => exact ⟨rfl, j + 1 + 1, by omega, rfl, by go_num, by rw [HSum.out]⟩
      · go_wp2_with fail
        clear HR3
        go_loopg [26, 27] (64 * n) (fun g s26 s27 wi => wi = wr ∧ ∃ bb k : Nat, bb ≤ 64 * n ∧ g = 64 * n - bb ∧ k ≤ m ∧ s27 = .int .i64 bb ∧ s26 = .int .i64 k ∧ Hid (∀ i, i < k → i < P.length → en P i ≤ 64 * bb))
        case atStart => exact ⟨rfl, 0, 0, by omega, rfl, by omega, rfl, rfl, fun i h => absurd h (Nat.not_lt_zero _)⟩
        case round =>
          obtain ⟨rfl, bb, k2, hbb, rfl, hk2, rfl, rfl, HK⟩ := hrel
          by_cases hlt2 : bb < 64 * n
          · have hbz : (bb : Int) < (n : Int) * 64 := by omega
            have hbz2 : (bb : Int) ≤ 8388608 := by omega
            go_wp2_with fail
            go_loopg [26] (m - k2) (fun g s26 wi => wi = wr ∧ ∃ k : Nat, k ≤ m ∧ g = m - k ∧ s26 = .int .i64 k ∧ Hid (∀ i, i < k → i < P.length → en P i ≤ 64 * bb))
            case atStart => exact ⟨rfl, k2, hk2, rfl, rfl, HK⟩
            case round =>
              obtain ⟨rfl, k3, hk3, rfl, rfl, HK3⟩ := hrel
              obtain rfl := ha1 (by omega)
              have c5 := Hc1.out (bb / 64) (by omega)
              have hzb := Hz.out (bb / 64) (by omega)
              have hcov := cover_at (k := k3) HInv.out hlt2 HK3.out
              have hbit := and64_shr (Z.getD (bb / 64) 0) (bb % 64) hzb.1 hzb.2
              by_cases hkm : k3 < m
              · have c6 : wr.cell? ⟨B + 1, k3, none⟩ = some (.int .i64 (en P k3)) := HR2.out.cell hkm
                have c7 : wr.cell? ⟨B, k3, none⟩ = some (.int .i64 (st P k3)) := HR1.out.cell hkm
                by_cases hen : en P k3 ≤ 64 * (bb : Int)
                · have hen2 : en P k3 ≤ (bb : Int) * 64 := by omega
                  clear hcov hbit hzb hen
                  go_wp2_with fail
                  go_roundg (m - (k3 + 1))
                  case measure => omega
                  case rel =>
                    refine ⟨rfl, k3 + 1, by omega, rfl, by go_num, fun i hi hiP => ?_⟩
                    by_cases e : i = k3
                    · subst e; omega
                    · exact HK3.out i (by omega) hiP
                · have hen2 : (bb : Int) * 64 < en P k3 := by omega
                  have hcov2 := hcov (fun _ => by omega)
                  rw [← HM.out] at hcov2
                  obtain ⟨q, Hq⟩ : ∃ q, Hid (Z.getD (bb / 64) 0 = q) := ⟨_, rfl⟩
                  rw [Hq.out] at c5 hbit
                  have Hbb : Hid (Bit (fun i => Z.getD i 0) bb ↔ q / 2 ^ (bb % 64) % 2 = 1) := by rw [← Hq.out]; exact Iff.rfl
                  by_cases hB1 : q / 2 ^ (bb % 64) % 2 = 1
                  · have hst : st P k3 ≤ (bb : Int) * 64 := by have := (hcov2.2 (Hbb.out.2 hB1)).2; omega
                    have hset : (bits .and .u64 (q / 2 ^ (bb % 64)) 1 == 1) = true := by rw [hbit, hB1]; rfl
                    clear hcov hcov2 hbit hzb hen hB1
                    go_wp2_with fail
                    go_roundg (64 * n - (bb + 1))
                    case measure => omega
                    case rel => exact ⟨rfl, bb + 1, k3, by omega, rfl, by omega, by go_num, rfl, fun i hi hiP => by have := HK3.out i hi hiP; omega⟩
                  · have hst : (bb : Int) * 64 < st P k3 := by
                      have h1 : ¬ (k3 < m ∧ st P k3 ≤ 64 * (bb : Int)) := fun h => hB1 (Hbb.out.1 (hcov2.1 h))
                      omega
                    have hset : (bits .and .u64 (q / 2 ^ (bb % 64)) 1 == 1) = false := by rw [hbit]; simpa using hB1
                    clear hcov hcov2 hbit hzb hen hB1
                    go_wp2_with fail
                    go_roundg (64 * n - (bb + 1))
                    case measure => omega
                    case rel => exact ⟨rfl, bb + 1, k3, by omega, rfl, by omega, by go_num, rfl, fun i hi hiP => by have := HK3.out i hi hiP; omega⟩
              · obtain rfl : k3 = m := by omega
                have hcov2 := hcov (fun h => absurd h (by rw [← HM.out]; omega))
                obtain ⟨q, Hq⟩ : ∃ q, Hid (Z.getD (bb / 64) 0 = q) := ⟨_, rfl⟩
                rw [Hq.out] at c5 hbit
                have Hbb : Hid (Bit (fun i => Z.getD i 0) bb ↔ q / 2 ^ (bb % 64) % 2 = 1) := by rw [← Hq.out]; exact Iff.rfl
                have hB1 : ¬ q / 2 ^ (bb % 64) % 2 = 1 := fun h => by
                  have h2 := (hcov2.2 (Hbb.out.2 h)).1
                  rw [← HM.out] at h2
                  omega
                have hset : (bits .and .u64 (q / 2 ^ (bb % 64)) 1 == 1) = false := by rw [hbit]; simpa using hB1
                clear hcov hcov2 hbit hzb hB1
                go_wp2_with fail
                go_roundg (64 * n - (bb + 1))
                case measure => omega
                case rel => exact ⟨rfl, bb + 1, k3, by omega, rfl, by omega, by go_num, rfl, fun i hi hiP => by have := HK3.out i hi hiP; omega⟩
          · go_wp2_with fail
            go_ret
            exact ⟨rfl, hBB⟩
end Go.Proofs.Qxb6605554a
