import Derived.Test.Qxb6605554aGot
import Derived.Test.Qxb6605554aPlain3
set_option linter.unusedVariables false
set_option linter.unusedSimpArgs false
namespace Go.Proofs.Qxb6605554a
open Go.RowKit

set_option maxHeartbeats 1000000 in
theorem bits6 (o n : Int) (w : World) :
    Calls Try.prog 12 #[.int .u8 (opOf o n)] w fun e w' => e = .returned (.int .i64 (((bs o 4).length + (bs n 2).length : Nat) : Int)) ∧ w' = w := by
  rw [← pf_six]
  go_enter Try.func12, Try.ntmps12
  go_wp2
  go_loopg [3, 4] 6 (fun k s3 s4 wr => wr = w ∧ ∃ (j : Nat), j ≤ 6 ∧ k = 6 - j ∧ s4 = .int .i64 j ∧ s3 = .int .i64 (pf o n j))
  case atStart => exact ⟨rfl, 0, by omega, rfl, rfl, rfl⟩
  case round =>
    obtain ⟨rfl, j, hj, rfl, rfl, rfl⟩ := hrel
    rcases (show j = 0 ∨ j = 1 ∨ j = 2 ∨ j = 3 ∨ j = 4 ∨ j = 5 ∨ j = 6 by omega) with rfl | rfl | rfl | rfl | rfl | rfl | rfl
    · have hb0 := (pf_bd o n 0).1
      have hb1 := (pf_bd o n 0).2
      by_cases hb : byteK o 0 = 0
      · have ha := op_and0 o n
        rw [flag_zero hb] at ha
        have HS : Hid (pf o n 1 = pf o n 0) := by show pf o n 1 = pf o n 0; simp only [pf]; rw [flag_zero hb]; try omega
        clear hb
        go_wp2
        go_roundg (6 - 1)
        case measure => omega
        case rel => exact ⟨rfl, 1, by omega, rfl, by go_num, by rw [HS.out]⟩
      · have ha := op_and0 o n
        rw [flag_one hb] at ha
        have HS : Hid (pf o n 1 = pf o n 0 + 1) := by show pf o n 1 = pf o n 0 + 1; simp only [pf]; rw [flag_one hb]; try omega
        clear hb
        go_wp2
        go_roundg (6 - 1)
        case measure => omega
        case rel => exact ⟨rfl, 1, by omega, rfl, by go_num, by rw [HS.out]⟩
    · have hb0 := (pf_bd o n 1).1
      have hb1 := (pf_bd o n 1).2
      by_cases hb : byteK o 1 = 0
      · have ha := op_and1 o n
        rw [flag_zero hb] at ha
        have HS : Hid (pf o n 2 = pf o n 1) := by show pf o n 2 = pf o n 1; simp only [pf]; rw [flag_zero hb]; try omega
        clear hb
        go_wp2
        go_roundg (6 - 2)
        case measure => omega
        case rel => exact ⟨rfl, 2, by omega, rfl, by go_num, by rw [HS.out]⟩
      · have ha := op_and1 o n
        rw [flag_one hb] at ha
        have HS : Hid (pf o n 2 = pf o n 1 + 1) := by show pf o n 2 = pf o n 1 + 1; simp only [pf]; rw [flag_one hb]; try omega
        clear hb
        go_wp2
        go_roundg (6 - 2)
        case measure => omega
        case rel => exact ⟨rfl, 2, by omega, rfl, by go_num, by rw [HS.out]⟩
    · have hb0 := (pf_bd o n 2).1
      have hb1 := (pf_bd o n 2).2
      by_cases hb : byteK o 2 = 0
      · have ha := op_and2 o n
        rw [flag_zero hb] at ha
        have HS : Hid (pf o n 3 = pf o n 2) := by show pf o n 3 = pf o n 2; simp only [pf]; rw [flag_zero hb]; try omega
        clear hb
        go_wp2
        go_roundg (6 - 3)
        case measure => omega
        case rel => exact ⟨rfl, 3, by omega, rfl, by go_num, by rw [HS.out]⟩
      · have ha := op_and2 o n
        rw [flag_one hb] at ha
        have HS : Hid (pf o n 3 = pf o n 2 + 1) := by show pf o n 3 = pf o n 2 + 1; simp only [pf]; rw [flag_one hb]; try omega
        clear hb
        go_wp2
        go_roundg (6 - 3)
        case measure => omega
        case rel => exact ⟨rfl, 3, by omega, rfl, by go_num, by rw [HS.out]⟩
    · have hb0 := (pf_bd o n 3).1
      have hb1 := (pf_bd o n 3).2
      by_cases hb : byteK o 3 = 0
      · have ha := op_and3 o n
        rw [flag_zero hb] at ha
        have HS : Hid (pf o n 4 = pf o n 3) := by show pf o n 4 = pf o n 3; simp only [pf]; rw [flag_zero hb]; try omega
        clear hb
        go_wp2
        go_roundg (6 - 4)
        case measure => omega
        case rel => exact ⟨rfl, 4, by omega, rfl, by go_num, by rw [HS.out]⟩
      · have ha := op_and3 o n
        rw [flag_one hb] at ha
        have HS : Hid (pf o n 4 = pf o n 3 + 1) := by show pf o n 4 = pf o n 3 + 1; simp only [pf]; rw [flag_one hb]; try omega
        clear hb
        go_wp2
        go_roundg (6 - 4)
        case measure => omega
        case rel => exact ⟨rfl, 4, by omega, rfl, by go_num, by rw [HS.out]⟩
    · have hb0 := (pf_bd o n 4).1
      have hb1 := (pf_bd o n 4).2
      by_cases hb : byteK n 0 = 0
      · have ha := op_and4 o n
        rw [flag_zero hb] at ha
        have HS : Hid (pf o n 5 = pf o n 4) := by show pf o n 5 = pf o n 4; simp only [pf]; rw [flag_zero hb]; try omega
        clear hb
        go_wp2
        go_roundg (6 - 5)
        case measure => omega
        case rel => exact ⟨rfl, 5, by omega, rfl, by go_num, by rw [HS.out]⟩
      · have ha := op_and4 o n
        rw [flag_one hb] at ha
        have HS : Hid (pf o n 5 = pf o n 4 + 1) := by show pf o n 5 = pf o n 4 + 1; simp only [pf]; rw [flag_one hb]; try omega
        clear hb
        go_wp2
        go_roundg (6 - 5)
        case measure => omega
        case rel => exact ⟨rfl, 5, by omega, rfl, by go_num, by rw [HS.out]⟩
    · have hb0 := (pf_bd o n 5).1
      have hb1 := (pf_bd o n 5).2
      by_cases hb : byteK n 1 = 0
      · have ha := op_and5 o n
        rw [flag_zero hb] at ha
        have HS : Hid (pf o n 6 = pf o n 5) := by show pf o n 6 = pf o n 5; simp only [pf]; rw [flag_zero hb]; try omega
        clear hb
        go_wp2
        go_roundg (6 - 6)
        case measure => omega
        case rel => exact ⟨rfl, 6, by omega, rfl, by go_num, by rw [HS.out]⟩
      · have ha := op_and5 o n
        rw [flag_one hb] at ha
        have HS : Hid (pf o n 6 = pf o n 5 + 1) := by show pf o n 6 = pf o n 5 + 1; simp only [pf]; rw [flag_one hb]; try omega
        clear hb
        go_wp2
        go_roundg (6 - 6)
        case measure => omega
        case rel => exact ⟨rfl, 6, by omega, rfl, by go_num, by rw [HS.out]⟩
    · go_wp2
      go_ret
      exact ⟨rfl, rfl⟩

/-- A slice as told, still told in a later world that has kept what lies below. -/
theorem Got.later {base B : Nat} {w w' : World} {T : List Int} {a : Option Addr} {c g : Nat} (h : Got base w T a c g) (hb : Below w.heap.size w w') :
    ∀ i, i < T.length → w'.cell? ⟨g, i, none⟩ = some (.int .u8 (T.getD i 0)) := fun i hi => by
  have hl := World.block_lt_of_cell? _ _ (h.cell i hi)
  rw [hb.cell (by exact hl)]
  exact h.cell i hi

theorem isRow_later {k : IntKind} {w w' : World} {a : Option Addr} {n c : Nat} {zs : List Int} (h : IsRow k w a n c zs) (hb : Below w.heap.size w w') : IsRow k w' a n c zs := by
  rcases h with h | ⟨x, rfl, hl, hm, hz, hc, hwf⟩
  · exact .inl h
  · refine .inr ⟨x, rfl, hl, hm, hz, fun i hi => ?_, hwf⟩
    have h1 := hc i hi
    rw [hb.cell (World.block_lt_of_cell? _ _ h1)]
    exact h1

set_option maxHeartbeats 4000000 in
set_option maxRecDepth 100000 in
theorem splitMain (a : Option Addr) (n c k : Nat) (zs : List Int) (off s : Int) (w : World) (hn : n ≤ 1048576) (h : IsRow .u8 w a n c zs) (hk : k ≤ 8192) (hs0 : 0 ≤ s) (hs : s ≤ 536870912) (ho : -9223372036854775808 ≤ off) (ho2 : off ≤ 9223372036854775807) :
    Calls Try.prog 4 #[.slice a n c, .int .i64 off, .int .i64 k, .int .i64 s] w fun e w' => e = .returned (.bool true) ∧ Below w.heap.size w w' := by
  obtain ⟨F, hF, hF2⟩ : ∃ F : Nat, F ≤ 8192 ∧ s ≤ 65536 * F := ⟨8192, Nat.le_refl _, by omega⟩
  have hkz : (0 : Int) ≤ (k : Int) := by omega
  have hkz2 : (k : Int) ≤ 8192 := by omega
  go_enter Try.func4, Try.ntmps4
  go_wp2_with fail
  refine (bytes11 _ _ _ _ _ _ _ hn).mono ?_
  rintro e w' ⟨rfl, rfl⟩
  go_wp2_with fail
  refine (clone_own _ _ _ _ _ hn h).mono ?_
  rintro e w1 ⟨a1, rfl, hr1, -, hB1, hl1⟩
  generalize zs.take n = Z at hr1 hl1
  clear h
  go_wp2_with fail
  refine (clone_own _ _ _ _ _ hn hr1).mono ?_
  rintro e w2 ⟨a2, rfl, -, ho2r, hB2, -⟩
  rw [List.take_of_length_le (by omega)] at ho2r
  subst hl1
  go_wp2_with fail
  refine (zzAppendCopy _ Z w1.heap.size off _ (k + F) _ ho2r hB2.size (by omega) (by omega) (by omega) ho ho2).mono ?_
  rintro e w3 ⟨a3, c3, g3, rfl, hgot, hB3⟩
  clear ho2r
  obtain ⟨T, HT⟩ : ∃ T, Hid (T = Z ++ enc (k + F) off ((k : Int) * 65536 + s)) := ⟨_, rfl⟩
  rw [← HT.out] at hgot
  rw [← HT.out]
  have hTZ : Z.length ≤ T.length := by rw [HT.out]; simp
  have hT63 : T.length ≤ 1900000 := by rw [HT.out, List.length_append]; have := enc_len (k + F) off ((k : Int) * 65536 + s); omega
  have hr3 : IsRow .u8 w3 a1 Z.length Z.length Z := isRow_later hr1 (by exact hB2.trans hB3)
  go_wp2_with fail
  refine (clone_own _ _ _ _ _ hn hr3).mono ?_
  rintro e w4 ⟨a4, rfl, -, ho4, hB4, -⟩
  rw [List.take_of_length_le (by omega)] at ho4
  go_wp2_with fail
  refine (zzAppendCopy _ Z w3.heap.size off _ k _ ho4 hB4.size (by omega) (by omega) (by omega) ho ho2).mono ?_
  rintro e w5 ⟨a5, c5, g5, rfl, hgot5, hB5⟩
  clear ho4
  obtain ⟨M, HM⟩ : ∃ M, Hid (M = Z ++ enc k off ((k : Int) * 65536)) := ⟨_, rfl⟩
  rw [← HM.out] at hgot5
  rw [← HM.out]
  have hM63 : M.length ≤ 1048576 + 7 * k := by rw [HM.out, List.length_append]; have := enc_len k off ((k : Int) * 65536); omega
  go_wp2_with fail
  refine (zzAppendCopy _ M w3.heap.size (wrap64 (off + (k : Int) * 65536)) _ F _ hgot5.own (Nat.le_trans hB4.size hB5.size) (by omega) (by omega) (by omega) (wrap_bd _).1 (wrap_bd _).2).mono ?_
  rintro e w6 ⟨a6, c6, g6, rfl, hgot6, hB6⟩
  have hMT : M ++ enc F (wrap64 (off + (k : Int) * 65536)) s = T := by
    rw [HM.out, HT.out, List.append_assoc, enc_congr F s (wrap_mod _), Int.mul_comm, enc_split F s hs0 k off]
  rw [hMT] at hgot6
  rw [hMT]
  clear hMT hgot5
  have hBB : Below w3.heap.size w3 w6 := (hB4.trans hB5).trans hB6
  have hW : Below w'.heap.size w' w6 := ((hB1.trans (hB2.mono hB1.size)).trans (hB3.mono hB1.size)).trans (hBB.mono (by have := hB1.size; have := hB2.size; have := hB3.size; omega))
  obtain ⟨b1, o1, ha1, hc1⟩ := isRow_cells (isRow_later hr1 (by exact (hB2.trans hB3).trans (hBB.mono (by have := hB2.size; have := hB3.size; omega))))
  have HZ : Hid (∀ i, i < Z.length → w6.cell? ⟨b1, o1 + i, none⟩ = some (.int .u8 (T.getD i 0))) := fun i hi => by
    rw [hc1 i hi, HT.out]
    simp [List.getD, List.getElem?_append_left hi]
  have HcT : Hid (∀ i, i < T.length → w6.cell? ⟨g3, i, none⟩ = some (.int .u8 (T.getD i 0))) := hgot.later (B := 0) hBB
  have HcS : Hid (∀ i, i < T.length → w6.cell? ⟨g6, i, none⟩ = some (.int .u8 (T.getD i 0))) := hgot6.cell
  have haT := hgot.at0
  have haS := hgot6.at0
  clear hc1 hr1 hr3 hB1 hB2 hB3 hB4 hB5 hB6 hgot hgot6 hBB
  have hlz2 : ¬ T.length < Z.length := by omega
  go_wp2_with fail
  go_loopg [14] T.length (fun g i wr => ∃ j q : Nat, j ≤ T.length ∧ g = T.length - j ∧ i = .int .i64 j ∧ wr = w6.drewN q)
  case atStart => exact ⟨0, 0, Nat.zero_le _, rfl, rfl, rfl⟩
  case round =>
    obtain ⟨j, q, hj, rfl, rfl, rfl⟩ := hrel
    by_cases hlt : j < T.length
    · obtain rfl := haT (by omega)
      obtain rfl := haS (by omega)
      have g1 := HcT.out j hlt
      have g2 := HcS.out j hlt
      clear ha1 haT haS
      go_wp2
      go_region
      all_goals go_wp2
      all_goals go_roundg (T.length - (j + 1))
      all_goals first | omega | exact ⟨j + 1, q + 1, by omega, rfl, by go_num, rfl⟩
    · go_wp2_with fail
      clear haS HcS
      go_loopg [15] Z.length (fun g i wr => ∃ j q : Nat, j ≤ Z.length ∧ g = Z.length - j ∧ i = .int .i64 j ∧ wr = w6.drewN q)
      case atStart => exact ⟨0, q, Nat.zero_le _, rfl, rfl, rfl⟩
      case round =>
        obtain ⟨j2, q, hj2, rfl, rfl, rfl⟩ := hrel
        by_cases hlt : j2 < Z.length
        · obtain rfl := ha1 (by omega)
          obtain rfl := haT (by omega)
          have g1 := HZ.out j2 hlt
          have g2 := HcT.out j2 (by omega)
          have g3 : (j2 : Int) < (T.length : Int) := by omega
          clear ha1 haT
          go_wp2
          go_region
          all_goals go_wp2
          all_goals go_roundg (Z.length - (j2 + 1))
          all_goals first | omega | exact ⟨j2 + 1, q + 1, by omega, rfl, by go_num, rfl⟩
        · have hTd : Hid (T.drop Z.length = enc (k + F) off ((k : Int) * 65536 + s)) := by show T.drop Z.length = _; rw [HT.out]; simp
          clear ha1 HZ HT HM
          go_wp2_with fail
          go_loopg [17, 18] (k + F) (fun f s17 s18 wr => ∃ (p : Nat) (o r cnt : Int), s17 = .int .i64 p ∧ s18 = .int .i64 cnt ∧ wr = w6.drewN q ∧ 0 ≤ r ∧ r ≤ 65536 * f ∧ r ≤ 1073741824 ∧ p ≤ T.length ∧ 0 ≤ cnt ∧ cnt + (r + 65535) / 65536 = ((k : Int) * 65536 + s + 65535) / 65536 ∧ Hid (T.drop p = enc f o r))
          case atStart => exact ⟨Z.length, off, _, 0, rfl, rfl, rfl, by omega, by omega, by omega, hTZ, by omega, by omega, hTd⟩
          case round =>
            obtain ⟨p, o, r, cnt, rfl, rfl, rfl, hr0, hrf, hr1, hpT, hcnt0, hcnt, HE⟩ := hrel
            clear hTd
            by_cases hpos : 0 < r
            · obtain ⟨gk, rfl⟩ : ∃ k, gk = k + 1 := ⟨gk - 1, by omega⟩
              obtain ⟨n, hn1, hn2, hn3, Hn⟩ : ∃ n : Int, 1 ≤ n ∧ n ≤ 65536 ∧ n ≤ r ∧ Hid (n = min r 65536) := ⟨min r 65536, by omega, by omega, by omega, rfl⟩
              have HI : Hid (T.drop p = instr o n ++ enc gk (o + n) (r - n)) := by
                have e := HE.out
                rw [enc_step gk o r n hpos Hn.out] at e
                exact e
              have hop := at_op HI.out
              obtain rfl := haT (by omega)
              have g1 := HcT.out p hop.1
              have e1 : T.getD p 0 = opOf o n := by simp [List.getD, hop.2]
              rw [e1] at g1
              have hop1 : (p : Int) < (T.length : Int) := by have := hop.1; omega
              have ha7 := op_and7 o n
              have ha6 := op_and6 o n
              have Hdrop : Hid (T.drop (p + 1 + (bs o 4).length + (bs n 2).length) = enc gk (o + n) (r - n)) := drop_instr HI.out
              have HpT : Hid (p + 1 + (bs o 4).length + (bs n 2).length ≤ T.length) := by
                have e := congrArg List.length HI.out
                simp only [List.length_drop, List.length_append, instr, List.length_cons] at e
                show _ ≤ _
                omega
              have Hcnt : Hid (cnt + (r + 65535) / 65536 = ((k : Int) * 65536 + s + 65535) / 65536) := hcnt
              have hcb : cnt ≤ 20000 := by omega
              have hlb : (bs o 4).length + (bs n 2).length ≤ 6 := by have := bs_len o 4; have := bs_len n 2; omega
              clear hop e1 hcnt haT
              go_wp2_with fail
              refine (bits6 o n _).mono ?_
              rintro e w7 ⟨rfl, rfl⟩
              obtain ⟨N, HN⟩ : ∃ N : Nat, Hid ((bs o 4).length + (bs n 2).length = N) := ⟨_, rfl⟩
              rw [HN.out] at hlb
              rw [HN.out]
              go_wp2_with fail
              go_roundg gk
              case measure => omega
              case rel =>
                have hN := HN.out
                have hnm := Hn.out
                have hct := Hcnt.out
                refine ⟨p + 1 + (bs o 4).length + (bs n 2).length, o + n, r - n, cnt + 1, by go_num, rfl, rfl, by omega, by omega, by omega, HpT.out, by omega, by omega, Hdrop⟩
            · obtain rfl : r = 0 := by omega
              have hpe : p = T.length := by
                have := HE.out
                rw [enc_nil _ _ _ (by omega), List.drop_eq_nil_iff] at this
                omega
              subst hpe
              have hce : (cnt == ((k : Int) * 65536 + s + 65535) / 65536) = true := by simp; omega
              clear HE hcnt
              go_wp2
              go_ret
              exact ⟨rfl, below_drewN hW _⟩

set_option maxHeartbeats 1000000 in
set_option maxRecDepth 100000 in
theorem split_out (a : Option Addr) (n c : Nat) (off k s : Int) (w : World) (h : 1048576 < n ∨ (n ≤ 1048576 ∧ (k < 0 ∨ 8192 < k ∨ s < 0 ∨ 536870912 < s))) :
    Calls Try.prog 4 #[.slice a n c, .int .i64 off, .int .i64 k, .int .i64 s] w fun e w' => e = .returned (.bool true) ∧ Below w.heap.size w w' := by
  rcases h with hn | ⟨hn, h⟩
  · go_enter Try.func4, Try.ntmps4
    go_wp2_with fail
    refine (bytes11_no _ _ _ _ _ _ _ hn).mono ?_
    rintro e w' ⟨rfl, rfl⟩
    go_wp2
    go_ret
    exact ⟨rfl, Below.refl _ _⟩
  · by_cases h1 : k < 0
    · clear h
      go_enter Try.func4, Try.ntmps4
      go_wp2_with fail
      refine (bytes11 _ _ _ _ _ _ _ hn).mono ?_
      rintro e w' ⟨rfl, rfl⟩
      go_wp2
      all_goals go_ret
      all_goals exact ⟨rfl, Below.refl _ _⟩
    · by_cases h2 : 8192 < k
      · clear h
        go_enter Try.func4, Try.ntmps4
        go_wp2_with fail
        refine (bytes11 _ _ _ _ _ _ _ hn).mono ?_
        rintro e w' ⟨rfl, rfl⟩
        go_wp2
        all_goals go_ret
        all_goals exact ⟨rfl, Below.refl _ _⟩
      · by_cases h3 : s < 0
        · clear h
          go_enter Try.func4, Try.ntmps4
          go_wp2_with fail
          refine (bytes11 _ _ _ _ _ _ _ hn).mono ?_
          rintro e w' ⟨rfl, rfl⟩
          go_wp2
          all_goals go_ret
          all_goals exact ⟨rfl, Below.refl _ _⟩
        · have h4 : 536870912 < s := by omega
          clear h
          go_enter Try.func4, Try.ntmps4
          go_wp2_with fail
          refine (bytes11 _ _ _ _ _ _ _ hn).mono ?_
          rintro e w' ⟨rfl, rfl⟩
          go_wp2
          all_goals go_ret
          all_goals exact ⟨rfl, Below.refl _ _⟩

theorem splitLaw (a : Option Addr) (n c : Nat) (zs : List Int) (off k s : Int) (w : World) (h : IsRow .u8 w a n c zs) (ho : -9223372036854775808 ≤ off) (ho2 : off ≤ 9223372036854775807) :
    Calls Try.prog 4 #[.slice a n c, .int .i64 off, .int .i64 k, .int .i64 s] w fun e w' => e = .returned (.bool true) ∧ Below w.heap.size w w' := by
  by_cases hn : n ≤ 1048576
  · by_cases hk : k < 0 ∨ 8192 < k ∨ s < 0 ∨ 536870912 < s
    · exact split_out a n c off k s w (.inr ⟨hn, hk⟩)
    · obtain ⟨k', rfl⟩ := Int.eq_ofNat_of_zero_le (show 0 ≤ k by omega)
      exact splitMain a n c k' zs off s w hn h (by omega) (by omega) (by omega) ho ho2
  · exact split_out a n c off k s w (.inl (by omega))
end Go.Proofs.Qxb6605554a
