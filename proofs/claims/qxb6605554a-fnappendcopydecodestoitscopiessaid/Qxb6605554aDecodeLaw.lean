import Derived.Test.Qxb6605554aGot
set_option linter.unusedVariables false
set_option linter.unusedSimpArgs false
namespace Go.Proofs.Qxb6605554a
open Go.RowKit

set_option maxHeartbeats 4000000 in
set_option maxRecDepth 100000 in
theorem decodeMain (a : Option Addr) (n c : Nat) (zs : List Int) (off size : Int) (w : World) (hn : n ≤ 1048576) (h : IsRow .u8 w a n c zs) (hs : size ≤ 1073741824) (ho : -9223372036854775808 ≤ off) (ho2 : off ≤ 9223372036854775807) :
    Calls Try.prog 3 #[.slice a n c, .int .i64 off, .int .i64 size] w fun e w' => e = .returned (.bool true) ∧ Below w.heap.size w w' := by
  obtain ⟨F, hF, hF2⟩ : ∃ F : Nat, F ≤ 16384 ∧ size ≤ 65536 * F := ⟨16384, Nat.le_refl _, by omega⟩
  go_enter Try.func3, Try.ntmps3
  go_wp2_with fail
  refine (bytes8 _ _ _ _ _ _ hn).mono ?_
  rintro e w' ⟨rfl, rfl⟩
  go_wp2_with fail
  refine (clone_own _ _ _ _ _ hn h).mono ?_
  rintro e w1 ⟨a1, rfl, hr1, -, hB1, hl1⟩
  generalize zs.take n = Z at hr1 hl1
  clear h
  go_wp2_with fail
  refine (clone_own _ _ _ _ _ hn hr1).mono ?_
  rintro e w2 ⟨a2, rfl, -, ho2r, hB2, -⟩
  rw [List.take_of_length_le (by omega)] at ho2r
  subst hl1
  go_wp2_with fail
  refine (zzAppendCopy _ Z w1.heap.size off size F _ ho2r hB2.size (by omega) hF2 hs ho ho2).mono ?_
  rintro e w3 ⟨a3, c3, g3, rfl, hgot, hB3⟩
  clear ho2r
  obtain ⟨T, HT⟩ : ∃ T, Hid (T = Z ++ enc F off size) := ⟨_, rfl⟩
  rw [← HT.out] at hgot
  rw [← HT.out]
  have hTZ : Z.length ≤ T.length := by rw [HT.out]; simp
  have hT63 : T.length ≤ 1900000 := by rw [HT.out, List.length_append]; have := enc_len F off size; omega
  obtain ⟨b1, o1, ha1, hc1⟩ := isRow_cells hr1
  have hc3 : ∀ i, i < Z.length → w3.cell? ⟨b1, o1 + i, none⟩ = some (.int .u8 (T.getD i 0)) := fun i hi => by
    have hb := World.block_lt_of_cell? _ _ (hc1 i hi)
    rw [hB3.cell (by exact hb), hB2.cell (by exact hb), hc1 i hi, HT.out]
    simp [List.getD, List.getElem?_append_left hi]
  have hBB : Below w'.heap.size w' w3 := (hB1.trans (hB2.mono hB1.size)).trans (hB3.mono hB1.size)
  have hcT := hgot.cell
  have haT := hgot.at0
  clear hc1 hr1 hB1 hB2 hB3 hgot
  have hlz2 : ¬ T.length < Z.length := by omega
  go_wp2_with fail
  go_loopg [8] Z.length (fun g i wr => ∃ k q : Nat, k ≤ Z.length ∧ g = Z.length - k ∧ i = .int .i64 k ∧ wr = w3.drewN q)
  case atStart => exact ⟨0, 0, Nat.zero_le _, rfl, rfl, rfl⟩
  case round =>
    obtain ⟨k, q, hk, rfl, rfl, rfl⟩ := hrel
    by_cases hlt : k < Z.length
    · obtain rfl := ha1 (by omega)
      obtain rfl := haT (by omega)
      have g1 := hc3 k hlt
      have g2 := hcT k (by omega)
      have g3 : (k : Int) < (T.length : Int) := by omega
      clear hc3 hcT ha1 haT
      go_wp2
      go_region
      all_goals go_wp2
      all_goals go_roundg (Z.length - (k + 1))
      all_goals first | omega | exact ⟨k + 1, q + 1, by omega, rfl, by go_num, rfl⟩
    · go_wp2_with fail
      have HT2 : Hid (T.drop Z.length = enc F off size) := by show T.drop Z.length = enc F off size; rw [HT.out]; simp
      have HcT : Hid (∀ i, i < T.length → w3.cell? ⟨g3, i, none⟩ = some (.int .u8 (T.getD i 0))) := hcT
      clear hc3 ha1 HT hcT
      go_loopg [9, 10, 11] F (fun f s9 s10 s11 wr => ∃ (p q : Nat) (o s : Int), s9 = .int .i64 p ∧ s10 = .int .u32 (o % 4294967296) ∧ s11 = .int .i64 s ∧ wr = w3.drewN q ∧ s ≤ 65536 * f ∧ s ≤ 1073741824 ∧ p ≤ T.length ∧ Hid (T.drop p = enc f o s))
      case atStart => exact ⟨Z.length, q, off, size, rfl, rfl, rfl, rfl, hF2, hs, hTZ, HT2⟩
      case round =>
        obtain ⟨p, q, o, s, rfl, rfl, rfl, rfl, hsf, hs1, hpT, HE⟩ := hrel
        clear HT2
        by_cases hpos : 0 < s
        · obtain ⟨gk, rfl⟩ : ∃ k, gk = k + 1 := ⟨gk - 1, by omega⟩
          obtain ⟨n, hn1, hn2, hn3, Hn⟩ : ∃ n : Int, 1 ≤ n ∧ n ≤ 65536 ∧ n ≤ s ∧ Hid (n = min s 65536) := ⟨min s 65536, by omega, by omega, by omega, rfl⟩
          have HI : Hid (T.drop p = instr o n ++ enc gk (o + n) (s - n)) := by
            have e := HE.out
            rw [enc_step gk o s n hpos Hn.out] at e
            exact e
          have hop := at_op HI.out
          obtain rfl := haT (by omega)
          have g1 := HcT.out p hop.1
          have e1 : T.getD p 0 = opOf o n := by simp [List.getD, hop.2]
          rw [e1] at g1
          have hop1 : (p : Int) < (T.length : Int) := by have := hop.1; omega
          have ha7 := op_and7 o n
          have ha6 := op_and6 o n
          clear hop e1
          go_wp2_with fail
          clear ha7 ha6 g1
          go_loopg [9, 13, 14] 4 (fun k s9 s13 s14 wi => wi = w3.drewN q ∧ ∃ (j : Nat) (x : Int), j ≤ 4 ∧ k = 4 - j ∧ s14 = .int .i64 j ∧ s9 = .int .i64 ((p + 1 + (bs o j).length : Nat) : Int) ∧ s13 = .int .u32 x ∧ Hid (x = o % 256 ^ j))
          case atStart => exact ⟨rfl, 0, 0, by omega, rfl, rfl, by simp [bs], rfl, by show (0 : Int) = o % 256 ^ 0; simp⟩
          case round =>
            obtain ⟨rfl, j, x, hj, rfl, rfl, rfl, rfl, Hx⟩ := hrel
            rcases (show j = 0 ∨ j = 1 ∨ j = 2 ∨ j = 3 ∨ j = 4 by omega) with rfl | rfl | rfl | rfl | rfl
            · have hx : x = o % 1 := Hx.out
              have Hx' := Hx
              clear Hx
              by_cases hb : byteK o 0 = 0
              · have ha := op_and0 o n
                rw [flag_zero hb] at ha
                have HX : Hid (x = o % 256 ^ 1) := acc_zero0 o x hx hb
                have HL : Hid ((bs o 1).length = (bs o 0).length) := bs_same_len o 0 hb
                clear hx hb Hx'
                go_wp2_with fail
                go_roundg (4 - 1)
                case measure => omega
                case rel => exact ⟨rfl, 1, x, by omega, rfl, by go_num, by rw [HL.out], rfl, HX⟩
              · have ha := op_and0 o n
                rw [flag_one hb] at ha
                have hq := at_off HI.out 0 (by omega) hb
                have HL : Hid ((bs o 1).length = (bs o 0).length + 1) := bs_succ_len o 0 hb
                obtain ⟨P, HP⟩ : ∃ P, Hid (p + 1 + (bs o 0).length = P) := ⟨_, rfl⟩
                rw [HP.out] at hq
                rw [HP.out]
                have g1 := HcT.out P hq.1
                have e1 : T.getD P 0 = byteK o 0 := by simp [List.getD, hq.2]
                rw [e1] at g1
                have hP : (P : Int) < (T.length : Int) := by have := hq.1; omega
                have hbz : (byteK o 0 == 0) = false := by simpa using hb
                have hor := or32_0 o x hx
                clear hq e1 hx hb Hx'
                go_wp2_with fail
                go_roundg (4 - 1)
                case measure => omega
                case rel => exact ⟨rfl, 1, _, by omega, rfl, by go_num, by rw [HL.out, ← Nat.add_assoc, HP.out]; go_num, rfl, rfl⟩
            · have hx : x = o % 256 := Hx.out
              have Hx' := Hx
              clear Hx
              by_cases hb : byteK o 1 = 0
              · have ha := op_and1 o n
                rw [flag_zero hb] at ha
                have HX : Hid (x = o % 256 ^ 2) := acc_zero1 o x hx hb
                have HL : Hid ((bs o 2).length = (bs o 1).length) := bs_same_len o 1 hb
                clear hx hb Hx'
                go_wp2_with fail
                go_roundg (4 - 2)
                case measure => omega
                case rel => exact ⟨rfl, 2, x, by omega, rfl, by go_num, by rw [HL.out], rfl, HX⟩
              · have ha := op_and1 o n
                rw [flag_one hb] at ha
                have hq := at_off HI.out 1 (by omega) hb
                have HL : Hid ((bs o 2).length = (bs o 1).length + 1) := bs_succ_len o 1 hb
                obtain ⟨P, HP⟩ : ∃ P, Hid (p + 1 + (bs o 1).length = P) := ⟨_, rfl⟩
                rw [HP.out] at hq
                rw [HP.out]
                have g1 := HcT.out P hq.1
                have e1 : T.getD P 0 = byteK o 1 := by simp [List.getD, hq.2]
                rw [e1] at g1
                have hP : (P : Int) < (T.length : Int) := by have := hq.1; omega
                have hbz : (byteK o 1 == 0) = false := by simpa using hb
                have hor := or32_1 o x hx
                clear hq e1 hx hb Hx'
                go_wp2_with fail
                go_roundg (4 - 2)
                case measure => omega
                case rel => exact ⟨rfl, 2, _, by omega, rfl, by go_num, by rw [HL.out, ← Nat.add_assoc, HP.out]; go_num, rfl, rfl⟩
            · have hx : x = o % 65536 := Hx.out
              have Hx' := Hx
              clear Hx
              by_cases hb : byteK o 2 = 0
              · have ha := op_and2 o n
                rw [flag_zero hb] at ha
                have HX : Hid (x = o % 256 ^ 3) := acc_zero2 o x hx hb
                have HL : Hid ((bs o 3).length = (bs o 2).length) := bs_same_len o 2 hb
                clear hx hb Hx'
                go_wp2_with fail
                go_roundg (4 - 3)
                case measure => omega
                case rel => exact ⟨rfl, 3, x, by omega, rfl, by go_num, by rw [HL.out], rfl, HX⟩
              · have ha := op_and2 o n
                rw [flag_one hb] at ha
                have hq := at_off HI.out 2 (by omega) hb
                have HL : Hid ((bs o 3).length = (bs o 2).length + 1) := bs_succ_len o 2 hb
                obtain ⟨P, HP⟩ : ∃ P, Hid (p + 1 + (bs o 2).length = P) := ⟨_, rfl⟩
                rw [HP.out] at hq
                rw [HP.out]
                have g1 := HcT.out P hq.1
                have e1 : T.getD P 0 = byteK o 2 := by simp [List.getD, hq.2]
                rw [e1] at g1
                have hP : (P : Int) < (T.length : Int) := by have := hq.1; omega
                have hbz : (byteK o 2 == 0) = false := by simpa using hb
                have hor := or32_2 o x hx
                clear hq e1 hx hb Hx'
                go_wp2_with fail
                go_roundg (4 - 3)
                case measure => omega
                case rel => exact ⟨rfl, 3, _, by omega, rfl, by go_num, by rw [HL.out, ← Nat.add_assoc, HP.out]; go_num, rfl, rfl⟩
            · have hx : x = o % 16777216 := Hx.out
              have Hx' := Hx
              clear Hx
              by_cases hb : byteK o 3 = 0
              · have ha := op_and3 o n
                rw [flag_zero hb] at ha
                have HX : Hid (x = o % 256 ^ 4) := acc_zero3 o x hx hb
                have HL : Hid ((bs o 4).length = (bs o 3).length) := bs_same_len o 3 hb
                clear hx hb Hx'
                go_wp2_with fail
                go_roundg (4 - 4)
                case measure => omega
                case rel => exact ⟨rfl, 4, x, by omega, rfl, by go_num, by rw [HL.out], rfl, HX⟩
              · have ha := op_and3 o n
                rw [flag_one hb] at ha
                have hq := at_off HI.out 3 (by omega) hb
                have HL : Hid ((bs o 4).length = (bs o 3).length + 1) := bs_succ_len o 3 hb
                obtain ⟨P, HP⟩ : ∃ P, Hid (p + 1 + (bs o 3).length = P) := ⟨_, rfl⟩
                rw [HP.out] at hq
                rw [HP.out]
                have g1 := HcT.out P hq.1
                have e1 : T.getD P 0 = byteK o 3 := by simp [List.getD, hq.2]
                rw [e1] at g1
                have hP : (P : Int) < (T.length : Int) := by have := hq.1; omega
                have hbz : (byteK o 3 == 0) = false := by simpa using hb
                have hor := or32_3 o x hx
                clear hq e1 hx hb Hx'
                go_wp2_with fail
                go_roundg (4 - 4)
                case measure => omega
                case rel => exact ⟨rfl, 4, _, by omega, rfl, by go_num, by rw [HL.out, ← Nat.add_assoc, HP.out]; go_num, rfl, rfl⟩
            · have HX4 : Hid (x = o % 4294967296) := Hx.out
              clear Hx
              go_wp2_with fail
              go_loopg [9, 15, 16] 2 (fun k s9 s15 s16 wi => wi = w3.drewN q ∧ ∃ (j : Nat) (y : Int), j ≤ 2 ∧ k = 2 - j ∧ s16 = .int .i64 j ∧ s9 = .int .i64 ((p + 1 + (bs o 4).length + (bs n j).length : Nat) : Int) ∧ s15 = .int .i64 y ∧ Hid (y = n % 256 ^ j))
              case atStart => exact ⟨rfl, 0, 0, by omega, rfl, rfl, by simp [bs], rfl, by show (0 : Int) = n % 256 ^ 0; simp⟩
              case round =>
                obtain ⟨rfl, j, y, hj, rfl, rfl, rfl, rfl, Hx⟩ := hrel
                rcases (show j = 0 ∨ j = 1 ∨ j = 2 by omega) with rfl | rfl | rfl
                · have hx : y = n % 1 := Hx.out
                  have Hx' := Hx
                  clear Hx
                  by_cases hb : byteK n 0 = 0
                  · have ha := op_and4 o n
                    rw [flag_zero hb] at ha
                    have HX : Hid (y = n % 256 ^ 1) := acc_zero0 n y hx hb
                    have HL : Hid ((bs n 1).length = (bs n 0).length) := bs_same_len n 0 hb
                    clear hx hb Hx'
                    go_wp2_with fail
                    go_roundg (2 - 1)
                    case measure => omega
                    case rel => exact ⟨rfl, 1, y, by omega, rfl, by go_num, by rw [HL.out], rfl, HX⟩
                  · have ha := op_and4 o n
                    rw [flag_one hb] at ha
                    have hq := at_len HI.out 0 (by omega) hb
                    have HL : Hid ((bs n 1).length = (bs n 0).length + 1) := bs_succ_len n 0 hb
                    obtain ⟨P, HP⟩ : ∃ P, Hid (p + 1 + (bs o 4).length + (bs n 0).length = P) := ⟨_, rfl⟩
                    rw [HP.out] at hq
                    rw [HP.out]
                    have g1 := HcT.out P hq.1
                    have e1 : T.getD P 0 = byteK n 0 := by simp [List.getD, hq.2]
                    rw [e1] at g1
                    have hP : (P : Int) < (T.length : Int) := by have := hq.1; omega
                    have hbz : (byteK n 0 == 0) = false := by simpa using hb
                    have hbd1 := (byteK_bd n 0).1
                    have hbd2 := (byteK_bd n 0).2
                    have hor : bits .or .i64 y (byteK n 0) = n % 256 := by have := or64_0 n y hx; simpa using this
                    clear hq e1 hx hb Hx'
                    go_wp2_with fail
                    go_roundg (2 - 1)
                    case measure => omega
                    case rel => exact ⟨rfl, 1, _, by omega, rfl, by go_num, by rw [HL.out, ← Nat.add_assoc, HP.out]; go_num, rfl, rfl⟩
                · have hx : y = n % 256 := Hx.out
                  have Hx' := Hx
                  clear Hx
                  by_cases hb : byteK n 1 = 0
                  · have ha := op_and5 o n
                    rw [flag_zero hb] at ha
                    have HX : Hid (y = n % 256 ^ 2) := acc_zero1 n y hx hb
                    have HL : Hid ((bs n 2).length = (bs n 1).length) := bs_same_len n 1 hb
                    clear hx hb Hx'
                    go_wp2_with fail
                    go_roundg (2 - 2)
                    case measure => omega
                    case rel => exact ⟨rfl, 2, y, by omega, rfl, by go_num, by rw [HL.out], rfl, HX⟩
                  · have ha := op_and5 o n
                    rw [flag_one hb] at ha
                    have hq := at_len HI.out 1 (by omega) hb
                    have HL : Hid ((bs n 2).length = (bs n 1).length + 1) := bs_succ_len n 1 hb
                    obtain ⟨P, HP⟩ : ∃ P, Hid (p + 1 + (bs o 4).length + (bs n 1).length = P) := ⟨_, rfl⟩
                    rw [HP.out] at hq
                    rw [HP.out]
                    have g1 := HcT.out P hq.1
                    have e1 : T.getD P 0 = byteK n 1 := by simp [List.getD, hq.2]
                    rw [e1] at g1
                    have hP : (P : Int) < (T.length : Int) := by have := hq.1; omega
                    have hbz : (byteK n 1 == 0) = false := by simpa using hb
                    have hbd1 := (byteK_bd n 1).1
                    have hbd2 := (byteK_bd n 1).2
                    have hor : bits .or .i64 y (byteK n 1 * 256) = n % 65536 := by have := or64_1 n y hx; simpa using this
                    clear hq e1 hx hb Hx'
                    go_wp2_with fail
                    go_roundg (2 - 2)
                    case measure => omega
                    case rel => exact ⟨rfl, 2, _, by omega, rfl, by go_num, by rw [HL.out, ← Nat.add_assoc, HP.out]; go_num, rfl, rfl⟩
                · have hx : y = n % 65536 := Hx.out
                  have hnm := Hn.out
                  have Hdrop : Hid (T.drop (p + 1 + (bs o 4).length + (bs n 2).length) = enc gk (o + n) (s - n)) := drop_instr HI.out
                  have HpT : Hid (p + 1 + (bs o 4).length + (bs n 2).length ≤ T.length) := by
                    have e := congrArg List.length HI.out
                    simp only [List.length_drop, List.length_append, instr, List.length_cons] at e
                    show _ ≤ _
                    omega
                  obtain ⟨P, HP⟩ : ∃ P, Hid (p + 1 + (bs o 4).length + (bs n 2).length = P) := ⟨_, rfl⟩
                  rw [HP.out] at Hdrop HpT
                  rw [HP.out]
                  obtain rfl := HX4.out
                  clear Hx HX4
                  rcases (show (65536 < s ∧ y = 0 ∧ n = 65536) ∨ (s = 65536 ∧ y = 0 ∧ n = 65536) ∨ (s < 65536 ∧ y = s ∧ n = s ∧ 0 < y) by omega) with ⟨hs2, rfl, hn⟩ | ⟨hs2, rfl, hn⟩ | ⟨hs2, rfl, hn, hy⟩
                  · have HN : Hid (n = 65536) := hn
                    clear hx hnm hn
                    go_wp2_with fail
                    go_roundg gk
                    case measure => omega
                    case rel => exact ⟨P, q, o + n, s - n, rfl, by rw [HN.out]; go_num, by rw [HN.out], rfl, by rw [HN.out]; omega, by rw [HN.out]; omega, HpT.out, Hdrop⟩
                  · have HN : Hid (n = 65536) := hn
                    have HS : Hid (s = 65536) := hs2
                    have hs3 : s ≤ 65536 := by omega
                    have hs4 : (65536 != s) = false := by rw [hs2]; rfl
                    clear hx hnm hn hs2
                    go_wp2_with fail
                    go_roundg gk
                    case measure => omega
                    case rel => exact ⟨P, q, o + n, s - n, rfl, by rw [HN.out]; have := HS.out; go_num, by rw [HN.out]; have := HS.out; go_num, rfl, by rw [HN.out]; have := HS.out; omega, by rw [HN.out]; have := HS.out; omega, HpT.out, Hdrop⟩
                  · have HN : Hid (n = y) := hn
                    have hs3 : y ≤ 65536 := by omega
                    have hs4 : (y != y) = false := by simp
                    have hs5 : (y == 0) = false := by simp; omega
                    clear hx hnm hn
                    go_wp2_with fail
                    go_roundg gk
                    case measure => omega
                    case rel => exact ⟨P, q, o + n, y - n, rfl, by rw [HN.out]; go_num, by rw [HN.out]; go_num, rfl, by rw [HN.out]; omega, by rw [HN.out]; omega, HpT.out, Hdrop⟩
        · have hnil : enc gk o s = [] := enc_nil _ _ _ (by omega)
          have hpe : p = T.length := by
            have := HE.out
            rw [hnil, List.drop_eq_nil_iff] at this
            omega
          subst hpe
          clear hnil HE
          go_wp2
          go_ret
          exact ⟨rfl, below_drewN hBB _⟩

set_option maxRecDepth 100000 in
theorem decode_out (a : Option Addr) (n c : Nat) (off size : Int) (w : World) (h : 1048576 < n ∨ (n ≤ 1048576 ∧ 1073741824 < size)) :
    Calls Try.prog 3 #[.slice a n c, .int .i64 off, .int .i64 size] w fun e w' => e = .returned (.bool true) ∧ Below w.heap.size w w' := by
  rcases h with hn | ⟨hn, hs⟩
  · go_enter Try.func3, Try.ntmps3
    go_wp2_with fail
    refine (bytes8_no _ _ _ _ _ _ hn).mono ?_
    rintro e w' ⟨rfl, rfl⟩
    go_wp2
    go_ret
    exact ⟨rfl, Below.refl _ _⟩
  · go_enter Try.func3, Try.ntmps3
    go_wp2_with fail
    refine (bytes8 _ _ _ _ _ _ hn).mono ?_
    rintro e w' ⟨rfl, rfl⟩
    go_wp2
    go_ret
    exact ⟨rfl, Below.refl _ _⟩

theorem decodeLaw (a : Option Addr) (n c : Nat) (zs : List Int) (off size : Int) (w : World) (h : IsRow .u8 w a n c zs) (ho : -9223372036854775808 ≤ off) (ho2 : off ≤ 9223372036854775807) :
    Calls Try.prog 3 #[.slice a n c, .int .i64 off, .int .i64 size] w fun e w' => e = .returned (.bool true) ∧ Below w.heap.size w w' := by
  by_cases hn : n ≤ 1048576
  · by_cases hs : size ≤ 1073741824
    · exact decodeMain a n c zs off size w hn h hs ho ho2
    · exact decode_out a n c off size w (.inr ⟨hn, by omega⟩)
  · exact decode_out a n c off size w (.inl (by omega))
end Go.Proofs.Qxb6605554a
