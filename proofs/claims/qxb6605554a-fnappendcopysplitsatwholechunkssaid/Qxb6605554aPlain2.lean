import Derived.Test.Qxb6605554aPlain
set_option linter.unusedVariables false
set_option linter.unusedSimpArgs false
namespace Go.Proofs.Qxb6605554a
/-- 1 where the k-th byte is there. -/
def flag (x : Int) (k : Nat) : Int := if byteK x k = 0 then 0 else 1
theorem flag_bd (x : Int) (k : Nat) : 0 ≤ flag x k ∧ flag x k ≤ 1 := by unfold flag; split <;> omega
theorem flag_zero {x : Int} {k : Nat} (h : byteK x k = 0) : flag x k = 0 := by simp [flag, h]
theorem flag_one {x : Int} {k : Nat} (h : ¬ byteK x k = 0) : flag x k = 1 := by simp [flag, h]
theorem mk_flags (x : Int) : mk x 4 = flag x 0 + 2 * flag x 1 + 4 * flag x 2 + 8 * flag x 3 := by
  simp only [mk, flag]
  repeat' split
  all_goals simp
theorem mk_flags2 (x : Int) : mk x 2 = flag x 0 + 2 * flag x 1 := by
  simp only [mk, flag]
  repeat' split
  all_goals simp
theorem opOf_flags (o n : Int) : opOf o n = 128 + flag o 0 + 2 * flag o 1 + 4 * flag o 2 + 8 * flag o 3 + 16 * flag n 0 + 32 * flag n 1 := by
  unfold opOf; rw [mk_flags, mk_flags2]; omega
theorem opOf_bd (o n : Int) : 128 ≤ opOf o n ∧ opOf o n ≤ 191 := by
  rw [opOf_flags]
  have := flag_bd o 0; have := flag_bd o 1; have := flag_bd o 2; have := flag_bd o 3; have := flag_bd n 0; have := flag_bd n 1
  omega
theorem and_fin : ∀ j : Fin 8, ∀ x : Fin 256, bits .and .u8 (x.val : Int) (2 ^ j.val) = ((x.val / 2 ^ j.val % 2 * 2 ^ j.val : Nat) : Int) := by decide +kernel
theorem and_bit (j : Nat) (x : Int) (hj : j < 8) (h0 : 0 ≤ x) (h1 : x < 256) : bits .and .u8 x (2 ^ j) = x / 2 ^ j % 2 * 2 ^ j := by
  obtain ⟨n, rfl⟩ := Int.eq_ofNat_of_zero_le h0
  have := and_fin ⟨j, hj⟩ ⟨n, by omega⟩
  simp only at this
  rw [this]
  push_cast
  rfl
theorem op_and7 (o n : Int) : bits .and .u8 (opOf o n) 128 = 128 := by
  have hb := opOf_bd o n
  have := and_bit 7 (opOf o n) (by omega) (by omega) (by omega)
  have h2 : bits .and .u8 (opOf o n) 128 = opOf o n / 128 % 2 * 128 := this
  rw [h2]; omega
theorem op_and6 (o n : Int) : bits .and .u8 (opOf o n) 64 = 0 := by
  have hb := opOf_bd o n
  have := and_bit 6 (opOf o n) (by omega) (by omega) (by omega)
  have h2 : bits .and .u8 (opOf o n) 64 = opOf o n / 64 % 2 * 64 := this
  rw [h2]; omega
theorem op_and0 (o n : Int) : bits .and .u8 (opOf o n) 1 = 1 * flag o 0 := by
  have hb := opOf_bd o n
  have hf := opOf_flags o n
  have := flag_bd o 0; have := flag_bd o 1; have := flag_bd o 2; have := flag_bd o 3; have := flag_bd n 0; have := flag_bd n 1
  have := and_bit 0 (opOf o n) (by omega) (by omega) (by omega)
  have h2 : bits .and .u8 (opOf o n) 1 = opOf o n / 1 % 2 * 1 := this
  rw [h2]; omega
theorem op_and1 (o n : Int) : bits .and .u8 (opOf o n) 2 = 2 * flag o 1 := by
  have hb := opOf_bd o n
  have hf := opOf_flags o n
  have := flag_bd o 0; have := flag_bd o 1; have := flag_bd o 2; have := flag_bd o 3; have := flag_bd n 0; have := flag_bd n 1
  have := and_bit 1 (opOf o n) (by omega) (by omega) (by omega)
  have h2 : bits .and .u8 (opOf o n) 2 = opOf o n / 2 % 2 * 2 := this
  rw [h2]; omega
theorem op_and2 (o n : Int) : bits .and .u8 (opOf o n) 4 = 4 * flag o 2 := by
  have hb := opOf_bd o n
  have hf := opOf_flags o n
  have := flag_bd o 0; have := flag_bd o 1; have := flag_bd o 2; have := flag_bd o 3; have := flag_bd n 0; have := flag_bd n 1
  have := and_bit 2 (opOf o n) (by omega) (by omega) (by omega)
  have h2 : bits .and .u8 (opOf o n) 4 = opOf o n / 4 % 2 * 4 := this
  rw [h2]; omega
theorem op_and3 (o n : Int) : bits .and .u8 (opOf o n) 8 = 8 * flag o 3 := by
  have hb := opOf_bd o n
  have hf := opOf_flags o n
  have := flag_bd o 0; have := flag_bd o 1; have := flag_bd o 2; have := flag_bd o 3; have := flag_bd n 0; have := flag_bd n 1
  have := and_bit 3 (opOf o n) (by omega) (by omega) (by omega)
  have h2 : bits .and .u8 (opOf o n) 8 = opOf o n / 8 % 2 * 8 := this
  rw [h2]; omega
theorem op_and4 (o n : Int) : bits .and .u8 (opOf o n) 16 = 16 * flag n 0 := by
  have hb := opOf_bd o n
  have hf := opOf_flags o n
  have := flag_bd o 0; have := flag_bd o 1; have := flag_bd o 2; have := flag_bd o 3; have := flag_bd n 0; have := flag_bd n 1
  have := and_bit 4 (opOf o n) (by omega) (by omega) (by omega)
  have h2 : bits .and .u8 (opOf o n) 16 = opOf o n / 16 % 2 * 16 := this
  rw [h2]; omega
theorem op_and5 (o n : Int) : bits .and .u8 (opOf o n) 32 = 32 * flag n 1 := by
  have hb := opOf_bd o n
  have hf := opOf_flags o n
  have := flag_bd o 0; have := flag_bd o 1; have := flag_bd o 2; have := flag_bd o 3; have := flag_bd n 0; have := flag_bd n 1
  have := and_bit 5 (opOf o n) (by omega) (by omega) (by omega)
  have h2 : bits .and .u8 (opOf o n) 32 = opOf o n / 32 % 2 * 32 := this
  rw [h2]; omega

theorem bs_le (x : Int) (k K : Nat) (h : k ≤ K) : (bs x k).length ≤ (bs x K).length := by
  induction K with
  | zero => have : k = 0 := by omega
            subst this; exact Nat.le_refl _
  | succ K ih =>
    by_cases e : k = K + 1
    · subst e; exact Nat.le_refl _
    · have := ih (by omega)
      simp only [bs, List.length_append]; omega
theorem bs_get (x : Int) (k : Nat) (hb : ¬ byteK x k = 0) : ∀ K, k < K → (bs x K)[(bs x k).length]? = some (byteK x k)
  | 0, h => absurd h (Nat.not_lt_zero _)
  | K + 1, h => by
    by_cases e : k = K
    · subst e
      simp [bs, hb]
    · have ih := bs_get x k hb K (by omega)
      have hlt : (bs x k).length < (bs x K).length := (List.getElem?_eq_some_iff.1 ih).1
      rw [bs, List.getElem?_append_left hlt]
      exact ih
theorem bs_lt (x : Int) (k K : Nat) (hb : ¬ byteK x k = 0) (h : k < K) : (bs x k).length < (bs x K).length := (List.getElem?_eq_some_iff.1 (bs_get x k hb K h)).1
theorem bs_succ_len (x : Int) (k : Nat) (hb : ¬ byteK x k = 0) : (bs x (k + 1)).length = (bs x k).length + 1 := by simp [bs, hb]
theorem bs_same_len (x : Int) (k : Nat) (hb : byteK x k = 0) : (bs x (k + 1)).length = (bs x k).length := by simp [bs, hb]

/-- What lies at place p in T, where T from p on is an instruction and the rest. -/
theorem at_op {T R : List Int} {p : Nat} {o n : Int} (h : T.drop p = instr o n ++ R) : p < T.length ∧ T[p]? = some (opOf o n) := by
  have h0 : (T.drop p)[0]? = some (opOf o n) := by rw [h]; simp [instr]
  rw [List.getElem?_drop, Nat.add_zero] at h0
  exact ⟨(List.getElem?_eq_some_iff.1 h0).1, h0⟩
theorem at_off {T R : List Int} {p : Nat} {o n : Int} (h : T.drop p = instr o n ++ R) (k : Nat) (hk : k < 4) (hb : ¬ byteK o k = 0) :
    p + 1 + (bs o k).length < T.length ∧ T[p + 1 + (bs o k).length]? = some (byteK o k) := by
  have hl := bs_lt o k 4 hb hk
  have h0 : (T.drop p)[1 + (bs o k).length]? = some (byteK o k) := by
    rw [h, instr, List.cons_append, Nat.add_comm, List.getElem?_cons_succ, List.append_assoc, List.getElem?_append_left hl]
    exact bs_get o k hb 4 hk
  rw [List.getElem?_drop, ← Nat.add_assoc] at h0
  exact ⟨(List.getElem?_eq_some_iff.1 h0).1, h0⟩
theorem at_len {T R : List Int} {p : Nat} {o n : Int} (h : T.drop p = instr o n ++ R) (k : Nat) (hk : k < 2) (hb : ¬ byteK n k = 0) :
    p + 1 + (bs o 4).length + (bs n k).length < T.length ∧ T[p + 1 + (bs o 4).length + (bs n k).length]? = some (byteK n k) := by
  have hl := bs_lt n k 2 hb hk
  have h0 : (T.drop p)[1 + (bs o 4).length + (bs n k).length]? = some (byteK n k) := by
    rw [h, instr, List.cons_append, show 1 + (bs o 4).length + (bs n k).length = ((bs o 4).length + (bs n k).length) + 1 by omega, List.getElem?_cons_succ, List.append_assoc, List.getElem?_append_right (by omega),
      Nat.add_sub_cancel_left, List.getElem?_append_left hl]
    exact bs_get n k hb 2 hk
  rw [List.getElem?_drop, ← Nat.add_assoc, ← Nat.add_assoc] at h0
  exact ⟨(List.getElem?_eq_some_iff.1 h0).1, h0⟩
theorem drop_instr {T R : List Int} {p : Nat} {o n : Int} (h : T.drop p = instr o n ++ R) : T.drop (p + 1 + (bs o 4).length + (bs n 2).length) = R := by
  rw [show p + 1 + (bs o 4).length + (bs n 2).length = p + (instr o n).length by simp [instr]; omega, ← List.drop_drop, h]
  simp
theorem enc_len : ∀ (f : Nat) (o s : Int), (enc f o s).length ≤ 7 * f
  | 0, _, _ => Nat.le_refl _
  | f + 1, o, s => by
    have h1 := enc_len f (o + min s 65536) (s - min s 65536)
    have h2 := instr_len o (min s 65536)
    simp only [enc]
    split
    · simp
    · rw [List.length_append]; omega
theorem ofInt_64 (a : Nat) (ha : a < 18446744073709551616) : (BitVec.ofInt 64 (a : Int)).toNat = a := by
  simp [BitVec.toNat_ofInt]; omega
theorem i64_or_nat (a b : Nat) (ha : a < 4611686018427387904) (hb : b < 4611686018427387904) : bits .or .i64 (a : Int) (b : Int) = ((a ||| b : Nat) : Int) := by
  have hor : a ||| b < 2 ^ 62 := Nat.or_lt_two_pow (by omega) (by omega)
  have h : bits .or .i64 (a : Int) (b : Int) = IntKind.i64.wrap (((BitVec.ofInt 64 (a : Int)) ||| (BitVec.ofInt 64 (b : Int))).toNat : Int) := rfl
  rw [h, BitVec.toNat_or, ofInt_64 a (by omega), ofInt_64 b (by omega)]
  simp [IntKind.wrap, IntKind.bits, IntKind.signed]
  omega
theorem or32_join (i : Nat) (x y : Int) (h0 : 0 ≤ x) (h1 : x < 2 ^ i) (h2 : 0 ≤ y) (h3 : y < 4294967296) (h4 : y % 2 ^ i = 0) (hi : i ≤ 32) : bits .or .u32 x y = x + y := by
  obtain ⟨a, rfl⟩ := Int.eq_ofNat_of_zero_le h0
  obtain ⟨b, rfl⟩ := Int.eq_ofNat_of_zero_le h2
  have h1' : a < 2 ^ i := by exact_mod_cast h1
  have h4' : b % 2 ^ i = 0 := by exact_mod_cast h4
  have h5 : (2:Nat) ^ i ≤ 2 ^ 32 := Nat.pow_le_pow_right (by omega) hi
  rw [u32_or_nat a b (by omega) (by omega), Nat.or_comm, nat_join i b a h4' h1']
  omega
theorem or64_join (i : Nat) (x y : Int) (h0 : 0 ≤ x) (h1 : x < 2 ^ i) (h2 : 0 ≤ y) (h3 : y < 4294967296) (h4 : y % 2 ^ i = 0) (hi : i ≤ 32) : bits .or .i64 x y = x + y := by
  obtain ⟨a, rfl⟩ := Int.eq_ofNat_of_zero_le h0
  obtain ⟨b, rfl⟩ := Int.eq_ofNat_of_zero_le h2
  have h1' : a < 2 ^ i := by exact_mod_cast h1
  have h4' : b % 2 ^ i = 0 := by exact_mod_cast h4
  have h5 : (2:Nat) ^ i ≤ 2 ^ 32 := Nat.pow_le_pow_right (by omega) hi
  rw [i64_or_nat a b (by omega) (by omega), Nat.or_comm, nat_join i b a h4' h1']
  omega
theorem byteK_bd (x : Int) (k : Nat) : 0 ≤ byteK x k ∧ byteK x k ≤ 255 := by
  match k with
  | 0 => simp only [byteK]; omega
  | 1 => simp only [byteK]; omega
  | 2 => simp only [byteK]; omega
  | 3 => simp only [byteK]; omega
  | _ + 4 => simp [byteK]
theorem or32_0 (o x : Int) (hx : x = o % 1) : bits .or .u32 x (byteK o 0 % 4294967296) = o % 256 := by
  have hb := byteK_bd o 0
  have e : byteK o 0 % 4294967296 = byteK o 0 * 1 := by omega
  rw [e, or32_join 0 x (byteK o 0 * 1) (by omega) (show x < 1 by omega) (by omega) (by omega) (show byteK o 0 * 1 % 1 = 0 by omega) (by omega)]
  simp only [byteK]
  omega
theorem acc_zero0 (o x : Int) (hx : x = o % 1) (h : byteK o 0 = 0) : x = o % 256 := by
  simp only [byteK] at h
  omega
theorem or32_1 (o x : Int) (hx : x = o % 256) : bits .or .u32 x (byteK o 1 % 4294967296 * 256 % 4294967296) = o % 65536 := by
  have hb := byteK_bd o 1
  have e : byteK o 1 % 4294967296 * 256 % 4294967296 = byteK o 1 * 256 := by omega
  rw [e, or32_join 8 x (byteK o 1 * 256) (by omega) (show x < 256 by omega) (by omega) (by omega) (show byteK o 1 * 256 % 256 = 0 by omega) (by omega)]
  simp only [byteK]
  omega
theorem acc_zero1 (o x : Int) (hx : x = o % 256) (h : byteK o 1 = 0) : x = o % 65536 := by
  simp only [byteK] at h
  omega
theorem or32_2 (o x : Int) (hx : x = o % 65536) : bits .or .u32 x (byteK o 2 % 4294967296 * 65536 % 4294967296) = o % 16777216 := by
  have hb := byteK_bd o 2
  have e : byteK o 2 % 4294967296 * 65536 % 4294967296 = byteK o 2 * 65536 := by omega
  rw [e, or32_join 16 x (byteK o 2 * 65536) (by omega) (show x < 65536 by omega) (by omega) (by omega) (show byteK o 2 * 65536 % 65536 = 0 by omega) (by omega)]
  simp only [byteK]
  omega
theorem acc_zero2 (o x : Int) (hx : x = o % 65536) (h : byteK o 2 = 0) : x = o % 16777216 := by
  simp only [byteK] at h
  omega
theorem or32_3 (o x : Int) (hx : x = o % 16777216) : bits .or .u32 x (byteK o 3 % 4294967296 * 16777216 % 4294967296) = o % 4294967296 := by
  have hb := byteK_bd o 3
  have e : byteK o 3 % 4294967296 * 16777216 % 4294967296 = byteK o 3 * 16777216 := by omega
  rw [e, or32_join 24 x (byteK o 3 * 16777216) (by omega) (show x < 16777216 by omega) (by omega) (by omega) (show byteK o 3 * 16777216 % 16777216 = 0 by omega) (by omega)]
  simp only [byteK]
  omega
theorem acc_zero3 (o x : Int) (hx : x = o % 16777216) (h : byteK o 3 = 0) : x = o % 4294967296 := by
  simp only [byteK] at h
  omega
theorem or64_0 (o x : Int) (hx : x = o % 1) : bits .or .i64 x (byteK o 0 * 1) = o % 256 := by
  have hb := byteK_bd o 0
  rw [or64_join 0 x (byteK o 0 * 1) (by omega) (show x < 1 by omega) (by omega) (by omega) (show byteK o 0 * 1 % 1 = 0 by omega) (by omega)]
  simp only [byteK]
  omega
theorem or64_1 (o x : Int) (hx : x = o % 256) : bits .or .i64 x (byteK o 1 * 256) = o % 65536 := by
  have hb := byteK_bd o 1
  rw [or64_join 8 x (byteK o 1 * 256) (by omega) (show x < 256 by omega) (by omega) (by omega) (show byteK o 1 * 256 % 256 = 0 by omega) (by omega)]
  simp only [byteK]
  omega
end Go.Proofs.Qxb6605554a
