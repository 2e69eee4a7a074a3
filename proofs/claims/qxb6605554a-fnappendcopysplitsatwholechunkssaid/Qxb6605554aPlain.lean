import Derived.WalkKit
set_option linter.unusedVariables false
set_option linter.unusedSimpArgs false
namespace Go.Proofs.Qxb6605554a
/-- The k-th byte of an integer. -/
def byteK (x : Int) : Nat → Int
  | 0 => x % 256
  | 1 => x / 256 % 256
  | 2 => x / 65536 % 256
  | 3 => x / 16777216 % 256
  | _ => 0
/-- The bytes, among the first k, that are not 0. -/
def bs (x : Int) : Nat → List Int
  | 0 => []
  | k + 1 => bs x k ++ (if byteK x k = 0 then [] else [byteK x k])
/-- The marks of those bytes. -/
def mk (x : Int) : Nat → Int
  | 0 => 0
  | k + 1 => mk x k + (if byteK x k = 0 then 0 else 2 ^ k)
def opOf (o n : Int) : Int := 128 + mk o 4 + 16 * mk n 2
def instr (o n : Int) : List Int := opOf o n :: (bs o 4 ++ bs n 2)
/-- The stream, by fuel. -/
def enc : Nat → Int → Int → List Int
  | 0, _, _ => []
  | f + 1, o, s => if s ≤ 0 then [] else instr o (min s 65536) ++ enc f (o + min s 65536) (s - min s 65536)

theorem bs_len (x : Int) : ∀ k, (bs x k).length ≤ k
  | 0 => by simp [bs]
  | k + 1 => by
    have := bs_len x k
    simp only [bs, List.length_append]
    split <;> simp <;> omega
theorem mk_bd (x : Int) : ∀ k, 0 ≤ mk x k ∧ mk x k < 2 ^ k
  | 0 => by simp [mk]
  | k + 1 => by
    have := mk_bd x k
    simp only [mk, Int.pow_succ]
    split <;> omega
theorem or_fin : ∀ j : Fin 6, ∀ x : Fin 256, x.val / 2 ^ j.val % 2 = 0 → bits .or .u8 (x.val : Int) (2 ^ j.val) = (x.val : Int) + 2 ^ j.val := by decide +kernel
theorem or_bit (j : Nat) (x : Int) (hj : j < 6) (h0 : 0 ≤ x) (h1 : x < 256) (hb : x / 2 ^ j % 2 = 0) : bits .or .u8 x (2 ^ j) = x + 2 ^ j := by
  obtain ⟨n, rfl⟩ := Int.eq_ofNat_of_zero_le h0
  have h2 : n / 2 ^ j % 2 = 0 := by
    have h3 : ((n / 2 ^ j % 2 : Nat) : Int) = 0 := by push_cast; exact hb
    omega
  exact or_fin ⟨j, hj⟩ ⟨n, by omega⟩ h2
theorem bs_zero0 {x : Int} (h : x % 256 = 0) : bs x 1 = bs x 0 := by simp [bs, byteK, h]
theorem mk_zero0 {x : Int} (h : x % 256 = 0) : mk x 1 = mk x 0 := by simp [mk, byteK, h]
theorem bs_one0 {x : Int} (h : ¬ x % 256 = 0) : bs x 1 = bs x 0 ++ [x % 256] := by simp [bs, byteK, h]
theorem mk_one0 {x : Int} (h : ¬ x % 256 = 0) : mk x 1 = mk x 0 + 1 := by simp [mk, byteK, h]
theorem mk_lt0 (x : Int) : 0 ≤ mk x 0 ∧ mk x 0 < 1 := mk_bd x 0
theorem or_mk0 (x : Int) (h : ¬ x % 256 = 0) : bits .or .u8 (128 + mk x 0) 1 = 128 + mk x 1 := by
  have hb := mk_lt0 x
  rw [mk_one0 h]
  have := or_bit 0 (128 + mk x 0) (by omega) (by omega) (by omega) (show (128 + mk x 0) / 1 % 2 = 0 by omega)
  have this' : bits .or .u8 (128 + mk x 0) 1 = 128 + mk x 0 + 1 := this
  rw [this']; omega
theorem bs_zero1 {x : Int} (h : x / 256 % 256 = 0) : bs x 2 = bs x 1 := by simp [bs, byteK, h]
theorem mk_zero1 {x : Int} (h : x / 256 % 256 = 0) : mk x 2 = mk x 1 := by simp [mk, byteK, h]
theorem bs_one1 {x : Int} (h : ¬ x / 256 % 256 = 0) : bs x 2 = bs x 1 ++ [x / 256 % 256] := by simp [bs, byteK, h]
theorem mk_one1 {x : Int} (h : ¬ x / 256 % 256 = 0) : mk x 2 = mk x 1 + 2 := by simp [mk, byteK, h]
theorem mk_lt1 (x : Int) : 0 ≤ mk x 1 ∧ mk x 1 < 2 := mk_bd x 1
theorem or_mk1 (x : Int) (h : ¬ x / 256 % 256 = 0) : bits .or .u8 (128 + mk x 1) 2 = 128 + mk x 2 := by
  have hb := mk_lt1 x
  rw [mk_one1 h]
  have := or_bit 1 (128 + mk x 1) (by omega) (by omega) (by omega) (show (128 + mk x 1) / 2 % 2 = 0 by omega)
  have this' : bits .or .u8 (128 + mk x 1) 2 = 128 + mk x 1 + 2 := this
  rw [this']; omega
theorem bs_zero2 {x : Int} (h : x / 65536 % 256 = 0) : bs x 3 = bs x 2 := by simp [bs, byteK, h]
theorem mk_zero2 {x : Int} (h : x / 65536 % 256 = 0) : mk x 3 = mk x 2 := by simp [mk, byteK, h]
theorem bs_one2 {x : Int} (h : ¬ x / 65536 % 256 = 0) : bs x 3 = bs x 2 ++ [x / 65536 % 256] := by simp [bs, byteK, h]
theorem mk_one2 {x : Int} (h : ¬ x / 65536 % 256 = 0) : mk x 3 = mk x 2 + 4 := by simp [mk, byteK, h]
theorem mk_lt2 (x : Int) : 0 ≤ mk x 2 ∧ mk x 2 < 4 := mk_bd x 2
theorem or_mk2 (x : Int) (h : ¬ x / 65536 % 256 = 0) : bits .or .u8 (128 + mk x 2) 4 = 128 + mk x 3 := by
  have hb := mk_lt2 x
  rw [mk_one2 h]
  have := or_bit 2 (128 + mk x 2) (by omega) (by omega) (by omega) (show (128 + mk x 2) / 4 % 2 = 0 by omega)
  have this' : bits .or .u8 (128 + mk x 2) 4 = 128 + mk x 2 + 4 := this
  rw [this']; omega
theorem bs_zero3 {x : Int} (h : x / 16777216 % 256 = 0) : bs x 4 = bs x 3 := by simp [bs, byteK, h]
theorem mk_zero3 {x : Int} (h : x / 16777216 % 256 = 0) : mk x 4 = mk x 3 := by simp [mk, byteK, h]
theorem bs_one3 {x : Int} (h : ¬ x / 16777216 % 256 = 0) : bs x 4 = bs x 3 ++ [x / 16777216 % 256] := by simp [bs, byteK, h]
theorem mk_one3 {x : Int} (h : ¬ x / 16777216 % 256 = 0) : mk x 4 = mk x 3 + 8 := by simp [mk, byteK, h]
theorem mk_lt3 (x : Int) : 0 ≤ mk x 3 ∧ mk x 3 < 8 := mk_bd x 3
theorem or_mk3 (x : Int) (h : ¬ x / 16777216 % 256 = 0) : bits .or .u8 (128 + mk x 3) 8 = 128 + mk x 4 := by
  have hb := mk_lt3 x
  rw [mk_one3 h]
  have := or_bit 3 (128 + mk x 3) (by omega) (by omega) (by omega) (show (128 + mk x 3) / 8 % 2 = 0 by omega)
  have this' : bits .or .u8 (128 + mk x 3) 8 = 128 + mk x 3 + 8 := this
  rw [this']; omega
theorem mk_lt4 (x : Int) : 0 ≤ mk x 4 ∧ mk x 4 < 16 := mk_bd x 4
theorem or_nk0 (x n : Int) (h : ¬ n % 256 = 0) : bits .or .u8 (128 + mk x 4 + 16 * mk n 0) 16 = 128 + mk x 4 + 16 * mk n 1 := by
  have hb := mk_lt4 x
  have hn := mk_lt0 n
  rw [mk_one0 h]
  have := or_bit 4 (128 + mk x 4 + 16 * mk n 0) (by omega) (by omega) (by omega) (show (128 + mk x 4 + 16 * mk n 0) / 16 % 2 = 0 by omega)
  have this' : bits .or .u8 (128 + mk x 4 + 16 * mk n 0) 16 = 128 + mk x 4 + 16 * mk n 0 + 16 := this
  rw [this']; omega
theorem or_nk1 (x n : Int) (h : ¬ n / 256 % 256 = 0) : bits .or .u8 (128 + mk x 4 + 16 * mk n 1) 32 = 128 + mk x 4 + 16 * mk n 2 := by
  have hb := mk_lt4 x
  have hn := mk_lt1 n
  rw [mk_one1 h]
  have := or_bit 5 (128 + mk x 4 + 16 * mk n 1) (by omega) (by omega) (by omega) (show (128 + mk x 4 + 16 * mk n 1) / 32 % 2 = 0 by omega)
  have this' : bits .or .u8 (128 + mk x 4 + 16 * mk n 1) 32 = 128 + mk x 4 + 16 * mk n 1 + 32 := this
  rw [this']; omega

theorem byteK_congr {x y : Int} (h : x % 4294967296 = y % 4294967296) : ∀ k, byteK x k = byteK y k
  | 0 => by simp only [byteK]; omega
  | 1 => by simp only [byteK]; omega
  | 2 => by simp only [byteK]; omega
  | 3 => by simp only [byteK]; omega
  | _ + 4 => rfl
theorem bs_congr {x y : Int} (h : x % 4294967296 = y % 4294967296) : ∀ k, bs x k = bs y k
  | 0 => rfl
  | k + 1 => by simp only [bs, bs_congr h k, byteK_congr h k]
theorem mk_congr {x y : Int} (h : x % 4294967296 = y % 4294967296) : ∀ k, mk x k = mk y k
  | 0 => rfl
  | k + 1 => by simp only [mk, mk_congr h k, byteK_congr h k]
theorem instr_congr {x y : Int} (h : x % 4294967296 = y % 4294967296) (n : Int) : instr x n = instr y n := by
  simp only [instr, opOf, bs_congr h, mk_congr h]
theorem enc_congr : ∀ (f : Nat) {x y : Int} (s : Int), x % 4294967296 = y % 4294967296 → enc f x s = enc f y s
  | 0, _, _, _, _ => rfl
  | f + 1, x, y, s, h => by
    simp only [enc]
    rw [instr_congr h, enc_congr f (s - min s 65536) (show (x + min s 65536) % 4294967296 = (y + min s 65536) % 4294967296 by omega)]
theorem enc_nil (f : Nat) (o s : Int) (h : s ≤ 0) : enc f o s = [] := by
  cases f with
  | zero => rfl
  | succ f => simp [enc, h]
theorem enc_step (f : Nat) (o s n : Int) (h : 0 < s) (hn : n = min s 65536) : enc (f + 1) o s = instr o n ++ enc f (o + n) (s - n) := by
  subst hn
  simp only [enc]
  rw [if_neg (by omega)]
theorem instr_len (o n : Int) : (instr o n).length ≤ 7 := by
  have h1 := bs_len o 4
  have h2 := bs_len n 2
  simp [instr]
  omega
end Go.Proofs.Qxb6605554a
