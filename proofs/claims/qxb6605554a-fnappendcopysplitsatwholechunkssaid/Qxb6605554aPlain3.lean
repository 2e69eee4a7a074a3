import Derived.Test.Qxb6605554aPlain2
set_option linter.unusedVariables false
set_option linter.unusedSimpArgs false
namespace Go.Proofs.Qxb6605554a
/-- The stream of k whole chunks and s more. -/
theorem enc_split (f : Nat) (s : Int) (hs : 0 ≤ s) : ∀ (k : Nat) (o : Int), enc (k + f) o (65536 * k + s) = enc k o (65536 * k) ++ enc f (o + 65536 * k) s
  | 0, o => by simp [enc]
  | k + 1, o => by
    have ih := enc_split f s hs k (o + 65536)
    rw [show k + 1 + f = (k + f) + 1 by omega, enc_step (k + f) o _ 65536 (by omega) (by omega), enc_step k o _ 65536 (by omega) (by omega)]
    rw [show (65536 * ((k + 1 : Nat) : Int) + s - 65536) = 65536 * (k : Int) + s by omega, show (65536 * ((k + 1 : Nat) : Int) - 65536) = 65536 * (k : Int) by omega, ih,
      show o + 65536 + 65536 * (k : Int) = o + 65536 * ((k + 1 : Nat) : Int) by omega, List.append_assoc]
theorem enc_pos (f : Nat) (o s : Int) (hs : 0 < s) (hf : s ≤ 65536 * f) : 0 < (enc f o s).length := by
  cases f with
  | zero => omega
  | succ f =>
    rw [enc_step f o s _ hs rfl]
    simp [instr]
theorem bs4_len (x : Int) : ((bs x 4).length : Int) = flag x 0 + flag x 1 + flag x 2 + flag x 3 := by
  simp only [bs, flag]
  repeat' split
  all_goals simp
theorem bs2_len (x : Int) : ((bs x 2).length : Int) = flag x 0 + flag x 1 := by
  simp only [bs, flag]
  repeat' split
  all_goals simp
/-- The running sums of the flags. -/
def pf (o n : Int) : Nat → Int
  | 0 => 0
  | 1 => flag o 0
  | 2 => flag o 0 + flag o 1
  | 3 => flag o 0 + flag o 1 + flag o 2
  | 4 => flag o 0 + flag o 1 + flag o 2 + flag o 3
  | 5 => flag o 0 + flag o 1 + flag o 2 + flag o 3 + flag n 0
  | _ => flag o 0 + flag o 1 + flag o 2 + flag o 3 + flag n 0 + flag n 1
theorem pf_bd (o n : Int) (j : Nat) : 0 ≤ pf o n j ∧ pf o n j ≤ 6 := by
  have := flag_bd o 0; have := flag_bd o 1; have := flag_bd o 2; have := flag_bd o 3; have := flag_bd n 0; have := flag_bd n 1
  unfold pf
  split <;> omega
theorem pf_six (o n : Int) : pf o n 6 = (((bs o 4).length + (bs n 2).length : Nat) : Int) := by
  rw [Int.natCast_add, bs4_len, bs2_len]
  simp only [pf]
  omega
end Go.Proofs.Qxb6605554a
