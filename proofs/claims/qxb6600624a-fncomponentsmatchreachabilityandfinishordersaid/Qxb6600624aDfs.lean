import Derived.Test.Qxb6600624aSuccOf
import Derived.Test.Qxb6600624aKeep8
import Derived.Deep.QuietTactic
import Derived.BigQuiet
set_option linter.unusedVariables false
set_option linter.unusedSimpArgs false
namespace Go.Proofs.Qxb6600624a
open Go.RowKit

/-- How many nodes have no number yet. -/
def unv (n : Nat) (d : DS) : Nat := sumTo n (fun x => if d.pre x = 0 then 1 else 0)
theorem unv_visit {n v : Nat} {d : DS} (hv : v < n) (h0 : d.pre v = 0) : unv n (d.visit v) + 1 = unv n d := by
  have hc := sumTo_change (f := fun y => if d.pre y = 0 then 1 else 0) (g := fun y => if (d.visit v).pre y = 0 then 1 else 0) (v := v) n hv (fun i hi' => by
    have : (d.visit v).pre i = d.pre i := upd_other _ _ hi'
    simp only [this])
  have e1 : (d.visit v).pre v = d.a + 1 := upd_same _ _ _
  simp only [e1, h0] at hc
  simp at hc
  unfold unv
  omega
/-- Only two blocks have changed. -/
structure Two (P Q : Nat) (w w' : World) : Prop where
  os : w'.os = w.os
  tape : w'.tape = w.tape
  output : w'.output = w.output
  size : w'.heap.size = w.heap.size
  block : ∀ k, k ≠ P → k ≠ Q → w'.heap[k]? = w.heap[k]?
theorem Two.refl (P Q : Nat) (w : World) : Two P Q w w := ⟨rfl, rfl, rfl, rfl, fun _ _ _ => rfl⟩
theorem Two.trans {P Q : Nat} {w w' w'' : World} (h : Two P Q w w') (h' : Two P Q w' w'') : Two P Q w w'' := ⟨h'.os.trans h.os, h'.tape.trans h.tape, h'.output.trans h.output, h'.size.trans h.size, fun k h1 h2 => (h'.block k h1 h2).trans (h.block k h1 h2)⟩
theorem Two.set {P Q : Nat} {w w' : World} (h : Two P Q w w') (b i : Nat) (v : Value) (hb : b = P ∨ b = Q) : Two P Q w (w'.setCell ⟨b, i, none⟩ v) :=
  h.trans ⟨rfl, rfl, rfl, Go.Deep.nblk_setCell _ _ _, fun k h1 h2 => Go.Deep.blk_setCell_other _ _ _ _ (by show k ≠ b; rcases hb with rfl | rfl <;> assumption)⟩
theorem Two.drewN {P Q : Nat} {w w' : World} (h : Two P Q w w') (n : Nat) : Two P Q w (w'.drewN n) := h.trans ⟨rfl, rfl, rfl, rfl, fun _ _ _ => rfl⟩
theorem Two.cell {P Q : Nat} {w w' : World} (h : Two P Q w w') {a : Addr} (h1 : a.block ≠ P) (h2 : a.block ≠ Q) : w'.cell? a = w.cell? a := World.cell?_of_block (h.block _ h1 h2)
theorem Two.below {P Q B : Nat} {w w' : World} (h : Two P Q w w') (h1 : B ≤ P) (h2 : B ≤ Q) : Below B w w' := ⟨h.os, h.tape, h.output, Nat.le_of_eq h.size.symm, fun k hk => h.block k (by omega) (by omega)⟩

set_option maxHeartbeats 2000000 in
theorem dfs_any (adj : Nat → List Nat) (n c : Nat) (sb so : Nat) (A : Nat → Option Addr) (C RB RO : Nat → Nat) (P Q : Nat) (hn : n ≤ 131072) (hPQ : P ≠ Q) (hsP : sb ≠ P) (hsQ : sb ≠ Q) (hrP : ∀ i, i < n → 0 < (adj i).length → RB i ≠ P) (hrQ : ∀ i, i < n → 0 < (adj i).length → RB i ≠ Q) :
    ∀ (m v : Nat) (d : DS) (w : World), unv n d ≤ m → v < n → d.pre v = 0 → d.a + unv n d = n → d.b ≤ d.a → Succ w n adj sb so A C RB RO →
      w.rowIs P 3 n (fun i => .int .i64 (d.pre i : Int)) → w.rowIs Q 3 n (fun i => .int .i64 (d.post i : Int)) →
    Calls Try.prog 22 #[.slice (some ⟨sb, so, none⟩) n c, .int .i64 (v : Int), .slice (some ⟨P, 0, none⟩) n n, .slice (some ⟨Q, 0, none⟩) n n, .int .i64 (d.a : Int), .int .i64 (d.b : Int)] w fun e w' =>
      ∃ d' : DS, e = .returned (.tuple #[.int .i64 (d'.a : Int), .int .i64 (d'.b : Int)]) ∧ Two P Q w w' ∧ w'.rowIs P 3 n (fun i => .int .i64 (d'.pre i : Int)) ∧ w'.rowIs Q 3 n (fun i => .int .i64 (d'.post i : Int)) ∧
        d'.a + unv n d' = n ∧ d'.b + d.a = d'.a + d.b ∧ d.a < d'.a ∧ ∃ k, ∀ fs, runs adj k (d.visit v, (v, 0) :: fs) = (d', fs) := by
  intro m
  induction m with
  | zero =>
    intro v d w hm hv h0
    have := unv_visit hv h0
    omega
  | succ m ih =>
    intro v d w hm hv h0 ha hb hS hP hQ
    have hu := unv_visit hv h0
    have g1 := hP.cell hv
    have g2 := hP.frozen v
    have hvz : (v : Int) < (n : Int) := by omega
    have haz : (d.a : Int) < n := by omega
    go_enter Try.func22, Try.ntmps22
    go_wp2_with fail
    have hS1 : ∀ w', Two P Q w w' → Succ w' n adj sb so A C RB RO := fun w' ht =>
      ⟨fun i hi => by rw [ht.cell (a := ⟨sb, so + i, none⟩) hsP hsQ]; exact hS.row i hi, fun i hi j hj => ⟨(hS.cell i hi j hj).1, by rw [ht.cell (a := ⟨RB i, RO i + j, none⟩) (hrP i hi (by omega)) (hrQ i hi (by omega))]; exact (hS.cell i hi j hj).2⟩, hS.lt, hS.len⟩
    have HSu : Hid (∀ w', Two P Q w w' → Succ w' n adj sb so A C RB RO) := hS1
    have hlen := hS.len v hv
    have HT1 : Hid (Two P Q w (w.setCell ⟨P, v, none⟩ (.int .i64 (((d.a + 1 : Nat)) : Int)))) := (Two.refl P Q w).set P v _ (.inl rfl)
    have HP1 : Hid ((w.setCell ⟨P, v, none⟩ (.int .i64 (((d.a + 1 : Nat)) : Int))).rowIs P 3 n (fun i => .int .i64 ((d.visit v).pre i : Int))) := (hP.set v _).congr fun i _ => by
      by_cases e : i = v
      · subst e; simp [DS.visit, upd]
      · simp [DS.visit, upd, e]
    have HQ1 : Hid ((w.setCell ⟨P, v, none⟩ (.int .i64 (((d.a + 1 : Nat)) : Int))).rowIs Q 3 n (fun i => .int .i64 ((d.visit v).post i : Int))) := hQ.setOther (by show Q ≠ P; exact fun e => hPQ e.symm) _
    clear hS1 hS hP hQ
    go_loopg [4, 5, 14] (adj v).length (fun g s4 s5 s14 wr => ∃ (j : Nat) (dj : DS), j ≤ (adj v).length ∧ g = (adj v).length - j ∧ s14 = .int .i64 (j : Int) ∧ s4 = .int .i64 (dj.a : Int) ∧ s5 = .int .i64 (dj.b : Int) ∧ Two P Q w wr ∧
      wr.rowIs P 3 n (fun i => .int .i64 (dj.pre i : Int)) ∧ wr.rowIs Q 3 n (fun i => .int .i64 (dj.post i : Int)) ∧ dj.a + unv n dj = n ∧ dj.b + d.a + 1 = dj.a + d.b ∧ d.a < dj.a ∧ Hid (∃ k, ∀ fs, runs adj k (d.visit v, (v, 0) :: fs) = (dj, (v, j) :: fs)))
    case atStart =>
      refine ⟨0, d.visit v, by omega, rfl, rfl, by show _ = Value.int .i64 ((d.a + 1 : Nat) : Int); go_num, rfl, HT1.out, HP1.out, HQ1.out, ?_, ?_, ?_, ⟨0, fun fs => rfl⟩⟩
      · show d.a + 1 + _ = n; omega
      · show d.b + d.a + 1 = d.a + 1 + d.b; omega
      · show d.a < d.a + 1; omega
    case round =>
      clear HT1 HP1 HQ1
      obtain ⟨j, dj, hj, rfl, rfl, rfl, rfl, hT, hP, hQ, hja, hjb, hjd, HK⟩ := hrel
      have hS := HSu.out _ hT
      have g1 := hS.row v hv
      by_cases hlt : j < (adj v).length
      · have hjz : (j : Int) < ((adj v).length : Int) := by omega
        obtain ⟨e1, g2⟩ := hS.cell v hv j hlt
        rw [e1] at g1
        have hget : (adj v)[j]? = some ((adj v).getD j 0) := by rw [List.getD_eq_getElem?_getD, List.getElem?_eq_getElem hlt]; rfl
        have hxn := hS.lt v hv _ (adj_getElem_mem hget)
        generalize (adj v).getD j 0 = x at g2 hget hxn
        have Hget : Hid ((adj v)[j]? = some x) := hget
        have hxz : (x : Int) < (n : Int) := by omega
        have g3 := hP.cell hxn
        clear e1 hget
        by_cases hx0 : dj.pre x = 0
        · have Hx0 : Hid (dj.pre x = 0) := hx0
          rw [hx0] at g3
          clear hx0
          go_wp2_with fail
          refine (ih x dj _ (by omega) hxn Hx0.out hja (by omega) hS hP hQ).mono ?_
          rintro e w' ⟨d', rfl, hT', hP', hQ', ha', hb', hd', HK'⟩
          have HK2 : Hid (∃ k, ∀ fs, runs adj k (d.visit v, (v, 0) :: fs) = (d', (v, j + 1) :: fs)) := by
            obtain ⟨k, hk⟩ := HK.out
            obtain ⟨k', hk'⟩ := HK'
            refine ⟨k + (k' + 1), fun fs => ?_⟩
            rw [runs_add, hk]
            show runs adj k' (mstep adj (dj, (v, j) :: fs)) = _
            simp only [mstep, Hget.out]
            rw [if_pos Hx0.out]
            exact hk' _
          clear HK HK'
          go_wp2_with fail
          go_roundg ((adj v).length - (j + 1))
          case measure => omega
          case rel => exact ⟨j + 1, d', by omega, rfl, by go_num, rfl, rfl, hT.trans hT', hP', hQ', ha', by omega, by omega, HK2⟩
        · have hxz0 : ((dj.pre x : Int) == 0) = false := by rw [beq_eq_false_iff_ne]; omega
          have HK2 : Hid (∃ k, ∀ fs, runs adj k (d.visit v, (v, 0) :: fs) = (dj, (v, j + 1) :: fs)) := by
            obtain ⟨k, hk⟩ := HK.out
            refine ⟨k + 1, fun fs => ?_⟩
            rw [runs_succ, hk]
            simp only [mstep, Hget.out]
            rw [if_neg hx0]
          clear HK
          go_wp2_with fail
          go_roundg ((adj v).length - (j + 1))
          case measure => omega
          case rel => exact ⟨j + 1, dj, by omega, rfl, by go_num, rfl, rfl, hT, hP, hQ, hja, hjb, hjd, HK2⟩
      · obtain rfl : j = (adj v).length := by omega
        have g4 := hQ.cell hv
        have g5 := hQ.frozen v
        have HF : Hid (∃ k, ∀ fs, runs adj k (d.visit v, (v, 0) :: fs) = (dj.fin v, fs)) := by
          obtain ⟨k, hk⟩ := HK.out
          refine ⟨k + 1, fun fs => ?_⟩
          rw [runs_succ, hk]
          have : (adj v)[(adj v).length]? = none := by simp
          simp only [mstep, this]
        clear HK
        go_wp2_with fail
        go_ret2
        refine ⟨dj.fin v, ?_, hT.set Q v _ (.inr rfl), hP.setOther hPQ _, (hQ.set v _).congr fun i _ => ?_, hja, ?_, hjd, HF.out⟩
        · simp [DS.fin]
        · by_cases e : i = v
          · subst e; simp [DS.fin, upd]
          · simp [DS.fin, upd, e]
        · show dj.b + 1 + d.a = dj.a + d.b; omega
end Go.Proofs.Qxb6600624a
