import Derived.Test.Qxb6600624aPred
import Derived.Test.Qxb6600624aLabels
import Derived.Deep.QuietTactic
import Derived.BigQuiet
set_option linter.unusedVariables false
set_option linter.unusedSimpArgs false
namespace Go.Proofs.Qxb6600624a
open Go.RowKit

structure LM (LB n : Nat) (wA wr : World) (lab : Nat → Int) (s1 s2 : Nat → Bool) : Prop where
  below : Below LB wA wr
  size : LB + 3 ≤ wr.heap.size
  lab : wr.rowIs LB 3 n (fun i => .int .i64 (lab i))
  fwd : wr.rowIs (LB + 1) 4 n (fun i => .bool (s1 i))
  bwd : wr.rowIs (LB + 2) 4 n (fun i => .bool (s2 i))
section
variable {LB n : Nat} {wA wr w1 : World} {lab : Nat → Int} {s1 s2 : Nat → Bool}
theorem below_one {S B : Nat} (h : Below B wA wr) (ho : One S wr w1) (hB : B ≤ wr.heap.size) (hS : B ≤ S) : Below B wA w1 :=
  ⟨ho.os.trans h.os, ho.tape.trans h.tape, ho.output.trans h.output, Nat.le_trans h.size ho.size, fun k hk => (ho.block k (by omega) (by omega)).trans (h.block k hk)⟩
theorem LM.newFwd (h : LM LB n wA wr lab s1 s2) (ho : One (LB + 1) wr w1) {s : Nat → Bool} (hr : w1.rowIs (LB + 1) 4 n (fun i => .bool (s i))) : LM LB n wA w1 lab s s2 := by
  have hz := h.size
  exact ⟨below_one h.below ho (by omega) (by omega), by have := ho.size; omega, h.lab.of_block (ho.block _ (by omega) (by omega)), hr, h.bwd.of_block (ho.block _ (by omega) (by omega))⟩
theorem LM.newBwd (h : LM LB n wA wr lab s1 s2) (ho : One (LB + 2) wr w1) {s : Nat → Bool} (hr : w1.rowIs (LB + 2) 4 n (fun i => .bool (s i))) : LM LB n wA w1 lab s1 s := by
  have hz := h.size
  exact ⟨below_one h.below ho (by omega) (by omega), by have := ho.size; omega, h.lab.of_block (ho.block _ (by omega) (by omega)), h.fwd.of_block (ho.block _ (by omega) (by omega)), hr⟩
theorem LM.setLab (h : LM LB n wA wr lab s1 s2) (b : Nat) (z : Int) {lab' : Nat → Int} (e : ∀ i, i < n → (if i = b then z else lab i) = lab' i) : LM LB n wA (wr.setCell ⟨LB, b, none⟩ (.int .i64 z)) lab' s1 s2 :=
  ⟨h.below.setCell (Nat.le_refl _) _, by rw [Go.Deep.nblk_setCell]; exact h.size, (h.lab.set b _).congr (fun i hi => by rw [← e i hi]; split <;> rfl), h.fwd.setOther (by show LB + 1 ≠ LB; omega) _, h.bwd.setOther (by show LB + 2 ≠ LB; omega) _⟩
end

theorem rcount_succ (f R post : Nat → Nat) (p x : Nat) : rcount f R post p (x + 1) = rcount f R post p x + (if R (f x) = x ∧ post x < p then 1 else 0) := rfl
theorem rcount_le (f R post : Nat → Nat) (p : Nat) : ∀ x, rcount f R post p x ≤ x
  | 0 => Nat.le_refl _
  | x + 1 => by
    have := rcount_le f R post p x
    rw [rcount_succ]
    split <;> omega

structure DM (PB n : Nat) (wC wr : World) (d : DS) : Prop where
  below : Below PB wC wr
  size : PB + 2 ≤ wr.heap.size
  pre : wr.rowIs PB 3 n (fun i => .int .i64 (d.pre i : Int))
  post : wr.rowIs (PB + 1) 3 n (fun i => .int .i64 (d.post i : Int))

set_option maxHeartbeats 40000000 in
set_option maxRecDepth 100000 in
theorem model_any (adj : Nat → List Nat) (n c : Nat) (a : Option Addr) (sb so : Nat) (A : Nat → Option Addr) (C RB RO : Nat → Nat) (f : Nat → Nat) (d0 : DS) (w : World) (hn : n ≤ 4096) (ha : 0 < n → a = some ⟨sb, so, none⟩) (hS : Succ w n adj sb so A C RB RO) (hF : Fin8 adj n f d0) :
    Calls Try.prog 12 #[.slice a n c] w fun e w' => ∃ B, e = .returned (.slice (some ⟨B, 0, none⟩) n n) ∧ Below w.heap.size w w' ∧ w'.rowIs B 3 n (fun i => .int .i64 (f i : Int)) := by
  have hmk22 := run_make_row' (P := Try.prog) 22 27 (.slice none 0 0) 24 Try.underlying22 Try.info27 rfl .i64 .i64 n (by omega) (by omega)
  have hmk27 := run_make_row' (P := Try.prog) 27 3 (.int .i64 0) 8 Try.underlying27 Try.info3 rfl .i64 .i64 n (by omega) (by omega)
  have hmk29 := run_make_row' (P := Try.prog) 29 4 (.bool false) 1 Try.underlying29 Try.info4 rfl .i64 .i64 n (by omega) (by omega)
  obtain ⟨i3, hi3, hz0, hz1, hz2⟩ := info_parts Try.info3
  have hPM0 := PM.start w n
  have HSB : Hid (∀ w', Below w.heap.size w w' → Succ w' n adj sb so A C RB RO) := fun w' hb => hS.later hb
  have hadj := hS.lt
  clear hS
  go_enter Try.func12, Try.ntmps12
  go_wp2_with fail
  obtain ⟨H, HH⟩ : ∃ H, Hid (H = w.heap.size) := ⟨_, rfl⟩
  have hHH := HH.out.symm
  rw [hHH] at hPM0 HSB ⊢
  clear hHH
  go_loopg [5] n (fun g s5 wr => ∃ (x : Nat) (P : Nat → List Nat) (V : Nat → Value), x ≤ n ∧ g = n - x ∧ s5 = .int .i64 (x : Int) ∧ Hid (PM H n w wr P V) ∧ Hid (Bk adj 131072 x 0 P))
  case atStart => exact ⟨0, _, _, by omega, rfl, rfl, hPM0, Bk.start adj 131072⟩
  case round =>
    clear hPM0
    obtain ⟨x, P, V, hxn, rfl, rfl, HM, HB⟩ := hrel
    by_cases hlt : x < n
    · obtain rfl := ha (by omega)
      have hxz : (x : Int) < (n : Int) := by omega
      have hlen := (HSB.out _ HM.out.below).len x hlt
      clear hmk22 hmk27 hmk29
      go_wp2_with fail
      go_loopg [6] (adj x).length (fun g s6 wr => ∃ (j : Nat) (P : Nat → List Nat) (V : Nat → Value), j ≤ (adj x).length ∧ g = (adj x).length - j ∧ s6 = .int .i64 (j : Int) ∧ Hid (PM H n w wr P V) ∧ Hid (Bk adj 131072 x j P))
      case atStart => exact ⟨0, P, V, by omega, rfl, rfl, HM, HB⟩
      case round =>
        clear HM HB
        obtain ⟨j, P, V, hj, rfl, rfl, HM, HB⟩ := hrel
        have hS := HSB.out _ HM.out.below
        have g1 := hS.row x hlt
        by_cases hlt2 : j < (adj x).length
        · have hjz : (j : Int) < ((adj x).length : Int) := by omega
          obtain ⟨e1, g2⟩ := hS.cell x hlt j hlt2
          rw [e1] at g1
          have hget : (adj x)[j]? = some ((adj x).getD j 0) := by rw [List.getD_eq_getElem?_getD, List.getElem?_eq_getElem hlt2]; rfl
          have hbn := hadj x hlt _ (adj_getElem_mem hget)
          generalize (adj x).getD j 0 = b at g2 hget hbn
          have Hget : Hid ((adj x)[j]? = some b) := hget
          have hbz : (b : Int) < (n : Int) := by omega
          have g3 := HM.out.top.cell hbn
          have hlb : (P b).length ≤ x * 131072 + j := HB.out.len b
          have hlb2 : (P b).length ≤ 1073741824 := by
            have : x * 131072 ≤ 4096 * 131072 := Nat.mul_le_mul_right _ (by omega)
            omega
          clear hlb e1 hget
          have ho' := HM.out.rows b hbn
          have hHs := HM.out.top.lt
          have HB2 : Hid (Bk adj 131072 x (j + 1) (upd P b (P b ++ [x]))) := HB.out.push Hget.out
          clear HB
          go_wp2_with (at_builtin; refine wpList_append_lies _ rfl _ _ _ rfl (H + 1) 3 i3 (.int .i64 0) 1 8 Try.underlying27 hi3 hz0 hz1 hz2 rfl (by decide) _ _ _ rfl (ho'.alloc _) ⟨wr.heap.size, 0, none⟩ 1 1 [.int .i64 (x : Int)] rfl rfl (by exact cell_one_new _ _ _) (by intro u hu; simp at hu; subst hu; rfl) (by decide) (by unfold maxLen; omega) (by omega) (by simp; omega) (wr.heap.size + 1) (by simp) ?_; intro g cap w3 hown hgrow hat hlt; have hg3 : wr.grownBy w3 (V b).ownBlock := grown_trans (World.grownBy_alloc wr _ _) hgrow; have bH : w3.heap[H]? = wr.heap[H]? := hg3.block H hHs (fun e => by have := (ho'.lt H e.symm).1; omega); have c7 : w3.cell? ⟨H, b, none⟩ = some (V b) := (HM.out.top.of_block bH).cell hbn; have f7 : w3.frozen? ⟨H, b, none⟩ = false := (HM.out.top.of_block bH).frozen b; have HM2 : Hid (PM H n w (w3.setCell ⟨H, b, none⟩ (.slice (some ⟨g, 0, none⟩) (P b ++ [x]).length cap)) (upd P b (P b ++ [x])) (upd V b (.slice (some ⟨g, 0, none⟩) (P b ++ [x]).length cap))) := HM.out.push hbn hg3 (hat.imp id (fun e => by omega)) (by rw [List.length_append, ints_append]; exact hown); clear hown hgrow hat hlt)
          simp only [List.length_append, List.length_singleton] at HM2
          go_roundg ((adj x).length - (j + 1))
          case measure => omega
          case rel => exact ⟨j + 1, _, _, by omega, rfl, by go_num, HM2, HB2⟩
        · obtain rfl : j = (adj x).length := by omega
          have HB2 : Hid (Bk adj 131072 (x + 1) 0 P) := HB.out.next hlen
          go_wp2_with fail
          go_roundg (n - (x + 1))
          case measure => omega
          case rel => exact ⟨x + 1, P, V, by omega, rfl, by go_num, HM, HB2⟩
    · obtain rfl : x = n := by omega
      have HSw : Hid (Succ wr x adj sb so A C RB RO) := HSB.out _ HM.out.below
      have HGP : Hid (Gr wr x P H 0 (fun i => ptrOf (V i)) (fun i => capOf (V i)) (fun i => ((ptrOf (V i)).getD ⟨0, 0, none⟩).block) (fun _ => 0)) := HM.out.gr (fun i _ y hy => ((HB.out.mem i y).1 hy).1) (fun i _ => by
        have := HB.out.len i
        have h2 : x * 131072 ≤ 4096 * 131072 := Nat.mul_le_mul_right _ (by omega)
        omega)
      have HPR : Hid (∀ u y, y < x → (Reach P u y ↔ Reach adj y u)) := fun u y hy => HB.out.reach hadj hy
      have HBw : Hid (Below H w wr) := HM.out.below
      have hHs : H < wr.heap.size := HM.out.top.lt
      clear HM HB HSB
      generalize (fun i => ptrOf (V i)) = PA at HGP
      generalize (fun i => capOf (V i)) = PC at HGP
      generalize (fun i => ((ptrOf (V i)).getD ⟨0, 0, none⟩).block) = PR at HGP
      clear V hmk22
      go_wp2_with fail
      obtain ⟨LB, HLB⟩ : ∃ B, Hid (B = wr.heap.size) := ⟨_, rfl⟩
      have hHL : H < LB := by rw [HLB.out]; exact hHs
      have hlbb := HLB.out.symm
      rw [hlbb]
      have HR0 : Hid ((wr.alloc (.cells (madeCells #[.int .i64 0] x) 3)).rowIs LB 3 x (fun i => .int .i64 (if i < 0 then -1 else 0))) := by rw [HLB.out]; exact (World.rowIs_made wr _ x 3).congr fun i _ => by simp
      have HA0 : Hid (Below LB wr (wr.alloc (.cells (madeCells #[.int .i64 0] x) 3))) := by rw [HLB.out]; exact (Below.refl _ _).alloc (Nat.le_refl _) _
      have HZ0 : Hid ((wr.alloc (.cells (madeCells #[.int .i64 0] x) 3)).heap.size = LB + 1) := by rw [HLB.out]; exact World.size_alloc _ _
      clear hlbb
      generalize hwA : wr = wA at *
      clear hwA
      go_loopg [9] x (fun g s9 wi => ∃ k : Nat, k ≤ x ∧ g = x - k ∧ s9 = .int .i64 (k : Int) ∧ Hid (Below LB wA wi) ∧ Hid (wi.heap.size = LB + 1) ∧ wi.rowIs LB 3 x (fun i => .int .i64 (if i < k then -1 else 0)))
      case atStart => exact ⟨0, by omega, rfl, rfl, HA0, HZ0, HR0⟩
      case round =>
        clear HR0 HA0 HZ0
        obtain ⟨k, hk, rfl, rfl, HA, HZ, hrow⟩ := hrel
        by_cases hlt2 : k < x
        · have g1 := hrow.cell hlt2
          have g2 := hrow.frozen k
          have hkz : (k : Int) < (x : Int) := by omega
          have HA2 : Hid (Below LB wA (wr.setCell ⟨LB, k, none⟩ (.int .i64 (-1)))) := HA.out.setCell (Nat.le_refl _) _
          have HZ2 : Hid ((wr.setCell ⟨LB, k, none⟩ (.int .i64 (-1))).heap.size = LB + 1) := by rw [Go.Deep.nblk_setCell]; exact HZ.out
          have hrow2 : (wr.setCell ⟨LB, k, none⟩ (.int .i64 (-1))).rowIs LB 3 x (fun i => .int .i64 (if i < k + 1 then -1 else 0)) := (hrow.set k _).congr fun i _ => by
            by_cases e : i = k
            · subst e; simp
            · by_cases h2 : i < k
              · simp [e, h2, show i < k + 1 by omega]
              · simp [e, h2, show ¬ i < k + 1 by omega]
          clear hrow hmk27 hmk29
          go_wp2_with fail
          go_roundg (x - (k + 1))
          case measure => omega
          case rel => exact ⟨k + 1, by omega, rfl, by go_num, HA2, HZ2, hrow2⟩
        · obtain rfl : k = x := by omega
          have HM0 : Hid (LM LB k wA ((wr.alloc (.cells (madeCells #[.bool false] k) 4)).alloc (.cells (madeCells #[.bool false] k) 4)) (fun _ => -1) (fun _ => false) (fun _ => false)) := by
            have hz := HZ.out
            refine ⟨(HA.out.alloc (by omega) _).alloc (by simp; omega) _, by simp; omega, ((hrow.alloc _).alloc _).congr fun i hi => by simp [hi], ?_, ?_⟩
            · have := World.rowIs_made wr (.bool false) k 4
              rw [hz] at this
              exact this.alloc _
            · have := World.rowIs_made (wr.alloc (.cells (madeCells #[.bool false] k) 4)) (.bool false) k 4
              rw [World.size_alloc, hz] at this
              exact this
          clear hrow
          go_wp2_with fail
          simp only [HZ.out, Nat.add_assoc, Nat.reduceAdd]
          generalize ((wr.alloc (.cells (madeCells #[.bool false] k) 4)).alloc (.cells (madeCells #[.bool false] k) 4)) = wB at HM0 ⊢
          clear HA HZ
          have HL0 := lab_start k f
          go_loopg [12] k (fun g s12 wi => ∃ (x : Nat) (lab : Nat → Int) (s1 s2 : Nat → Bool), x ≤ k ∧ g = k - x ∧ s12 = .int .i64 (x : Int) ∧ Hid (LM LB k wA wi lab s1 s2) ∧ Hid (LabOk k f x lab))
          case atStart => exact ⟨0, _, _, _, by omega, rfl, rfl, HM0, HL0⟩
          case round =>
            clear HM0 HL0
            obtain ⟨x, lab, s1, s2, hxk, rfl, rfl, HM, HL⟩ := hrel
            by_cases hlt3 : x < k
            · clear hmk27 hmk29
              obtain rfl := ha (by omega)
              have hxz : (x : Int) < (k : Int) := by omega
              have g1 := HM.out.lab.cell hlt3
              by_cases h0 : 0 ≤ lab x
              · have HL2 : Hid (LabOk k f (x + 1) lab) := lab_skip HL.out hlt3 h0
                go_wp2_with fail
                go_roundg (k - (x + 1))
                case measure => omega
                case rel => exact ⟨x + 1, lab, s1, s2, by omega, rfl, by go_num, HM, HL2⟩
              · go_wp2_with fail
                have hLs := HM.out.size
                have HGA : Hid (Gr wr k adj sb so A C RB RO) := HSw.out.gr.later (by rw [← HLB.out]; exact HM.out.below)
                refine (reach_any adj k c x (LB + 1) sb so A C RB RO wr s1 (by omega) hlt3 (fun h => by have := HSw.out.gr.sb_lt h; have := HLB.out; omega) (fun i hi hl => by have := HSw.out.gr.rb_lt hi hl; have := HLB.out; omega) HGA.out HM.out.fwd).mono ?_
                rintro e w1 ⟨rfl, hO1, t1, hr1, ht1⟩
                have HM1 : Hid (LM LB k wA w1 lab t1 s2) := HM.out.newFwd hO1 hr1
                have Ht1 : Hid (∀ y, t1 y = true ↔ Reach adj x y) := ht1
                clear HM hO1 hr1 ht1 HGA s1 g1
                go_wp2_with fail
                have HGB : Hid (Gr w1 k P H 0 PA PC PR (fun _ => 0)) := HGP.out.later (by rw [← HLB.out]; exact HM1.out.below)
                refine (reach_any P k k x (LB + 2) H 0 PA PC PR (fun _ => 0) w1 s2 (by omega) hlt3 (fun h => by omega) (fun i hi hl => by have := HGP.out.rb_lt hi hl; have := HLB.out; omega) HGB.out HM1.out.bwd).mono ?_
                rintro e w2 ⟨rfl, hO2, t2, hr2, ht2⟩
                have HM2 : Hid (LM LB k wA w2 lab t1 t2) := HM1.out.newBwd hO2 hr2
                have Hmut : Hid (∀ y, y < k → (t1 y = true ∧ t2 y = true ↔ f x = f y)) := fun y hy => by
                  rw [hF.eqv x y hlt3 hy, Ht1.out y, ht2 y, HPR.out x y hy]
                clear HM1 hO2 hr2 ht2 Ht1 HGB s2
                go_wp2_with fail
                go_loopg [13] k (fun g s13 wi => ∃ b : Nat, b ≤ k ∧ g = k - b ∧ s13 = .int .i64 (b : Int) ∧ Hid (LM LB k wA wi (fun y => if y < b ∧ t1 y = true ∧ t2 y = true then (x : Int) else lab y) t1 t2))
                case atStart => exact ⟨0, by omega, rfl, rfl, by
                  have e : (fun y => if y < 0 ∧ t1 y = true ∧ t2 y = true then (x : Int) else lab y) = lab := by funext y; simp
                  rw [e]; exact HM2⟩
                case round =>
                  clear HM2
                  obtain ⟨b, hb, rfl, rfl, HM⟩ := hrel
                  by_cases hlt4 : b < k
                  · have hbz : (b : Int) < (k : Int) := by omega
                    have g1 := HM.out.fwd.cell hlt4
                    have g2 := HM.out.bwd.cell hlt4
                    have g3 := HM.out.lab.cell hlt4
                    have g4 := HM.out.lab.frozen b
                    simp only [Nat.lt_irrefl, false_and, if_false] at g3
                    have hsame : ¬ (t1 b = true ∧ t2 b = true) → Hid (LM LB k wA wr (fun y => if y < b + 1 ∧ t1 y = true ∧ t2 y = true then (x : Int) else lab y) t1 t2) := fun hnb => by
                      have e : (fun y => if y < b + 1 ∧ t1 y = true ∧ t2 y = true then (x : Int) else lab y) = (fun y => if y < b ∧ t1 y = true ∧ t2 y = true then (x : Int) else lab y) := by
                        funext y
                        by_cases e : y = b
                        · subst e; simp [hnb]
                        · simp only [show y < b + 1 ↔ y < b by omega]
                      rw [e]; exact HM
                    cases ht1 : t1 b with
                    | false =>
                      have HM2 := hsame (by simp [ht1])
                      rw [ht1] at g1
                      clear ht1 hsame HM
                      go_wp2_with fail
                      go_roundg (k - (b + 1))
                      case measure => omega
                      case rel => exact ⟨b + 1, by omega, rfl, by go_num, HM2⟩
                    | true =>
                      cases ht2 : t2 b with
                      | false =>
                        have HM2 := hsame (by simp [ht2])
                        rw [ht1] at g1
                        rw [ht2] at g2
                        clear ht1 ht2 hsame HM
                        go_wp2_with fail
                        go_roundg (k - (b + 1))
                        case measure => omega
                        case rel => exact ⟨b + 1, by omega, rfl, by go_num, HM2⟩
                      | true =>
                        have HM2 : Hid (LM LB k wA (wr.setCell ⟨LB, b, none⟩ (.int .i64 (x : Int))) (fun y => if y < b + 1 ∧ t1 y = true ∧ t2 y = true then (x : Int) else lab y) t1 t2) := HM.out.setLab b _ fun i _ => by
                          by_cases e : i = b
                          · subst e; simp [ht1, ht2]
                          · simp only [if_neg e, show i < b + 1 ↔ i < b by omega]
                        rw [ht1] at g1
                        rw [ht2] at g2
                        clear ht1 ht2 hsame HM
                        go_wp2_with fail
                        go_roundg (k - (b + 1))
                        case measure => omega
                        case rel => exact ⟨b + 1, by omega, rfl, by go_num, HM2⟩
                  · obtain rfl : b = k := by omega
                    have HL2 : Hid (LabOk b f (x + 1) (fun y => if y < b ∧ t1 y = true ∧ t2 y = true then (x : Int) else lab y)) := lab_set HL.out hlt3 (by omega) t1 t2 Hmut.out
                    go_wp2_with fail
                    go_roundg (b - (x + 1))
                    case measure => omega
                    case rel => exact ⟨x + 1, _, t1, t2, by omega, rfl, by go_num, HM, HL2⟩
            · obtain rfl : x = k := by omega
              obtain ⟨lb, hlab, hlb⟩ := lab_fin HL.out
              have HLr : Hid (wr.rowIs LB 3 x (fun i => .int .i64 (lb i : Int))) := HM.out.lab.congr fun i hi => by rw [(hlab i hi).1]
              have Hlbn : Hid (∀ y, y < x → lb y < x) := fun y hy => (hlab y hy).2
              have Hlb : Hid (∀ y z, y < x → z < x → (lb y = lb z ↔ f y = f z)) := hlb
              have HSC : Hid (Succ wr x adj sb so A C RB RO) := HSw.out.later (by rw [← HLB.out]; exact HM.out.below)
              have HBC : Hid (Below H w wr) := HBw.out.trans (HM.out.below.mono (by omega))
              have hsz := HM.out.size
              clear hlab hlb HL HM HSw HGP HPR HBw HLB
              have HD0 : Hid (DM wr.heap.size x wr ((wr.alloc (.cells (madeCells #[.int .i64 0] x) 3)).alloc (.cells (madeCells #[.int .i64 0] x) 3)) D0) := by
                refine ⟨((Below.refl _ _).alloc (Nat.le_refl _) _).alloc (by simp) _, by simp, ((World.rowIs_made wr _ x 3).alloc _).congr fun i hi => rfl, ?_⟩
                have := World.rowIs_made (wr.alloc (.cells (madeCells #[.int .i64 0] x) 3)) (.int .i64 0) x 3
                rw [World.size_alloc] at this
                exact this.congr fun i hi => rfl
              go_wp2_with fail
              clear hmk29
              obtain ⟨PB, HPB⟩ : ∃ B, Hid (B = wr.heap.size) := ⟨_, rfl⟩
              have hLP : LB + 3 ≤ PB := by rw [HPB.out]; exact hsz
              have hpbb := HPB.out.symm
              simp only [hpbb] at HD0 ⊢
              generalize ((wr.alloc (.cells (madeCells #[.int .i64 0] x) 3)).alloc (.cells (madeCells #[.int .i64 0] x) 3)) = wD at HD0 ⊢
              clear hpbb hsz
              generalize hwC : wr = wC at *
              clear hwC
              have hu0 : D0.a + unv x D0 = x := by show 0 + sumTo x (fun _ => if (0 : Nat) = 0 then 1 else 0) = x; simp [sumTo_one]
              go_loopg [16, 17, 18] x (fun g s16 s17 s18 wi => ∃ (y : Nat) (d : DS), y ≤ x ∧ g = x - y ∧ s18 = .int .i64 (y : Int) ∧ s16 = .int .i64 (d.a : Int) ∧ s17 = .int .i64 (d.b : Int) ∧ Hid (DM PB x wC wi d) ∧ Hid (Reached adj y d) ∧ d.a + unv x d = x ∧ d.b = d.a)
              case atStart => exact ⟨0, D0, by omega, rfl, rfl, rfl, rfl, HD0, rfl, hu0, rfl⟩
              case round =>
                clear HD0 hu0
                obtain ⟨y, d, hy, rfl, rfl, rfl, rfl, HM, HR, hda, hdb⟩ := hrel
                by_cases hlt4 : y < x
                · obtain rfl := ha (by omega)
                  have hyz : (y : Int) < (x : Int) := by omega
                  have g1 := HM.out.pre.cell hlt4
                  clear hmk27
                  by_cases h0 : d.pre y = 0
                  · have H0 : Hid (d.pre y = 0) := h0
                    have Hdb : Hid (d.b = d.a) := hdb
                    rw [h0] at g1
                    clear h0 hdb
                    go_wp2_with fail
                    refine (dfs_any adj x c sb so A C RB RO PB (PB + 1) (by omega) (by omega) (by have := HSC.out.gr.sb_lt (by omega); have := HPB.out; omega) (by have := HSC.out.gr.sb_lt (by omega); have := HPB.out; omega) (fun i hi hl => by have := HSC.out.gr.rb_lt hi hl; have := HPB.out; omega) (fun i hi hl => by have := HSC.out.gr.rb_lt hi hl; have := HPB.out; omega) (unv x d) y d _ (Nat.le_refl _) hlt4 H0.out hda (by have := Hdb.out; omega) (HSC.out.later (by rw [← HPB.out]; exact HM.out.below)) HM.out.pre HM.out.post).mono ?_
                    rintro e w1 ⟨d', rfl, hT, hp', hq', ha', hb', hd', kk, hk⟩
                    have HM2 : Hid (DM PB x wC w1 d') := ⟨HM.out.below.trans (hT.below (Nat.le_refl _) (by omega)), by rw [hT.size]; exact HM.out.size, hp', hq'⟩
                    have HR2 : Hid (Reached adj (y + 1) d') := ⟨d, HR.out, .inr ⟨H0.out, kk, hk []⟩⟩
                    have hdb' : d'.b = d'.a := by have := Hdb.out; omega
                    clear HM HR hT hp' hq' hk hb' Hdb
                    have Hdb : Hid (d'.b = d'.a) := hdb'
                    clear hdb'
                    go_wp2_with fail
                    go_roundg (x - (y + 1))
                    case measure => omega
                    case rel => exact ⟨y + 1, d', by omega, rfl, by go_num, rfl, rfl, HM2, HR2, ha', Hdb⟩
                  · have h0z : ((d.pre y : Int) == 0) = false := by rw [beq_eq_false_iff_ne]; omega
                    have HR2 : Hid (Reached adj (y + 1) d) := ⟨d, HR.out, .inl ⟨h0, rfl⟩⟩
                    have Hdb : Hid (d.b = d.a) := hdb
                    clear hdb
                    go_wp2_with fail
                    go_roundg (x - (y + 1))
                    case measure => omega
                    case rel => exact ⟨y + 1, d, by omega, rfl, by go_num, rfl, rfl, HM, HR2, hda, Hdb⟩
                · obtain rfl : y = x := by omega
                  obtain rfl := reached_unique adj y d d0 HR.out hF.reached
                  have hPs := HM.out.size
                  have HLr2 : Hid (wr.rowIs LB 3 y (fun i => .int .i64 (lb i : Int))) := HLr.out.of_block (HM.out.below.block LB (by omega))
                  have HPr : Hid (wr.rowIs PB 3 y (fun i => .int .i64 (d.pre i : Int))) := HM.out.pre
                  have HQr : Hid (wr.rowIs (PB + 1) 3 y (fun i => .int .i64 (d.post i : Int))) := HM.out.post
                  have HBE : Hid (Below H w wr) := HBC.out.trans (HM.out.below.mono (by omega))
                  have HK0 : Hid ((wr.alloc (.cells (madeCells #[.int .i64 0] y) 3)).rowIs wr.heap.size 3 y (fun i => .int .i64 (if i < 0 then -1 else 0))) := (World.rowIs_made wr _ y 3).congr fun i _ => by simp
                  have HA0 : Hid (Below wr.heap.size wr (wr.alloc (.cells (madeCells #[.int .i64 0] y) 3))) := (Below.refl _ _).alloc (Nat.le_refl _) _
                  have HZ0 : Hid ((wr.alloc (.cells (madeCells #[.int .i64 0] y) 3)).heap.size = wr.heap.size + 1) := World.size_alloc _ _
                  clear HM HR hda hdb HLr HSC HBC HPB
                  go_wp2_with fail
                  obtain ⟨RK, HRK⟩ : ∃ B, Hid (B = wr.heap.size) := ⟨_, rfl⟩
                  have hPR : PB + 2 ≤ RK := by rw [HRK.out]; exact hPs
                  have hrkk := HRK.out.symm
                  simp only [hrkk] at HK0 HA0 HZ0 ⊢
                  generalize wr.alloc (.cells (madeCells #[.int .i64 0] y) 3) = wF at HK0 HA0 HZ0 ⊢
                  clear hrkk hPs
                  generalize hwE : wr = wE at *
                  clear hwE
                  go_loopg [20] y (fun g s20 wi => ∃ k : Nat, k ≤ y ∧ g = y - k ∧ s20 = .int .i64 (k : Int) ∧ Hid (Below RK wE wi) ∧ Hid (wi.heap.size = RK + 1) ∧ wi.rowIs RK 3 y (fun i => .int .i64 (if i < k then -1 else 0)))
                  case atStart => exact ⟨0, by omega, rfl, rfl, HA0, HZ0, HK0⟩
                  case round =>
                    clear HK0 HA0 HZ0
                    obtain ⟨k, hk, rfl, rfl, HA, HZ, hrow⟩ := hrel
                    by_cases hlt5 : k < y
                    · have g1 := hrow.cell hlt5
                      have g2 := hrow.frozen k
                      have hkz : (k : Int) < (y : Int) := by omega
                      have HA2 : Hid (Below RK wE (wr.setCell ⟨RK, k, none⟩ (.int .i64 (-1)))) := HA.out.setCell (Nat.le_refl _) _
                      have HZ2 : Hid ((wr.setCell ⟨RK, k, none⟩ (.int .i64 (-1))).heap.size = RK + 1) := by rw [Go.Deep.nblk_setCell]; exact HZ.out
                      have hrow2 : (wr.setCell ⟨RK, k, none⟩ (.int .i64 (-1))).rowIs RK 3 y (fun i => .int .i64 (if i < k + 1 then -1 else 0)) := (hrow.set k _).congr fun i _ => by
                        by_cases e : i = k
                        · subst e; simp
                        · by_cases h2 : i < k
                          · simp [e, h2, show i < k + 1 by omega]
                          · simp [e, h2, show ¬ i < k + 1 by omega]
                      clear hrow hmk27
                      go_wp2_with fail
                      go_roundg (y - (k + 1))
                      case measure => omega
                      case rel => exact ⟨k + 1, by omega, rfl, by go_num, HA2, HZ2, hrow2⟩
                    · obtain rfl : k = y := by omega
                      have hrow0 : wr.rowIs RK 3 k (fun i => .int .i64 (-1)) := hrow.congr fun i hi => by simp [hi]
                      clear hrow
                      have HO0 := root_start k lb d.pre
                      go_wp2_with fail
                      go_loopg [21] k (fun g s21 wi => ∃ (b : Nat) (rt : Nat → Int), b ≤ k ∧ g = k - b ∧ s21 = .int .i64 (b : Int) ∧ Hid (Below RK wE wi) ∧ Hid (wi.heap.size = RK + 1) ∧ wi.rowIs RK 3 k (fun i => .int .i64 (rt i)) ∧ Hid (RootOk k lb d.pre b rt))
                      case atStart => exact ⟨0, fun _ => -1, by omega, rfl, rfl, HA, HZ, hrow0, HO0⟩
                      case round =>
                        clear hrow0 HO0 HA HZ
                        obtain ⟨b, rt, hb, rfl, rfl, HA, HZ, hrow, HO⟩ := hrel
                        by_cases hlt5 : b < k
                        · have hbz : (b : Int) < (k : Int) := by omega
                          have hlbn := Hlbn.out b hlt5
                          have hlbz : (lb b : Int) < (k : Int) := by omega
                          have g1 : wr.cell? ⟨LB, b, none⟩ = some (.int .i64 (lb b : Int)) := (HLr2.out.of_block (HA.out.block LB (by omega))).cell hlt5
                          have g2 := hrow.cell hlbn
                          have g3 := hrow.frozen (lb b)
                          have g4 : wr.cell? ⟨PB, b, none⟩ = some (.int .i64 (d.pre b : Int)) := (HPr.out.of_block (HA.out.block PB (by omega))).cell hlt5
                          have HA2 : Hid (Below RK wE (wr.setCell ⟨RK, lb b, none⟩ (.int .i64 (b : Int)))) := HA.out.setCell (Nat.le_refl _) _
                          have HZ2 : Hid ((wr.setCell ⟨RK, lb b, none⟩ (.int .i64 (b : Int))).heap.size = RK + 1) := by rw [Go.Deep.nblk_setCell]; exact HZ.out
                          have hrow2 : (wr.setCell ⟨RK, lb b, none⟩ (.int .i64 (b : Int))).rowIs RK 3 k (fun i => .int .i64 (if i = lb b then (b : Int) else rt i)) := (hrow.set (lb b) _).congr fun i _ => by split <;> rfl
                          clear hmk27
                          rcases HO.out (lb b) hlbn with ⟨h1, _⟩ | ⟨r, h1, h2, _, _⟩
                          · have HO2 : Hid (RootOk k lb d.pre (b + 1) (fun i => if i = lb b then (b : Int) else rt i)) := root_set HO.out hlt5 hlbn (.inl h1)
                            rw [h1] at g2
                            clear h1 hrow HA HZ HO
                            go_wp2_with fail
                            go_quiet (fail)
                            go_wp2_with fail
                            go_roundg (k - (b + 1))
                            case measure => omega
                            case rel => exact ⟨b + 1, _, by omega, rfl, by go_num, HA2.out.trans ⟨rfl, rfl, rfl, Nat.le_refl _, fun _ _ => rfl⟩, HZ2.out, hrow2, HO2⟩
                          · have hrk : r < k := by omega
                            have hrz : (r : Int) < (k : Int) := by omega
                            have hdec : decide ((r : Int) < 0) = false := by simp
                            rw [h2] at g2
                            have g5 : wr.cell? ⟨PB, r, none⟩ = some (.int .i64 (d.pre r : Int)) := (HPr.out.of_block (HA.out.block PB (by omega))).cell hrk
                            by_cases hp : d.pre b < d.pre r
                            · have hpz : (d.pre b : Int) < (d.pre r : Int) := by omega
                              have HO2 : Hid (RootOk k lb d.pre (b + 1) (fun i => if i = lb b then (b : Int) else rt i)) := root_set HO.out hlt5 hlbn (.inr ⟨r, h2, hp⟩)
                              clear h1 h2 hrow HA HZ HO
                              go_wp2_with fail
                              go_quiet (fail)
                              go_wp2_with fail
                              go_roundg (k - (b + 1))
                              case measure => omega
                              case rel => exact ⟨b + 1, _, by omega, rfl, by go_num, HA2.out.trans ⟨rfl, rfl, rfl, Nat.le_refl _, fun _ _ => rfl⟩, HZ2.out, hrow2, HO2⟩
                            · have hpz : ¬ (d.pre b : Int) < (d.pre r : Int) := by omega
                              have HO2 : Hid (RootOk k lb d.pre (b + 1) rt) := root_keep HO.out hlt5 hlbn h2 (by omega)
                              clear h1 h2 HO hrow2 HA2 HZ2
                              go_wp2_with fail
                              go_quiet (fail)
                              go_wp2_with fail
                              go_roundg (k - (b + 1))
                              case measure => omega
                              case rel => exact ⟨b + 1, rt, by omega, rfl, by go_num, HA.out.trans ⟨rfl, rfl, rfl, Nat.le_refl _, fun _ _ => rfl⟩, HZ.out, hrow, HO2⟩
                        · obtain rfl : b = k := by omega
                          obtain ⟨m, R, hm, hfm, hR, hord⟩ := hF.root
                          have HRt : Hid (∀ z, z < b → rt (lb z) = (R (f z) : Int)) := fun z hz => root_fin (adj := adj) HO.out Hlbn.out Hlb.out hfm hR z hz
                          have Hcnt : Hid (∀ z, z < b → rcount f R d.post (d.post (R (f z))) b = f z) := fun z hz => rcount_fin hfm (fun c hc => ⟨(hR c hc).1, (hR c hc).2.1⟩) hord (f z) (hfm z hz)
                          have HRn : Hid (∀ z, z < b → R (f z) < b) := fun z hz => (hR (f z) (hfm z hz)).1
                          have HfB : Hid (∀ z, z < b → f z < b) := fun z hz => by have := hfm z hz; omega
                          have HLr3 : Hid (wr.rowIs LB 3 b (fun i => .int .i64 (lb i : Int))) := HLr2.out.of_block (HA.out.block LB (by omega))
                          have HQr3 : Hid (wr.rowIs (PB + 1) 3 b (fun i => .int .i64 (d.post i : Int))) := HQr.out.of_block (HA.out.block (PB + 1) (by omega))
                          have HKr : Hid (wr.rowIs RK 3 b (fun i => .int .i64 (rt i))) := hrow
                          have HBG : Hid (Below H w wr) := HBE.out.trans (HA.out.mono (by omega))
                          have HW0 : Hid ((wr.alloc (.cells (madeCells #[.int .i64 0] b) 3)).rowIs wr.heap.size 3 b (fun i => .int .i64 (if i < 0 then (f i : Int) else 0))) := (World.rowIs_made wr _ b 3).congr fun i _ => by simp
                          have HA0 : Hid (Below wr.heap.size wr (wr.alloc (.cells (madeCells #[.int .i64 0] b) 3))) := (Below.refl _ _).alloc (Nat.le_refl _) _
                          have hz := HZ.out
                          rw [hz] at HW0 HA0
                          clear hm hfm hR hord HO HLr2 HPr HQr hrow HBE HA hz
                          go_wp2_with fail
                          simp only [HZ.out]
                          generalize wr.alloc (.cells (madeCells #[.int .i64 0] b) 3) = wH at HW0 HA0 ⊢
                          clear HZ hmk27
                          generalize hwG : wr = wG at *
                          clear hwG
                          go_loopg [24] b (fun g s24 wi => ∃ z : Nat, z ≤ b ∧ g = b - z ∧ s24 = .int .i64 (z : Int) ∧ Hid (Below (RK + 1) wG wi) ∧ wi.rowIs (RK + 1) 3 b (fun i => .int .i64 (if i < z then (f i : Int) else 0)))
                          case atStart => exact ⟨0, by omega, rfl, rfl, HA0, HW0⟩
                          case round =>
                            clear HW0 HA0
                            obtain ⟨z, hz, rfl, rfl, HA, hrow⟩ := hrel
                            by_cases hlt5 : z < b
                            · have hzz : (z : Int) < (b : Int) := by omega
                              have hlbn := Hlbn.out z hlt5
                              have hlbz : (lb z : Int) < (b : Int) := by omega
                              have hrn := HRn.out z hlt5
                              have hrnz : (R (f z) : Int) < (b : Int) := by omega
                              have g1 : wr.cell? ⟨LB, z, none⟩ = some (.int .i64 (lb z : Int)) := (HLr3.out.of_block (HA.out.block LB (by omega))).cell hlt5
                              have g2 : wr.cell? ⟨RK, lb z, none⟩ = some (.int .i64 (R (f z) : Int)) := by rw [← HRt.out z hlt5]; exact (HKr.out.of_block (HA.out.block RK (by omega))).cell hlbn
                              go_wp2_with fail
                              go_loopg [26, 27] b (fun g s26 s27 wi => ∃ t : Nat, t ≤ b ∧ g = b - t ∧ s27 = .int .i64 (t : Int) ∧ s26 = .int .i64 (rcount f R d.post (d.post (R (f z))) t : Int) ∧ Hid (Below (RK + 1) wG wi) ∧ wi.rowIs (RK + 1) 3 b (fun i => .int .i64 (if i < z then (f i : Int) else 0)))
                              case atStart => exact ⟨0, by omega, rfl, rfl, rfl, HA, hrow⟩
                              case round =>
                                clear HA hrow g1 g2
                                obtain ⟨t, ht, rfl, rfl, rfl, HA, hrow⟩ := hrel
                                by_cases hlt6 : t < b
                                · have htz : (t : Int) < (b : Int) := by omega
                                  have hln := Hlbn.out t hlt6
                                  have hlz : (lb t : Int) < (b : Int) := by omega
                                  have g1 : wr.cell? ⟨LB, t, none⟩ = some (.int .i64 (lb t : Int)) := (HLr3.out.of_block (HA.out.block LB (by omega))).cell hlt6
                                  have g2 : wr.cell? ⟨RK, lb t, none⟩ = some (.int .i64 (R (f t) : Int)) := by rw [← HRt.out t hlt6]; exact (HKr.out.of_block (HA.out.block RK (by omega))).cell hln
                                  have g3 : wr.cell? ⟨PB + 1, t, none⟩ = some (.int .i64 (d.post t : Int)) := (HQr3.out.of_block (HA.out.block (PB + 1) (by omega))).cell hlt6
                                  have g4 : wr.cell? ⟨PB + 1, R (f z), none⟩ = some (.int .i64 (d.post (R (f z)) : Int)) := (HQr3.out.of_block (HA.out.block (PB + 1) (by omega))).cell hrn
                                  have hcl := rcount_le f R d.post (d.post (R (f z))) t
                                  have Hsucc : Hid (rcount f R d.post (d.post (R (f z))) (t + 1) = rcount f R d.post (d.post (R (f z))) t + (if R (f t) = t ∧ d.post t < d.post (R (f z)) then 1 else 0)) := rcount_succ _ _ _ _ _
                                  by_cases hRt : R (f t) = t
                                  · have HRT : Hid (R (f t) = t) := hRt
                                    rw [hRt] at g2
                                    clear hRt
                                    by_cases hp : d.post t < d.post (R (f z))
                                    · have hpz : (d.post t : Int) < (d.post (R (f z)) : Int) := by omega
                                      have e1 : Hid (rcount f R d.post (d.post (R (f z))) (t + 1) = rcount f R d.post (d.post (R (f z))) t + 1) := by rw [Hid, Hsucc.out, if_pos ⟨HRT.out, hp⟩]
                                      go_wp2_with fail
                                      go_quiet (fail)
                                      go_wp2_with fail
                                      go_roundg (b - (t + 1))
                                      case measure => omega
                                      case rel => exact ⟨t + 1, by omega, rfl, by go_num, by rw [e1.out]; go_num, HA.out.trans ⟨rfl, rfl, rfl, Nat.le_refl _, fun _ _ => rfl⟩, hrow⟩
                                    · have hpz : ¬ (d.post t : Int) < (d.post (R (f z)) : Int) := by omega
                                      have e1 : Hid (rcount f R d.post (d.post (R (f z))) (t + 1) = rcount f R d.post (d.post (R (f z))) t) := by rw [Hid, Hsucc.out, if_neg (fun h => hp h.2)]; rfl
                                      go_wp2_with fail
                                      go_quiet (fail)
                                      go_wp2_with fail
                                      go_roundg (b - (t + 1))
                                      case measure => omega
                                      case rel => exact ⟨t + 1, by omega, rfl, by go_num, by rw [e1.out], HA.out.trans ⟨rfl, rfl, rfl, Nat.le_refl _, fun _ _ => rfl⟩, hrow⟩
                                  · have hRz : ((R (f t) : Int) == (t : Int)) = false := by rw [beq_eq_false_iff_ne]; omega
                                    have e1 : Hid (rcount f R d.post (d.post (R (f z))) (t + 1) = rcount f R d.post (d.post (R (f z))) t) := by rw [Hid, Hsucc.out, if_neg (fun h => hRt h.1)]; rfl
                                    clear hRt
                                    go_wp2_with fail
                                    go_quiet (fail)
                                    go_wp2_with fail
                                    go_roundg (b - (t + 1))
                                    case measure => omega
                                    case rel => exact ⟨t + 1, by omega, rfl, by go_num, by rw [e1.out], HA.out.trans ⟨rfl, rfl, rfl, Nat.le_refl _, fun _ _ => rfl⟩, hrow⟩
                                · obtain rfl : t = b := by omega
                                  have g1 := hrow.cell hlt5
                                  have g2 := hrow.frozen z
                                  rw [Hcnt.out z hlt5]
                                  have HA2 : Hid (Below (RK + 1) wG (wr.setCell ⟨RK + 1, z, none⟩ (.int .i64 (f z : Int)))) := HA.out.setCell (Nat.le_refl _) _
                                  have hrow2 : (wr.setCell ⟨RK + 1, z, none⟩ (.int .i64 (f z : Int))).rowIs (RK + 1) 3 t (fun i => .int .i64 (if i < z + 1 then (f i : Int) else 0)) := (hrow.set z _).congr fun i _ => by
                                    by_cases e : i = z
                                    · subst e; simp
                                    · by_cases h2 : i < z
                                      · simp [e, h2, show i < z + 1 by omega]
                                      · simp [e, h2, show ¬ i < z + 1 by omega]
                                  clear hrow
                                  go_wp2_with fail
                                  go_roundg (t - (z + 1))
                                  case measure => omega
                                  case rel => exact ⟨z + 1, by omega, rfl, by go_num, HA2, hrow2⟩
                            · obtain rfl : z = b := by omega
                              go_wp2_with fail
                              go_ret
                              exact ⟨_, rfl, by have h := HBG.out.trans (HA.out.mono (show H ≤ RK + 1 by omega)); rw [HH.out] at h; exact h, hrow.congr fun i hi => by simp [hi]⟩
end Go.Proofs.Qxb6600624a
