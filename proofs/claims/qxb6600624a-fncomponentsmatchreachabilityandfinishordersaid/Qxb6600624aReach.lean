import Derived.Test.Qxb6600624aDfs
set_option linter.unusedVariables false
set_option linter.unusedSimpArgs false
namespace Go.Proofs.Qxb6600624a
open Go.RowKit

/-- The breadth-first search's state: the queue, the marks, i nodes done. -/
structure BF (adj : Nat → List Nat) (n st : Nat) (Q : List Nat) (sn : Nat → Bool) (i : Nat) : Prop where
  iff : ∀ x, sn x = true ↔ x ∈ Q
  cnt : Q.length + sumTo n (fun x => if sn x = true then 0 else 1) = n
  lt : ∀ x ∈ Q, x < n
  mst : st ∈ Q
  reach : ∀ x ∈ Q, Reach adj st x
  done : ∀ t, t < i → ∀ x, Q[t]? = some x → ∀ y ∈ adj x, sn y = true
section
variable {adj : Nat → List Nat} {n st i : Nat} {Q : List Nat} {sn : Nat → Bool}
theorem sumTo_upd {sn : Nat → Bool} {n y : Nat} (hy : y < n) (h : sn y = false) : sumTo n (fun x => if upd sn y true x = true then 0 else 1) + 1 = sumTo n (fun x => if sn x = true then 0 else 1) := by
  have hc := sumTo_change (f := fun x => if sn x = true then 0 else 1) (g := fun x => if upd sn y true x = true then 0 else 1) (v := y) n hy (fun t ht => by
    simp only [upd_other _ _ ht])
  simp only [upd_same, h] at hc
  simp at hc
  omega
theorem BF.start {st : Nat} (h : st < n) : BF adj n st [st] (upd (fun _ => false) st true) 0 := by
  refine ⟨fun x => ?_, ?_, fun x hx => by simp at hx; omega, by simp, fun x hx => by simp at hx; subst hx; exact .refl _, fun t ht => absurd ht (Nat.not_lt_zero _)⟩
  · unfold upd
    by_cases e : x = st <;> simp [e]
  · have h1 := sumTo_upd (sn := fun _ => false) h rfl
    have h2 : sumTo n (fun x => if (fun _ : Nat => false) x = true then 0 else 1) = n := by simp [sumTo_one]
    rw [h2] at h1
    simp only [List.length_singleton]
    omega
theorem BF.push {y : Nat} (h : BF adj n st Q sn i) (hi : i ≤ Q.length) (hy : y < n) (hs : sn y = false) (hr : Reach adj st y) : BF adj n st (Q ++ [y]) (upd sn y true) i := by
  have hmono : ∀ x, sn x = true → upd sn y true x = true := fun x hx => by
    unfold upd; split
    · rfl
    · exact hx
  refine ⟨fun x => ?_, ?_, fun x hx => ?_, by simp [h.mst], fun x hx => ?_, fun t ht x hx z hz => ?_⟩
  · by_cases e : x = y
    · subst e; simp [upd_same]
    · rw [upd_other _ _ e, h.iff]; simp [e]
  · have := sumTo_upd hy hs
    have := h.cnt
    rw [List.length_append, List.length_singleton]
    omega
  · rcases List.mem_append.1 hx with h1 | h1
    · exact h.lt x h1
    · simp at h1; omega
  · rcases List.mem_append.1 hx with h1 | h1
    · exact h.reach x h1
    · simp at h1; subst h1; exact hr
  · rw [List.getElem?_append_left (by omega)] at hx
    exact hmono z (h.done t ht x hx z hz)
theorem BF.len_le (h : BF adj n st Q sn i) : Q.length ≤ n := by have := h.cnt; omega
theorem BF.next {x : Nat} (h : BF adj n st Q sn i) (hx : Q[i]? = some x) (hd : ∀ y ∈ adj x, sn y = true) : BF adj n st Q sn (i + 1) := by
  refine ⟨h.iff, h.cnt, h.lt, h.mst, h.reach, fun t ht z hz y hy => ?_⟩
  by_cases e : t = i
  · subst e
    rw [hx] at hz
    cases hz
    exact hd y hy
  · exact h.done t (by omega) z hz y hy
theorem BF.fin (h : BF adj n st Q sn Q.length) (x : Nat) : sn x = true ↔ Reach adj st x := by
  refine ⟨fun hx => h.reach x ((h.iff x).1 hx), fun ⟨k, hk⟩ => ?_⟩
  have : ∀ k u, sn u = true → reachN adj k u x → sn x = true := by
    intro k
    induction k with
    | zero => intro u hu hk; cases hk; exact hu
    | succ k ih =>
      intro u hu ⟨z, hz, hk⟩
      obtain ⟨t, ht, he⟩ := List.getElem_of_mem ((h.iff u).1 hu)
      exact ih z (h.done t ht u (by rw [List.getElem?_eq_getElem ht, he]) z hz) hk
  exact this k st ((h.iff st).2 h.mst) hk
end

/-- A graph in memory, its rows of any length. -/
structure Gr (w : World) (n : Nat) (adj : Nat → List Nat) (sb so : Nat) (A : Nat → Option Addr) (C RB RO : Nat → Nat) : Prop where
  row : ∀ i, i < n → w.cell? ⟨sb, so + i, none⟩ = some (.slice (A i) (adj i).length (C i))
  cell : ∀ i, i < n → ∀ j, j < (adj i).length → A i = some ⟨RB i, RO i, none⟩ ∧ w.cell? ⟨RB i, RO i + j, none⟩ = some (.int .i64 (((adj i).getD j 0 : Nat) : Int))
  lt : ∀ i, i < n → ∀ x ∈ adj i, x < n
  len : ∀ i, i < n → (adj i).length ≤ 1099511627776
theorem Succ.gr {w : World} {n : Nat} {adj : Nat → List Nat} {sb so : Nat} {A : Nat → Option Addr} {C RB RO : Nat → Nat} (h : Succ w n adj sb so A C RB RO) : Gr w n adj sb so A C RB RO := ⟨h.row, h.cell, h.lt, fun i hi => by have := h.len i hi; omega⟩

theorem Gr.later {w w' : World} {n : Nat} {adj : Nat → List Nat} {sb so : Nat} {A : Nat → Option Addr} {C RB RO : Nat → Nat} (h : Gr w n adj sb so A C RB RO) (hb : Below w.heap.size w w') : Gr w' n adj sb so A C RB RO := by
  refine ⟨fun i hi => ?_, fun i hi j hj => ⟨(h.cell i hi j hj).1, ?_⟩, h.lt, h.len⟩
  · have h1 := h.row i hi
    rw [hb.cell (World.block_lt_of_cell? _ _ h1)]; exact h1
  · have h1 := (h.cell i hi j hj).2
    rw [hb.cell (World.block_lt_of_cell? _ _ h1)]; exact h1
theorem Gr.sb_lt {w : World} {n : Nat} {adj : Nat → List Nat} {sb so : Nat} {A : Nat → Option Addr} {C RB RO : Nat → Nat} (h : Gr w n adj sb so A C RB RO) (hn : 0 < n) : sb < w.heap.size := World.block_lt_of_cell? _ _ (h.row 0 hn)
theorem Gr.rb_lt {w : World} {n : Nat} {adj : Nat → List Nat} {sb so : Nat} {A : Nat → Option Addr} {C RB RO : Nat → Nat} (h : Gr w n adj sb so A C RB RO) {i : Nat} (hi : i < n) (hl : 0 < (adj i).length) : RB i < w.heap.size := World.block_lt_of_cell? _ _ (h.cell i hi 0 hl).2

/-- One block that was there has changed; new blocks may be. -/
structure One (S : Nat) (w w' : World) : Prop where
  os : w'.os = w.os
  tape : w'.tape = w.tape
  output : w'.output = w.output
  size : w.heap.size ≤ w'.heap.size
  block : ∀ k, k < w.heap.size → k ≠ S → w'.heap[k]? = w.heap[k]?
theorem One.refl (S : Nat) (w : World) : One S w w := ⟨rfl, rfl, rfl, Nat.le_refl _, fun _ _ _ => rfl⟩
theorem One.trans {S : Nat} {w w' w'' : World} (h : One S w w') (h' : One S w' w'') : One S w w'' := ⟨h'.os.trans h.os, h'.tape.trans h.tape, h'.output.trans h.output, Nat.le_trans h.size h'.size, fun k h1 h2 => (h'.block k (by have := h.size; omega) h2).trans (h.block k h1 h2)⟩
theorem One.set {S : Nat} {w w' : World} (h : One S w w') (i : Nat) (v : Value) : One S w (w'.setCell ⟨S, i, none⟩ v) :=
  h.trans ⟨rfl, rfl, rfl, by rw [Go.Deep.nblk_setCell]; exact Nat.le_refl _, fun k h1 h2 => Go.Deep.blk_setCell_other _ _ _ _ (by show k ≠ S; exact h2)⟩
theorem One.alloc {S : Nat} {w w' : World} (h : One S w w') (o : Obj) : One S w (w'.alloc o) := h.trans ⟨rfl, rfl, rfl, by simp, fun k h1 h2 => Go.Deep.blk_alloc_lt _ _ _ h1⟩
theorem One.grown {S : Nat} {w w' w'' : World} {row : Option Nat} (h : One S w w') (hg : w'.grownBy w'' row) (hr : ∀ k, row = some k → w.heap.size ≤ k) : One S w w'' :=
  ⟨hg.os.trans h.os, hg.tape.trans h.tape, hg.output.trans h.output, Nat.le_trans h.size hg.size, fun k h1 h2 => (hg.block k (by have := h.size; omega) (fun e => by have := hr k e.symm; omega)).trans (h.block k h1 h2)⟩
theorem One.cell {S : Nat} {w w' : World} (h : One S w w') {a : Addr} {v : Value} (hc : w.cell? a = some v) (h1 : a.block ≠ S) : w'.cell? a = some v := by
  rw [World.cell?_of_block (h.block _ (World.block_lt_of_cell? _ _ hc) h1)]; exact hc
theorem Gr.one {S : Nat} {w w' : World} {n : Nat} {adj : Nat → List Nat} {sb so : Nat} {A : Nat → Option Addr} {C RB RO : Nat → Nat} (h : Gr w n adj sb so A C RB RO) (ho : One S w w') (h1 : 0 < n → sb ≠ S) (h2 : ∀ i, i < n → 0 < (adj i).length → RB i ≠ S) : Gr w' n adj sb so A C RB RO :=
  ⟨fun i hi => ho.cell (h.row i hi) (h1 (by omega)), fun i hi j hj => ⟨(h.cell i hi j hj).1, ho.cell (h.cell i hi j hj).2 (h2 i hi (by omega))⟩, h.lt, h.len⟩

structure QM (S n : Nat) (w wr : World) (Q : List Nat) (sn : Nat → Bool) (qv : Value) : Prop where
  one : One S w wr
  seen : wr.rowIs S 4 n (fun i => .bool (sn i))
  q : wr.ownsRow w.heap.size 3 1 qv Q.length (ints Q)

set_option maxHeartbeats 4000000 in
theorem reach_any (adj : Nat → List Nat) (n c st S : Nat) (sb so : Nat) (A : Nat → Option Addr) (C RB RO : Nat → Nat) (w : World) (old : Nat → Bool) (hn : n ≤ 131072) (hst : st < n) (hsS : 0 < n → sb ≠ S) (hrS : ∀ i, i < n → 0 < (adj i).length → RB i ≠ S)
    (hS : Gr w n adj sb so A C RB RO) (hrow : w.rowIs S 4 n (fun i => .bool (old i))) :
    Calls Try.prog 21 #[.slice (some ⟨sb, so, none⟩) n c, .int .i64 (st : Int), .slice (some ⟨S, 0, none⟩) n n] w fun e w' =>
      e = .returned (.tuple #[]) ∧ One S w w' ∧ ∃ sn : Nat → Bool, w'.rowIs S 4 n (fun i => .bool (sn i)) ∧ ∀ x, sn x = true ↔ Reach adj st x := by
  have hSlt := hrow.lt
  have HS : Hid (∀ w', One S w w' → Gr w' n adj sb so A C RB RO) := fun w' ho => hS.one ho hsS hrS
  clear hS
  have hsz : (st : Int) < (n : Int) := by omega
  go_enter Try.func21, Try.ntmps21
  go_wp2_with fail
  go_loopg [6] n (fun g s6 wr => ∃ k : Nat, k ≤ n ∧ g = n - k ∧ s6 = .int .i64 (k : Int) ∧ One S w wr ∧ wr.heap.size = w.heap.size ∧ wr.rowIs S 4 n (fun i => .bool (if i < k then false else old i)))
  case atStart => exact ⟨0, by omega, rfl, rfl, .refl _ _, rfl, hrow.congr fun i _ => by simp⟩
  case round =>
    clear hrow
    obtain ⟨k, hk, rfl, rfl, hO, hsize, hrow⟩ := hrel
    by_cases hlt : k < n
    · have g1 := hrow.cell hlt
      have g2 := hrow.frozen k
      have hkz : (k : Int) < (n : Int) := by omega
      go_wp2_with fail
      go_roundg (n - (k + 1))
      case measure => omega
      case rel =>
        refine ⟨k + 1, by omega, rfl, by go_num, hO.set k _, by rw [Go.Deep.nblk_setCell]; exact hsize, (hrow.set k _).congr fun i _ => ?_⟩
        by_cases e : i = k
        · subst e; simp
        · by_cases h2 : i < k
          · simp [e, h2, show i < k + 1 by omega]
          · simp [e, h2, show ¬ i < k + 1 by omega]
    · obtain rfl : k = n := by omega
      have g1 := hrow.cell hst
      have g2 := hrow.frozen st
      have HM : Hid (QM S k w ((wr.setCell ⟨S, st, none⟩ (.bool true)).alloc (.cells #[.int .i64 (st : Int)] 3)) [st] (upd (fun _ => false) st true) (.slice (some ⟨wr.heap.size, 0, none⟩) 1 1)) := by
        refine ⟨(hO.set st _).alloc _, (((hrow.set st _).alloc _).congr fun i hi => ?_), ?_⟩
        · by_cases e : i = st
          · simp [e, upd]
          · simp [e, upd, hi]
        · have := World.ownsRow_lit (base := w.heap.size) (e := 3) (size := 1) (wr.setCell ⟨S, st, none⟩ (.bool true)) #[.int .i64 (st : Int)] 1 (by rw [Go.Deep.nblk_setCell]; exact Nat.le_of_eq hsize.symm) (by decide) rfl
          rw [Go.Deep.nblk_setCell] at this
          exact this
      clear hO hsize hrow
      go_wp2_with fail
      have HB : Hid (BF adj k st [st] (upd (fun _ => false) st true) 0) := BF.start hst
      obtain ⟨b0, Hb0⟩ : ∃ b, Hid (b = wr.heap.size) := ⟨_, rfl⟩
      rw [← Hb0.out]
      have HM1 : Hid (QM S k w ((wr.setCell ⟨S, st, none⟩ (.bool true)).alloc (.cells #[.int .i64 (st : Int)] 3)) [st] (upd (fun _ => false) st true) (.slice (some ⟨b0, 0, none⟩) 1 1)) := by rw [Hb0.out]; exact HM.out
      clear HM Hb0 g1 g2
      obtain ⟨i3, hi3, hz0, hz1, hz2⟩ := info_parts Try.info3
      go_loopg [7, 8] k (fun g s7 s8 wi => ∃ (i : Nat) (Q : List Nat) (sn : Nat → Bool) (b cap : Nat), i ≤ Q.length ∧ g = k - i ∧ s7 = .slice (some ⟨b, 0, none⟩) Q.length cap ∧ s8 = .int .i64 (i : Int) ∧ Hid (QM S k w wi Q sn (.slice (some ⟨b, 0, none⟩) Q.length cap)) ∧ Hid (BF adj k st Q sn i))
      case atStart => exact ⟨0, [st], _, b0, 1, by simp, rfl, rfl, rfl, HM1, HB⟩
      case round =>
        clear HM1 HB
        obtain ⟨i, Q, sn, b, cap, hiQ, rfl, rfl, rfl, HM, HB⟩ := hrel
        have hQn := HB.out.len_le
        by_cases hlt2 : i < Q.length
        · have hiz : (i : Int) < (Q.length : Int) := by omega
          obtain ⟨x, hx⟩ : ∃ x, Hid (Q[i]? = some x) := ⟨Q[i], List.getElem?_eq_getElem hlt2⟩
          have hxn : x < k := HB.out.lt x (List.mem_of_getElem? hx.out)
          have g1 : wr.cell? ⟨b, i, none⟩ = some (.int .i64 (x : Int)) := by
            rw [HM.out.q.cellAt i (by omega)]
            simp [ints, hx.out]
          have hxz : (x : Int) < (k : Int) := by omega
          have hlen := (HS.out _ HM.out.one).len x hxn
          go_wp2_with fail
          clear g1
          go_loopg [7, 10] (adj x).length (fun g s7 s10 wi => ∃ (j : Nat) (Q : List Nat) (sn : Nat → Bool) (b cap : Nat), i < Q.length ∧ j ≤ (adj x).length ∧ g = (adj x).length - j ∧ s7 = .slice (some ⟨b, 0, none⟩) Q.length cap ∧ s10 = .int .i64 (j : Int) ∧
            Hid (QM S k w wi Q sn (.slice (some ⟨b, 0, none⟩) Q.length cap)) ∧ Hid (BF adj k st Q sn i) ∧ Hid (Q[i]? = some x) ∧ Hid (∀ t, t < j → ∀ y, (adj x)[t]? = some y → sn y = true))
          case atStart => exact ⟨0, Q, sn, b, cap, hlt2, by omega, rfl, rfl, rfl, HM, HB, hx, fun t ht => absurd ht (Nat.not_lt_zero _)⟩
          case round =>
            clear HM HB hx hlt2 hiz hQn hiQ
            obtain ⟨j, Q, sn, b, cap, hlt2, hj, rfl, rfl, rfl, HM, HB, hx, HD⟩ := hrel
            have hQn := HB.out.len_le
            have hG := HS.out _ HM.out.one
            have g1 := hG.row x hxn
            by_cases hlt3 : j < (adj x).length
            · have hjz : (j : Int) < ((adj x).length : Int) := by omega
              obtain ⟨e1, g2⟩ := hG.cell x hxn j hlt3
              rw [e1] at g1
              have hget : (adj x)[j]? = some ((adj x).getD j 0) := by rw [List.getD_eq_getElem?_getD, List.getElem?_eq_getElem hlt3]; rfl
              have hyn := hG.lt x hxn _ (adj_getElem_mem hget)
              generalize (adj x).getD j 0 = y at g2 hget hyn
              have Hget : Hid ((adj x)[j]? = some y) := hget
              have hyz : (y : Int) < (k : Int) := by omega
              have g3 := HM.out.seen.cell hyn
              have g4 := HM.out.seen.frozen y
              clear e1 hget hG
              cases hsn : sn y with
              | true =>
                rw [hsn] at g3
                have HD2 : Hid (∀ t, t < j + 1 → ∀ z, (adj x)[t]? = some z → sn z = true) := fun t ht z hz => by
                  by_cases e : t = j
                  · subst e; rw [Hget.out] at hz; cases hz; exact hsn
                  · exact HD.out t (by omega) z hz
                clear hsn HD
                go_wp2_with fail
                go_roundg ((adj x).length - (j + 1))
                case measure => omega
                case rel => exact ⟨j + 1, Q, sn, b, cap, hlt2, by omega, rfl, rfl, by go_num, HM, HB, hx, HD2⟩
              | false =>
                rw [hsn] at g3
                have hgS : w.heap.size ≤ b := (HM.out.q.lt b rfl).1
                have hbS : S ≠ b := by omega
                have HB2 : Hid (BF adj k st (Q ++ [y]) (upd sn y true) i) := HB.out.push (by omega) hyn hsn ((HB.out.reach x (List.mem_of_getElem? hx.out)).trans (.arc (adj_getElem_mem Hget.out)))
                have hx2 : Hid ((Q ++ [y])[i]? = some x) := by rw [Hid, List.getElem?_append_left hlt2]; exact hx.out
                have HD2 : Hid (∀ t, t < j + 1 → ∀ z, (adj x)[t]? = some z → upd sn y true z = true) := fun t ht z hz => by
                  by_cases e : z = y
                  · subst e; rw [upd_same]
                  · rw [upd_other _ _ e]
                    exact HD.out t (by
                      by_cases e2 : t = j
                      · subst e2; rw [Hget.out] at hz; cases hz; exact absurd rfl e
                      · omega) z hz
                have hO1 : One S w (wr.setCell ⟨S, y, none⟩ (.bool true)) := HM.out.one.set y _
                have hR1 : (wr.setCell ⟨S, y, none⟩ (.bool true)).rowIs S 4 k (fun i => .bool (upd sn y true i)) := (HM.out.seen.set y _).congr fun i _ => upd_bool sn y true i
                have ho' : (wr.setCell ⟨S, y, none⟩ (.bool true)).ownsRow w.heap.size 3 1 (.slice (some ⟨b, 0, none⟩) Q.length cap) Q.length (ints Q) := HM.out.q.kept (grown_setCell _ _ _) (.inr (by show some b ≠ some S; intro e; cases e; exact hbS rfl))
                have hsz1 : w.heap.size ≤ (wr.setCell ⟨S, y, none⟩ (.bool true)).heap.size := hO1.size
                clear hsn HD HB hx HM
                go_upto_region 16 with fail
                generalize wr.setCell ⟨S, y, none⟩ (.bool true) = w1 at hO1 hR1 ho' hsz1 ⊢
                clear g1 g2 g3 g4
                go_wp2_with (at_builtin; refine wpList_append_lies _ rfl _ _ _ rfl w.heap.size 3 i3 (.int .i64 0) 1 8 Try.underlying27 hi3 hz0 hz1 hz2 rfl (by decide) _ _ _ rfl (ho'.alloc _) ⟨w1.heap.size, 0, none⟩ 1 1 [.int .i64 (y : Int)] rfl rfl (by exact cell_one_new _ _ _) (by intro u hu; simp at hu; subst hu; rfl) (by decide) (by unfold maxLen; omega) (by omega) (by simp; omega) (w1.heap.size + 1) (by simp) ?_; intro g cap2 w3 hown hgrow hat hlt; have hg3 : w1.grownBy w3 (some b) := grown_trans (World.grownBy_alloc w1 _ _) hgrow; have HM2 : Hid (QM S k w w3 (Q ++ [y]) (upd sn y true) (.slice (some ⟨g, 0, none⟩) (Q ++ [y]).length cap2)) := ⟨hO1.grown hg3 (fun t e => by cases e; exact hgS), hR1.of_block (hg3.block S (by omega) (by intro e; cases e; exact hbS rfl)), by rw [List.length_append, ints_append]; exact hown⟩; clear hown hgrow hat hlt)
                go_roundg ((adj x).length - (j + 1))
                case measure => omega
                case rel => exact ⟨j + 1, Q ++ [y], upd sn y true, g, cap2, by simp; omega, by omega, rfl, by simp, by go_num, HM2, HB2, hx2, HD2⟩
            · obtain rfl : j = (adj x).length := by omega
              have HB2 : Hid (BF adj k st Q sn (i + 1)) := HB.out.next hx.out fun y hy => by
                obtain ⟨t, ht, he⟩ := List.getElem_of_mem hy
                exact HD.out t ht y (by rw [List.getElem?_eq_getElem ht, he])
              go_wp2_with fail
              go_roundg (k - (i + 1))
              case measure => omega
              case rel => exact ⟨i + 1, Q, sn, b, cap, by omega, rfl, rfl, by go_num, HM, HB2⟩
        · obtain rfl : i = Q.length := by omega
          go_wp2_with fail
          go_end0
          exact ⟨rfl, HM.out.one, sn, HM.out.seen, HB.out.fin⟩
end Go.Proofs.Qxb6600624a
