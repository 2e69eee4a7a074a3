import Derived.WalkKit
set_option linter.unusedVariables false
set_option linter.unusedSimpArgs false
namespace Go.Proofs.Qxb6600624a

def upd {α : Type} (f : Nat → α) (v : Nat) (x : α) : Nat → α := fun i => if i = v then x else f i
theorem upd_same {α : Type} (f : Nat → α) (v : Nat) (x : α) : upd f v x v = x := by simp [upd]
theorem upd_other {α : Type} (f : Nat → α) {v i : Nat} (x : α) (h : i ≠ v) : upd f v x i = f i := by simp [upd, h]

/-- The sum of f over the numbers below n. -/
def sumTo : Nat → (Nat → Nat) → Nat
  | 0, _ => 0
  | n + 1, f => sumTo n f + f n
theorem sumTo_congr {f g : Nat → Nat} : ∀ n, (∀ i, i < n → f i = g i) → sumTo n f = sumTo n g
  | 0, _ => rfl
  | n + 1, h => by simp only [sumTo]; rw [sumTo_congr n (fun i hi => h i (by omega)), h n (by omega)]
theorem sumTo_change {f g : Nat → Nat} {v : Nat} : ∀ n, v < n → (∀ i, i ≠ v → f i = g i) → sumTo n g + f v = sumTo n f + g v
  | 0, hv, _ => absurd hv (Nat.not_lt_zero _)
  | n + 1, hv, h => by
    simp only [sumTo]
    by_cases e : v = n
    · subst e
      rw [sumTo_congr (f := f) (g := g) v (fun i hi => h i (by omega))]
      omega
    · have ih := sumTo_change (f := f) (g := g) (v := v) n (by omega) h
      rw [h n (fun e' => e e'.symm)]
      omega

/-- A segment: the node of a frame, how many of its arcs are taken, the finished nodes above it on the stack. -/
abbrev Sg := Nat × Nat × List Nat
structure TS where
  idx : Nat → Nat
  low : Nat → Nat
  comp : Nat → Nat
  ons : Nat → Bool
  segs : List Sg
  vis : Nat
  cnt : Nat
  post : Nat → Nat
  pn : Nat
def T0 : TS := ⟨fun _ => 0, fun _ => 0, fun _ => 0, fun _ => false, [], 0, 0, fun _ => 0, 0⟩
def frsOf (l : List Sg) : List (Nat × Nat) := l.map fun s => (s.1, s.2.1)
def stkOf (l : List Sg) : List Nat := l.flatMap fun s => s.1 :: s.2.2
def TS.frs (T : TS) : List (Nat × Nat) := frsOf T.segs
def TS.stk (T : TS) : List Nat := stkOf T.segs
def TS.visit (T : TS) (v : Nat) : TS := { T with idx := upd T.idx v (T.vis + 1), low := upd T.low v (T.vis + 1), ons := upd T.ons v true, segs := T.segs ++ [(v, 0, [])], vis := T.vis + 1 }
def TS.setLow (T : TS) (p m : Nat) : TS := { T with low := upd T.low p (min (T.low p) m) }
def TS.setSegs (T : TS) (l : List Sg) : TS := { T with segs := l }
def TS.fin (T : TS) (v : Nat) : TS := { T with post := upd T.post v (T.pn + 1), pn := T.pn + 1 }
def TS.popSeg (T : TS) (S : List Sg) (v : Nat) (D : List Nat) : TS :=
  { T with segs := S, comp := fun x => if x = v ∨ x ∈ D then T.cnt else T.comp x, ons := fun x => if x = v ∨ x ∈ D then false else T.ons x, cnt := T.cnt + 1 }

theorem stkOf_append (a b : List Sg) : stkOf (a ++ b) = stkOf a ++ stkOf b := by simp [stkOf]
theorem frsOf_append (a b : List Sg) : frsOf (a ++ b) = frsOf a ++ frsOf b := by simp [frsOf]
theorem stkOf_one (v k : Nat) (D : List Nat) : stkOf [(v, k, D)] = v :: D := by simp [stkOf]
theorem mem_stkOf {l : List Sg} {x : Nat} : x ∈ stkOf l ↔ ∃ s ∈ l, x = s.1 ∨ x ∈ s.2.2 := by simp [stkOf]
theorem node_mem {l : List Sg} {s : Sg} (h : s ∈ l) : s.1 ∈ stkOf l := mem_stkOf.2 ⟨s, h, .inl rfl⟩

/-- An arc w -> x that has been taken, w a node of segment s. -/
def Expl (adj : Nat → List Nat) (s : Sg) (w x : Nat) : Prop := (w = s.1 ∧ x ∈ (adj s.1).take s.2.1) ∨ (w ∈ s.2.2 ∧ x ∈ adj w)

structure Inv (adj : Nat → List Nat) (n r : Nat) (T : TS) : Prop where
  seg : ∀ s ∈ T.segs, s.2.1 ≤ (adj s.1).length
  mem : ∀ x, x ∈ T.stk ↔ T.ons x = true
  inc : T.stk.Pairwise (fun a b => T.idx a < T.idx b)
  lt : ∀ x, T.idx x ≠ 0 → x < n
  seen : ∀ x, T.ons x = true → T.idx x ≠ 0
  le : ∀ x, T.idx x ≤ T.vis
  count : T.vis + sumTo n (fun x => if T.idx x = 0 then 1 else 0) = n
  low1 : ∀ s ∈ T.segs, T.low s.1 ≤ T.idx s.1
  low2 : ∀ s0 : Sg, T.segs.head? = some s0 → ∀ s ∈ T.segs, T.idx s0.1 ≤ T.low s.1
  expl : ∀ s ∈ T.segs, ∀ w x, Expl adj s w x → T.idx x ≠ 0 ∧ (T.ons x = true → T.low s.1 ≤ T.idx x)
  done : ∀ x, T.idx x ≠ 0 → T.ons x = false → T.comp x < T.cnt ∧ ∀ y ∈ adj x, T.idx y ≠ 0 ∧ T.ons y = false ∧ T.comp y ≤ T.comp x
  used : ∀ c, c < T.cnt → ∃ x, T.idx x ≠ 0 ∧ T.ons x = false ∧ T.comp x = c
  cnt : T.cnt + T.stk.length ≤ T.vis
  roots : ∀ x, x < r → T.idx x ≠ 0

section
variable {adj : Nat → List Nat} {n r : Nat} {T : TS}
theorem sumTo_one (n : Nat) : sumTo n (fun _ => 1) = n := by
  induction n with
  | zero => rfl
  | succ n ih => simp only [sumTo]; omega
theorem inv_zero (adj : Nat → List Nat) (n : Nat) : Inv adj n 0 T0 := by
  refine ⟨fun s h => absurd h (by simp [T0]), fun x => by simp [T0, TS.stk, stkOf], by simp [T0, TS.stk, stkOf], fun x h => absurd rfl h, fun x h => by simp [T0] at h, fun x => Nat.le_refl _, ?_, fun s h => absurd h (by simp [T0]),
    fun s0 h0 s h => absurd h (by simp [T0]), fun s h => absurd h (by simp [T0]), fun x h => absurd rfl h, fun c h => absurd h (Nat.not_lt_zero _), by simp [T0, TS.stk, stkOf], fun x h => absurd h (Nat.not_lt_zero _)⟩
  show 0 + sumTo n (fun x => if (0 : Nat) = 0 then 1 else 0) = n
  simp [sumTo_one]

theorem Inv.vis_le (h : Inv adj n r T) : T.vis ≤ n := by have := h.count; omega
theorem Inv.stk_le (h : Inv adj n r T) : T.stk.length ≤ n := by have := h.cnt; have := h.vis_le; omega
theorem Inv.cnt_le (h : Inv adj n r T) : T.cnt ≤ n := by have := h.cnt; have := h.vis_le; omega
theorem frs_len (T : TS) : T.frs.length = T.segs.length := by simp [TS.frs, frsOf]
theorem segs_le (l : List Sg) : l.length ≤ (stkOf l).length := by
  induction l with
  | nil => simp [stkOf]
  | cons s l ih =>
    have e : stkOf (s :: l) = (s.1 :: s.2.2) ++ stkOf l := by simp [stkOf]
    rw [e, List.length_append]
    simp only [List.length_cons]
    omega
theorem Inv.frs_le (h : Inv adj n r T) : T.frs.length ≤ n := by
  rw [frs_len]; have := segs_le T.segs; have := h.stk_le; unfold TS.stk at this; omega
theorem Inv.mem_lt (h : Inv adj n r T) {x : Nat} (hx : x ∈ T.stk) : x < n := h.lt x (h.seen x ((h.mem x).1 hx))
theorem Inv.node_ons (h : Inv adj n r T) {s : Sg} (hs : s ∈ T.segs) : T.ons s.1 = true := (h.mem _).1 (node_mem hs)
theorem Inv.node_lt (h : Inv adj n r T) {s : Sg} (hs : s ∈ T.segs) : s.1 < n := h.mem_lt (node_mem hs)

/-- Only what is said of post and pn has turned. -/
theorem Inv.fin (h : Inv adj n r T) (v : Nat) : Inv adj n r (T.fin v) := ⟨h.seg, h.mem, h.inc, h.lt, h.seen, h.le, h.count, h.low1, h.low2, h.expl, h.done, h.used, h.cnt, h.roots⟩

/-- A node is visited. -/
theorem Inv.visit (h : Inv adj n r T) {x : Nat} (hx : x < n) (h0 : T.idx x = 0) : Inv adj n r (T.visit x) := by
  have hons : T.ons x = false := by
    cases e : T.ons x with
    | false => rfl
    | true => exact absurd h0 (h.seen x e)
  have hnm : x ∉ T.stk := fun hm => by have := (h.mem x).1 hm; rw [hons] at this; cases this
  have hstk : (T.visit x).stk = T.stk ++ [x] := by simp [TS.stk, TS.visit, stkOf]
  have hid : ∀ y, y ≠ x → (T.visit x).idx y = T.idx y := fun y hy => upd_other _ _ hy
  have hidx : (T.visit x).idx x = T.vis + 1 := upd_same _ _ _
  have hne : ∀ y, T.idx y ≠ 0 → y ≠ x := fun y hy e => hy (by rw [e]; exact h0)
  have hsne : ∀ s ∈ T.segs, s.1 ≠ x := fun s hs e => hnm (by rw [← e]; exact node_mem hs)
  have hlow : ∀ y, y ≠ x → (T.visit x).low y = T.low y := fun y hy => upd_other _ _ hy
  have hlowx : (T.visit x).low x = T.vis + 1 := upd_same _ _ _
  have hon : ∀ y, y ≠ x → (T.visit x).ons y = T.ons y := fun y hy => upd_other _ _ hy
  have honx : (T.visit x).ons x = true := upd_same _ _ _
  have hmemS : ∀ s : Sg, s ∈ (T.visit x).segs → s ∈ T.segs ∨ s = (x, 0, []) := fun s hs => by
    have : s ∈ T.segs ++ [(x, 0, [])] := hs
    simpa using this
  refine ⟨fun s hs => ?_, fun y => ?_, ?_, fun y hy => ?_, fun y hy => ?_, fun y => ?_, ?_, fun s hs => ?_, fun s0 h00 s hs => ?_, fun s hs w y he => ?_, fun y hy ho => ?_, fun c hc => ?_, ?_, fun y hy => ?_⟩
  · rcases hmemS s hs with hs | rfl
    · exact h.seg s hs
    · exact Nat.zero_le _
  · rw [hstk, List.mem_append, List.mem_singleton, h.mem y]
    by_cases e : y = x
    · subst e; simp [honx]
    · rw [hon y e]; simp [e]
  · rw [hstk, List.pairwise_append]
    refine ⟨?_, List.pairwise_singleton _ _, fun a ha b hb => ?_⟩
    · refine h.inc.imp_of_mem fun ha hb hab => ?_
      rw [hid _ (fun e => hnm (e ▸ ha)), hid _ (fun e => hnm (e ▸ hb))]
      exact hab
    · rw [List.mem_singleton] at hb
      subst hb
      rw [hid _ (fun e => hnm (e ▸ ha)), hidx]
      have := h.le a
      omega
  · by_cases e : y = x
    · subst e; exact hx
    · rw [hid y e] at hy; exact h.lt y hy
  · by_cases e : y = x
    · subst e; rw [hidx]; omega
    · rw [hon y e] at hy
      rw [hid y e]; exact h.seen y hy
  · show _ ≤ T.vis + 1
    by_cases e : y = x
    · subst e; rw [hidx]; exact Nat.le_refl _
    · rw [hid y e]; have := h.le y; omega
  · show T.vis + 1 + sumTo n (fun y => if (T.visit x).idx y = 0 then 1 else 0) = n
    have hc := sumTo_change (f := fun y => if T.idx y = 0 then 1 else 0) (g := fun y => if (T.visit x).idx y = 0 then 1 else 0) (v := x) n hx (fun i hi => by simp only [hid i hi])
    simp only [hidx, h0] at hc
    simp at hc
    have := h.count
    omega
  · rcases hmemS s hs with hs | rfl
    · rw [hlow _ (hsne s hs), hid _ (hsne s hs)]; exact h.low1 s hs
    · show (T.visit x).low x ≤ (T.visit x).idx x
      rw [hlowx, hidx]; exact Nat.le_refl _
  · have h00' : (T.segs ++ [(x, 0, [])]).head? = some s0 := h00
    cases hsg : T.segs with
    | nil =>
      rw [hsg] at h00'
      simp at h00'
      subst h00'
      rcases hmemS s hs with hs | rfl
      · rw [hsg] at hs; cases hs
      · show (T.visit x).idx x ≤ (T.visit x).low x
        rw [hlowx, hidx]; exact Nat.le_refl _
    | cons s1 l =>
      have hh : T.segs.head? = some s0 := by rw [hsg] at h00' ⊢; simpa using h00'
      have hs0 : s0 ∈ T.segs := by rw [hsg] at hh ⊢; simp at hh; simp [hh]
      rw [hid _ (hsne s0 hs0)]
      rcases hmemS s hs with hs | rfl
      · rw [hlow _ (hsne s hs)]; exact h.low2 s0 hh s hs
      · show _ ≤ (T.visit x).low x
        rw [hlowx]; have := h.le s0.1; omega
  · rcases hmemS s hs with hs | rfl
    · have he1 := h.expl s hs w y he
      have hy : y ≠ x := hne y he1.1
      rw [hid y hy, hon y hy, hlow _ (hsne s hs)]
      exact he1
    · rcases he with ⟨_, h1⟩ | ⟨h1, _⟩
      · simp at h1
      · cases h1
  · have hyx : y ≠ x := fun e => by subst e; rw [honx] at ho; cases ho
    rw [hid y hyx] at hy
    rw [hon y hyx] at ho
    have hd := h.done y hy ho
    refine ⟨hd.1, fun z hz => ?_⟩
    have h1 := hd.2 z hz
    have hzx := hne z h1.1
    rw [hid z hzx, hon z hzx]
    exact h1
  · obtain ⟨y, h1, h2, h3⟩ := h.used c hc
    have hyx := hne y h1
    exact ⟨y, by rw [hid y hyx]; exact h1, by rw [hon y hyx]; exact h2, h3⟩
  · rw [hstk, List.length_append]
    have := h.cnt
    show T.cnt + (T.stk.length + 1) ≤ T.vis + 1
    omega
  · have h1 := h.roots y hy
    rw [hid y (hne y h1)]; exact h1

/-- low of a segment's node is lowered, not below the bottom's index. -/
theorem Inv.setLow (h : Inv adj n r T) {p m : Nat} (hm : ∀ s0 : Sg, T.segs.head? = some s0 → T.idx s0.1 ≤ m) : Inv adj n r (T.setLow p m) := by
  have hlow : ∀ y, (T.setLow p m).low y ≤ T.low y := fun y => by
    show upd T.low p (min (T.low p) m) y ≤ _
    by_cases e : y = p
    · subst e; rw [upd_same]; omega
    · rw [upd_other _ _ e]; exact Nat.le_refl _
  refine ⟨h.seg, h.mem, h.inc, h.lt, h.seen, h.le, h.count, fun s hs => Nat.le_trans (hlow _) (h.low1 s hs), fun s0 h0 s hs => ?_, fun s hs w x he => ⟨(h.expl s hs w x he).1, fun ho => Nat.le_trans (hlow _) ((h.expl s hs w x he).2 ho)⟩, h.done, h.used, h.cnt, h.roots⟩
  have h1 := h.low2 s0 h0 s hs
  have h2 := hm s0 h0
  show T.idx s0.1 ≤ upd T.low p (min (T.low p) m) s.1
  by_cases e : s.1 = p
  · rw [e, upd_same]
    rw [e] at h1
    omega
  · rw [upd_other _ _ e]; exact h1

theorem stkOf_adv (S R : List Sg) (v k k' : Nat) (D : List Nat) : stkOf (S ++ (v, k', D) :: R) = stkOf (S ++ (v, k, D) :: R) := by simp [stkOf]
theorem head_adv (S R : List Sg) (v k k' : Nat) (D : List Nat) (s0 : Sg) (h : (S ++ (v, k', D) :: R).head? = some s0) : ∃ s1 : Sg, (S ++ (v, k, D) :: R).head? = some s1 ∧ s1.1 = s0.1 := by
  cases S with
  | nil => simp at h; subst h; exact ⟨(v, k, D), by simp, rfl⟩
  | cons a S => simp at h; subst h; exact ⟨a, by simp, rfl⟩

/-- One arc more of a segment's node is taken. -/
theorem Inv.adv (h : Inv adj n r T) {S R : List Sg} {v k x : Nat} {D : List Nat} (hs : T.segs = S ++ (v, k, D) :: R) (hx : (adj v)[k]? = some x) (h0 : T.idx x ≠ 0) (h1 : T.ons x = true → T.low v ≤ T.idx x) :
    Inv adj n r (T.setSegs (S ++ (v, k + 1, D) :: R)) := by
  have hstk : (T.setSegs (S ++ (v, k + 1, D) :: R)).stk = T.stk := by show stkOf _ = stkOf _; rw [hs]; exact stkOf_adv S R v k (k + 1) D
  have hmem : ∀ s : Sg, s ∈ S ++ (v, k + 1, D) :: R → s = (v, k + 1, D) ∨ s ∈ T.segs := fun s h' => by
    rw [hs]
    simp only [List.mem_append, List.mem_cons] at h' ⊢
    rcases h' with h' | h' | h'
    · exact .inr (.inl h')
    · exact .inl h'
    · exact .inr (.inr (.inr h'))
  have hold : (v, k, D) ∈ T.segs := by rw [hs]; simp
  refine ⟨fun s h' => ?_, fun y => by rw [hstk]; exact h.mem y, by rw [hstk]; exact h.inc, h.lt, h.seen, h.le, h.count, fun s h' => ?_, fun s0 h00 s h' => ?_, fun s h' w y he => ?_, h.done, h.used, by rw [hstk]; exact h.cnt, h.roots⟩
  · rcases hmem s h' with rfl | h'
    · have := (List.getElem?_eq_some_iff.1 hx).1
      exact this
    · exact h.seg s h'
  · rcases hmem s h' with rfl | h'
    · exact h.low1 (v, k, D) hold
    · exact h.low1 s h'
  · obtain ⟨s1, e1, e2⟩ := head_adv S R v k (k + 1) D s0 h00
    rw [← hs] at e1
    show T.idx s0.1 ≤ T.low s.1
    rw [← e2]
    rcases hmem s h' with rfl | h'
    · exact h.low2 s1 e1 (v, k, D) hold
    · exact h.low2 s1 e1 s h'
  · rcases hmem s h' with rfl | h'
    · rcases he with ⟨rfl, hy⟩ | ⟨hw, hy⟩
      · rw [List.take_add_one] at hy
        simp only [hx, Option.toList_some, List.mem_append, List.mem_singleton] at hy
        rcases hy with hy | rfl
        · exact h.expl (w, k, D) hold _ y (.inl ⟨rfl, hy⟩)
        · exact ⟨h0, h1⟩
      · exact h.expl (v, k, D) hold w y (.inr ⟨hw, hy⟩)
    · exact h.expl s h' w y he

/-- The top segment is popped: its node's low is its index. -/
theorem Inv.pop (h : Inv adj n r T) {S : List Sg} {v k : Nat} {D : List Nat} (hs : T.segs = S ++ [(v, k, D)]) (hk : k = (adj v).length) (hr : T.low v = T.idx v) : Inv adj n r (T.popSeg S v D) := by
  have hstk : T.stk = stkOf S ++ (v :: D) := by show stkOf T.segs = _; rw [hs, stkOf_append, stkOf_one]
  have hstk' : (T.popSeg S v D).stk = stkOf S := rfl
  have hinc := h.inc
  rw [hstk, List.pairwise_append] at hinc
  obtain ⟨i1, i2, i3⟩ := hinc
  have hold : (v, k, D) ∈ T.segs := by rw [hs]; simp
  have hvD : ∀ y ∈ D, T.idx v < T.idx y := (List.pairwise_cons.1 i2).1
  have hS : ∀ y ∈ stkOf S, ¬ (y = v ∨ y ∈ D) := fun y hy h' => by
    have := i3 y hy y (by rcases h' with rfl | h' <;> simp [*])
    omega
  have hin : ∀ y, (y = v ∨ y ∈ D) → T.ons y = true ∧ T.idx v ≤ T.idx y := fun y h' => by
    refine ⟨(h.mem y).1 (by rw [hstk]; rcases h' with rfl | h' <;> simp [*]), ?_⟩
    rcases h' with rfl | h'
    · exact Nat.le_refl _
    · exact Nat.le_of_lt (hvD y h')
  have hons : ∀ y, (T.popSeg S v D).ons y = if y = v ∨ y ∈ D then false else T.ons y := fun _ => rfl
  have hcomp : ∀ y, (T.popSeg S v D).comp y = if y = v ∨ y ∈ D then T.cnt else T.comp y := fun _ => rfl
  have hexp : ∀ w y, (w = v ∨ w ∈ D) → y ∈ adj w → T.idx y ≠ 0 ∧ (T.ons y = true → y = v ∨ y ∈ D) := fun w y hw hy => by
    have he : Expl adj (v, k, D) w y := by
      rcases hw with rfl | hw
      · exact .inl ⟨rfl, by show y ∈ (adj w).take k; rw [hk, List.take_length]; exact hy⟩
      · exact .inr ⟨hw, hy⟩
    have h1 := h.expl _ hold w y he
    refine ⟨h1.1, fun ho => ?_⟩
    have h2 : T.idx v ≤ T.idx y := by have := h1.2 ho; rw [← hr]; exact this
    have hm := (h.mem y).2 ho
    rw [hstk, List.mem_append] at hm
    rcases hm with hm | hm
    · have := i3 y hm v (by simp); omega
    · simpa using hm
  refine ⟨fun s h' => h.seg s (by rw [hs]; simp; exact .inl h'), fun y => ?_, i1, h.lt, fun y hy => ?_, h.le, h.count, fun s h' => h.low1 s (by rw [hs]; simp; exact .inl h'), fun s0 h0 s h' => ?_, fun s h' w y he => ?_, fun y hy ho => ?_, fun c hc => ?_, ?_, h.roots⟩
  · rw [hstk', hons]
    constructor
    · intro hy
      rw [if_neg (hS y hy)]
      exact (h.mem y).1 (by rw [hstk]; simp [hy])
    · intro hy
      by_cases e : y = v ∨ y ∈ D
      · rw [if_pos e] at hy; cases hy
      · rw [if_neg e] at hy
        have := (h.mem y).2 hy
        rw [hstk, List.mem_append] at this
        rcases this with h1 | h1
        · exact h1
        · exact absurd (by simpa using h1) e
  · rw [hons] at hy
    by_cases e : y = v ∨ y ∈ D
    · rw [if_pos e] at hy; cases hy
    · rw [if_neg e] at hy; exact h.seen y hy
  · have h0' : S.head? = some s0 := h0
    refine h.low2 s0 ?_ s (by rw [hs]; simp; exact .inl h')
    rw [hs]
    cases S with
    | nil => simp at h0'
    | cons a S => simpa using h0'
  · have h1 := h.expl s (by rw [hs]; simp; exact .inl h') w y he
    refine ⟨h1.1, fun ho => ?_⟩
    rw [hons] at ho
    by_cases e : y = v ∨ y ∈ D
    · rw [if_pos e] at ho; cases ho
    · rw [if_neg e] at ho; exact h1.2 ho
  · rw [hons] at ho
    rw [hcomp]
    by_cases e : y = v ∨ y ∈ D
    · rw [if_pos e]
      refine ⟨Nat.lt_succ_self _, fun z hz => ?_⟩
      have h1 := hexp y z e hz
      refine ⟨h1.1, ?_, ?_⟩
      · rw [hons]
        by_cases e2 : z = v ∨ z ∈ D
        · rw [if_pos e2]
        · rw [if_neg e2]
          cases e3 : T.ons z with
          | false => rfl
          | true => exact absurd (h1.2 e3) e2
      · rw [hcomp]
        by_cases e2 : z = v ∨ z ∈ D
        · rw [if_pos e2]; exact Nat.le_refl _
        · rw [if_neg e2]
          have e3 : T.ons z = false := by
            cases e3 : T.ons z with
            | false => rfl
            | true => exact absurd (h1.2 e3) e2
          exact Nat.le_of_lt (h.done z h1.1 e3).1
    · rw [if_neg e] at ho
      rw [if_neg e]
      have h1 := h.done y hy ho
      refine ⟨Nat.lt_succ_of_lt h1.1, fun z hz => ?_⟩
      have h2 := h1.2 z hz
      have e2 : ¬ (z = v ∨ z ∈ D) := fun e2 => by have := (hin z e2).1; rw [h2.2.1] at this; cases this
      rw [hons, hcomp, if_neg e2, if_neg e2]
      exact h2
  · have hc' : c < T.cnt + 1 := hc
    by_cases e : c = T.cnt
    · refine ⟨v, h.seen v (h.node_ons hold), ?_, ?_⟩
      · rw [hons, if_pos (.inl rfl)]
      · rw [hcomp, if_pos (.inl rfl)]; exact e.symm
    · obtain ⟨y, h1, h2, h3⟩ := h.used c (by omega)
      have e2 : ¬ (y = v ∨ y ∈ D) := fun e2 => by have := (hin y e2).1; rw [h2] at this; cases this
      exact ⟨y, h1, by rw [hons, if_neg e2]; exact h2, by rw [hcomp, if_neg e2]; exact h3⟩
  · have h1 := h.cnt
    rw [hstk, List.length_append, List.length_cons] at h1
    rw [hstk']
    show T.cnt + 1 + (stkOf S).length ≤ T.vis
    omega

/-- The top segment is joined to the one below it. -/
theorem Inv.join (h : Inv adj n r T) {S : List Sg} {p kp v k : Nat} {Dp D : List Nat} (hs : T.segs = S ++ [(p, kp, Dp), (v, k, D)]) (hk : k = (adj v).length) (hl : T.low p ≤ T.low v) : Inv adj n r (T.setSegs (S ++ [(p, kp, Dp ++ v :: D)])) := by
  have hstk : (T.setSegs (S ++ [(p, kp, Dp ++ v :: D)])).stk = T.stk := by show stkOf (S ++ [(p, kp, Dp ++ v :: D)]) = stkOf T.segs; rw [hs]; simp [stkOf]
  have hp : (p, kp, Dp) ∈ T.segs := by rw [hs]; simp
  have hv : (v, k, D) ∈ T.segs := by rw [hs]; simp
  have hmem : ∀ s : Sg, s ∈ S ++ [(p, kp, Dp ++ v :: D)] → s = (p, kp, Dp ++ v :: D) ∨ s ∈ T.segs := fun s h' => by
    rw [hs]
    simp only [List.mem_append, List.mem_singleton] at h'
    rcases h' with h' | h'
    · exact .inr (by simp [h'])
    · exact .inl h'
  refine ⟨fun s h' => ?_, fun y => by rw [hstk]; exact h.mem y, by rw [hstk]; exact h.inc, h.lt, h.seen, h.le, h.count, fun s h' => ?_, fun s0 h00 s h' => ?_, fun s h' w y he => ?_, h.done, h.used, by rw [hstk]; exact h.cnt, h.roots⟩
  · rcases hmem s h' with rfl | h'
    · exact h.seg (p, kp, Dp) hp
    · exact h.seg s h'
  · rcases hmem s h' with rfl | h'
    · exact h.low1 (p, kp, Dp) hp
    · exact h.low1 s h'
  · have hh : ∃ s1 : Sg, T.segs.head? = some s1 ∧ s1.1 = s0.1 := by
      have h00' : (S ++ [(p, kp, Dp ++ v :: D)]).head? = some s0 := h00
      rw [hs]
      cases S with
      | nil => simp at h00'; subst h00'; exact ⟨(p, kp, Dp), by simp, rfl⟩
      | cons a S => simp at h00'; subst h00'; exact ⟨a, by simp, rfl⟩
    obtain ⟨s1, e1, e2⟩ := hh
    show T.idx s0.1 ≤ T.low s.1
    rw [← e2]
    rcases hmem s h' with rfl | h'
    · exact h.low2 s1 e1 (p, kp, Dp) hp
    · exact h.low2 s1 e1 s h'
  · rcases hmem s h' with rfl | h'
    · rcases he with ⟨rfl, hy⟩ | ⟨hw, hy⟩
      · exact h.expl (w, kp, Dp) hp _ y (.inl ⟨rfl, hy⟩)
      · have hw' : w ∈ Dp ∨ w = v ∨ w ∈ D := by simpa using hw
        rcases hw' with hw' | hw' | hw'
        · exact h.expl (p, kp, Dp) hp w y (.inr ⟨hw', hy⟩)
        · subst hw'
          have h1 := h.expl (w, k, D) hv w y (.inl ⟨rfl, by show y ∈ (adj w).take k; rw [hk, List.take_length]; exact hy⟩)
          exact ⟨h1.1, fun ho => Nat.le_trans hl (h1.2 ho)⟩
        · have h1 := h.expl (v, k, D) hv w y (.inr ⟨hw', hy⟩)
          exact ⟨h1.1, fun ho => Nat.le_trans hl (h1.2 ho)⟩
    · exact h.expl s h' w y he
end
end Go.Proofs.Qxb6600624a
