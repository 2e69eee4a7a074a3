import Derived.Test.Qxb6600624aTW
set_option linter.unusedVariables false
set_option linter.unusedSimpArgs false
namespace Go.Proofs.Qxb6600624a

/-- What a property of the search's states owes to be kept by every step. -/
structure Keeps (adj : Nat → List Nat) (n : Nat) (I : Nat → TS → Prop) : Prop where
  inv : ∀ r T, I r T → Inv adj n r T
  start : I 0 T0
  skip : ∀ r T, I r T → r < n → T.segs = [] → T.idx r ≠ 0 → I (r + 1) T
  root : ∀ r T, I r T → r < n → T.segs = [] → T.idx r = 0 → I r (T.visit r)
  n1 : ∀ r T (S : List Sg) v k D x, I r T → T.segs = S ++ [(v, k, D)] → (adj v)[k]? = some x → T.idx x = 0 → I r ((T.visit x).setSegs (S ++ [(v, k + 1, D), (x, 0, [])]))
  n2 : ∀ r T (S : List Sg) v k D x, I r T → T.segs = S ++ [(v, k, D)] → (adj v)[k]? = some x → T.idx x ≠ 0 → T.ons x = true → I r ((T.setLow v (T.idx x)).setSegs (S ++ [(v, k + 1, D)]))
  n3 : ∀ r T (S : List Sg) v k D x, I r T → T.segs = S ++ [(v, k, D)] → (adj v)[k]? = some x → T.idx x ≠ 0 → T.ons x = false → I r (T.setSegs (S ++ [(v, k + 1, D)]))
  pop0 : ∀ r T v k D, I r T → T.segs = [(v, k, D)] → k = (adj v).length → T.low v = T.idx v → I r ((T.fin v).popSeg [] v D)
  pop1 : ∀ r T (S : List Sg) p kp Dp v k D, I r T → T.segs = S ++ [(p, kp, Dp), (v, k, D)] → k = (adj v).length → T.low v = T.idx v → I r (((T.fin v).setLow p (T.low v)).popSeg (S ++ [(p, kp, Dp)]) v D)
  join : ∀ r T (S : List Sg) p kp Dp v k D, I r T → T.segs = S ++ [(p, kp, Dp), (v, k, D)] → k = (adj v).length → T.low v ≠ T.idx v → I r (((T.fin v).setLow p (T.low v)).setSegs (S ++ [(p, kp, Dp ++ v :: D)]))

theorem Inv.head_le {adj : Nat → List Nat} {n r : Nat} {T : TS} (h : Inv adj n r T) {x : Nat} (hx : T.ons x = true) : ∀ s0 : Sg, T.segs.head? = some s0 → T.idx s0.1 ≤ T.idx x := by
  intro s0 h0
  have hm := (h.mem x).2 hx
  cases hsg : T.segs with
  | nil => rw [hsg] at h0; simp at h0
  | cons a l =>
    rw [hsg] at h0
    simp at h0
    subst h0
    have hi := h.inc
    have e : T.stk = a.1 :: (a.2.2 ++ stkOf l) := by unfold TS.stk; rw [hsg]; simp [stkOf]
    rw [e] at hi hm
    rw [List.pairwise_cons] at hi
    rcases List.mem_cons.1 hm with rfl | hm
    · exact Nat.le_refl _
    · exact Nat.le_of_lt (hi.1 x hm)

theorem stkOf_two (S : List Sg) (p kp v k : Nat) (Dp D : List Nat) : stkOf (S ++ [(p, kp, Dp), (v, k, D)]) = stkOf S ++ p :: (Dp ++ v :: D) := by simp [stkOf]
theorem Inv.two_lt {adj : Nat → List Nat} {n r : Nat} {T : TS} (h : Inv adj n r T) {S : List Sg} {p kp v k : Nat} {Dp D : List Nat} (hs : T.segs = S ++ [(p, kp, Dp), (v, k, D)]) : T.idx p < T.idx v := by
  have hi := h.inc
  unfold TS.stk at hi
  rw [hs, stkOf_two, List.pairwise_append, List.pairwise_cons] at hi
  exact hi.2.1.1 v (by simp)
theorem adj_getElem_mem {l : List Nat} {k x : Nat} (h : l[k]? = some x) : x ∈ l := List.mem_of_getElem? h

/-- The plain invariant is kept. -/
theorem keeps_inv (adj : Nat → List Nat) (n : Nat) (hadj : ∀ v, v < n → ∀ x ∈ adj v, x < n) : Keeps adj n (Inv adj n) := by
  refine ⟨fun _ _ h => h, inv_zero adj n, fun r T h hr hs hi => ?_, fun r T h hr hs hi => h.visit hr hi, fun r T S v k D x h hs hx hi => ?_, fun r T S v k D x h hs hx hi ho => ?_, fun r T S v k D x h hs hx hi ho => ?_, fun r T v k D h hs hk hl => ?_,
    fun r T S p kp Dp v k D h hs hk hl => ?_, fun r T S p kp Dp v k D h hs hk hl => ?_⟩
  · exact ⟨h.seg, h.mem, h.inc, h.lt, h.seen, h.le, h.count, h.low1, h.low2, h.expl, h.done, h.used, h.cnt, fun x hx => by
      by_cases e : x = r
      · subst e; exact hi
      · exact h.roots x (by omega)⟩
  · have hv : (v, k, D) ∈ T.segs := by rw [hs]; simp
    have hvn := h.node_lt hv
    have hxn := hadj v hvn x (adj_getElem_mem hx)
    have h1 := h.visit hxn hi
    have e : (T.visit x).segs = S ++ (v, k, D) :: [(x, 0, [])] := by show T.segs ++ _ = _; rw [hs]; simp
    refine h1.adv e hx ?_ fun _ => ?_
    · show upd T.idx x (T.vis + 1) x ≠ 0; rw [upd_same]; omega
    · have hvx : v ≠ x := fun e => by have := h.seen v (h.node_ons hv); rw [e] at this; exact this hi
      show upd T.low x (T.vis + 1) v ≤ upd T.idx x (T.vis + 1) x
      rw [upd_same, upd_other _ _ hvx]
      have h2 : T.low v ≤ T.idx v := h.low1 _ hv
      have := h.le v
      omega
  · have h1 := h.setLow (p := v) (m := T.idx x) (h.head_le ho)
    refine h1.adv (R := []) (by exact hs) hx hi fun _ => ?_
    show upd T.low v (min (T.low v) (T.idx x)) v ≤ T.idx x
    rw [upd_same]; omega
  · exact h.adv (R := []) hs hx hi (fun h' => by rw [ho] at h'; cases h')
  · exact (h.fin v).pop (S := []) hs hk hl
  · have hv : (v, k, D) ∈ T.segs := by rw [hs]; simp
    have hp : (p, kp, Dp) ∈ T.segs := by rw [hs]; simp
    have h1 := (h.fin v).setLow (p := p) (m := T.low v) (fun s0 h0 => h.low2 s0 h0 (v, k, D) hv)
    have hpv : v ≠ p := fun e => by have := h.two_lt hs; rw [e] at this; exact Nat.lt_irrefl _ this
    refine h1.pop (S := S ++ [(p, kp, Dp)]) (by show T.segs = _; rw [hs]; simp) hk ?_
    show upd T.low p _ v = T.idx v
    rw [upd_other _ _ hpv]; exact hl
  · have hv : (v, k, D) ∈ T.segs := by rw [hs]; simp
    have h1 := (h.fin v).setLow (p := p) (m := T.low v) (fun s0 h0 => h.low2 s0 h0 (v, k, D) hv)
    have hpv : v ≠ p := fun e => by have := h.two_lt hs; rw [e] at this; exact Nat.lt_irrefl _ this
    refine h1.join (by exact hs) hk ?_
    show upd T.low p _ p ≤ upd T.low p _ v
    rw [upd_same, upd_other _ _ hpv]
    show min _ (T.low v) ≤ T.low v
    omega

def segsum (adj : Nat → List Nat) (l : List Sg) : Nat := (l.map fun s => (adj s.1).length - s.2.1 + 1).sum
/-- How many rounds are still to come, at most. -/
def mu (adj : Nat → List Nat) (n : Nat) (T : TS) : Nat := sumTo n (fun x => if T.idx x = 0 then (adj x).length + 2 else 0) + segsum adj T.segs
theorem segsum_append (adj : Nat → List Nat) (a b : List Sg) : segsum adj (a ++ b) = segsum adj a + segsum adj b := by simp [segsum]
theorem segsum_cons (adj : Nat → List Nat) (v k : Nat) (D : List Nat) (b : List Sg) : segsum adj ((v, k, D) :: b) = (adj v).length - k + 1 + segsum adj b := by simp [segsum]
theorem segsum_nil (adj : Nat → List Nat) : segsum adj [] = 0 := rfl

section
variable {adj : Nat → List Nat} {n : Nat} {T : TS} {S : List Sg} {v k p kp x : Nat} {D Dp : List Nat}
theorem mu_n1 (hs : T.segs = S ++ [(v, k, D)]) (hk : k < (adj v).length) (hx : x < n) (hi : T.idx x = 0) : mu adj n ((T.visit x).setSegs (S ++ [(v, k + 1, D), (x, 0, [])])) < mu adj n T := by
  have hc := sumTo_change (f := fun y => if T.idx y = 0 then (adj y).length + 2 else 0) (g := fun y => if (T.visit x).idx y = 0 then (adj y).length + 2 else 0) (v := x) n hx (fun i hi' => by
    have : (T.visit x).idx i = T.idx i := upd_other _ _ hi'
    simp only [this])
  have e1 : (T.visit x).idx x = T.vis + 1 := upd_same _ _ _
  simp only [e1, hi] at hc
  simp at hc
  have e2 : mu adj n ((T.visit x).setSegs (S ++ [(v, k + 1, D), (x, 0, [])])) = sumTo n (fun y => if (T.visit x).idx y = 0 then (adj y).length + 2 else 0) + segsum adj (S ++ [(v, k + 1, D), (x, 0, [])]) := rfl
  have e3 : mu adj n T = sumTo n (fun y => if T.idx y = 0 then (adj y).length + 2 else 0) + segsum adj T.segs := rfl
  rw [e2, e3, hs, segsum_append, segsum_append, segsum_cons, segsum_cons, segsum_cons, segsum_nil]
  omega
theorem mu_adv (m : Nat) (hs : T.segs = S ++ [(v, k, D)]) (hk : k < (adj v).length) : mu adj n (T.setSegs (S ++ [(v, k + 1, D)])) < mu adj n T := by
  have e2 : mu adj n (T.setSegs (S ++ [(v, k + 1, D)])) = sumTo n (fun y => if T.idx y = 0 then (adj y).length + 2 else 0) + segsum adj (S ++ [(v, k + 1, D)]) := rfl
  have e3 : mu adj n T = sumTo n (fun y => if T.idx y = 0 then (adj y).length + 2 else 0) + segsum adj T.segs := rfl
  rw [e2, e3, hs, segsum_append, segsum_append, segsum_cons, segsum_cons, segsum_nil]
  omega
theorem mu_pop (hs : T.segs = S ++ [(v, k, D)]) : mu adj n ((T.fin v).popSeg S v D) < mu adj n T := by
  have e2 : mu adj n ((T.fin v).popSeg S v D) = sumTo n (fun y => if T.idx y = 0 then (adj y).length + 2 else 0) + segsum adj S := rfl
  have e3 : mu adj n T = sumTo n (fun y => if T.idx y = 0 then (adj y).length + 2 else 0) + segsum adj T.segs := rfl
  rw [e2, e3, hs, segsum_append, segsum_cons, segsum_nil]
  omega
theorem mu_join (hs : T.segs = S ++ [(p, kp, Dp), (v, k, D)]) : mu adj n (((T.fin v).setLow p (T.low v)).setSegs (S ++ [(p, kp, Dp ++ v :: D)])) < mu adj n T := by
  have e2 : mu adj n (((T.fin v).setLow p (T.low v)).setSegs (S ++ [(p, kp, Dp ++ v :: D)])) = sumTo n (fun y => if T.idx y = 0 then (adj y).length + 2 else 0) + segsum adj (S ++ [(p, kp, Dp ++ v :: D)]) := rfl
  have e3 : mu adj n T = sumTo n (fun y => if T.idx y = 0 then (adj y).length + 2 else 0) + segsum adj T.segs := rfl
  rw [e2, e3, hs, segsum_append, segsum_append, segsum_cons, segsum_cons, segsum_cons, segsum_nil]
  omega

/-! What the memory holds behind each step. -/
theorem tm_visit : (T.visit x).tm = { T.tm with vis := T.tm.vis + 1, idx := upd T.tm.idx x (T.tm.vis + 1), low := upd T.tm.low x (T.tm.vis + 1), stk := T.tm.stk ++ [x], ons := upd T.tm.ons x true, frs := T.tm.frs ++ [(x, 0)] } := by
  simp [TS.tm, TS.visit, TS.stk, TS.frs, stkOf, frsOf]
theorem frs_top (hs : T.segs = S ++ [(v, k, D)]) : T.tm.frs = frsOf S ++ [(v, k)] := by show frsOf T.segs = _; rw [hs, frsOf_append]; rfl
theorem stk_top (hs : T.segs = S ++ [(v, k, D)]) : T.tm.stk = stkOf S ++ v :: D := by show stkOf T.segs = _; rw [hs, stkOf_append, stkOf_one]
theorem frsOf_len (l : List Sg) : (frsOf l).length = l.length := by simp [frsOf]
theorem tm_n1 (hs : T.segs = S ++ [(v, k, D)]) : ((T.visit x).setSegs (S ++ [(v, k + 1, D), (x, 0, [])])).tm =
    { T.tm with vis := T.tm.vis + 1, idx := upd T.tm.idx x (T.tm.vis + 1), low := upd T.tm.low x (T.tm.vis + 1), stk := T.tm.stk ++ [x], ons := upd T.tm.ons x true, frs := (frsOf S ++ [(v, k + 1)]) ++ [(x, 0)] } := by
  have e : T.tm.stk = stkOf S ++ v :: D := stk_top hs
  rw [e]
  simp [TS.tm, TS.visit, TS.setSegs, TS.stk, TS.frs, stkOf, frsOf]
theorem tm_n2 (hs : T.segs = S ++ [(v, k, D)]) (m : Nat) : ((T.setLow v m).setSegs (S ++ [(v, k + 1, D)])).tm = { T.tm with low := upd T.tm.low v (min (T.tm.low v) m), frs := frsOf S ++ [(v, k + 1)] } := by
  have e : T.stk = stkOf S ++ v :: D := stk_top hs
  simp [TS.tm, TS.setLow, TS.setSegs, TS.frs, frsOf, e]
  simp [TS.stk, stkOf]
theorem tm_n3 (hs : T.segs = S ++ [(v, k, D)]) : (T.setSegs (S ++ [(v, k + 1, D)])).tm = { T.tm with frs := frsOf S ++ [(v, k + 1)] } := by
  have e : T.stk = stkOf S ++ v :: D := stk_top hs
  simp [TS.tm, TS.setSegs, TS.frs, frsOf, e]
  simp [TS.stk, stkOf]
theorem tm_join (hs : T.segs = S ++ [(p, kp, Dp), (v, k, D)]) : (((T.fin v).setLow p (T.low v)).setSegs (S ++ [(p, kp, Dp ++ v :: D)])).tm = { T.tm with low := upd T.tm.low p (min (T.tm.low p) (T.tm.low v)), frs := frsOf (S ++ [(p, kp, Dp)]) } := by
  have e : T.stk = stkOf (S ++ [(p, kp, Dp ++ v :: D)]) := by show stkOf T.segs = _; rw [hs]; simp [stkOf]
  simp [TS.tm, TS.setLow, TS.setSegs, TS.fin, TS.frs, frsOf, e]
  simp [TS.stk]
theorem tm_pop : ((T.fin v).popSeg S v D).tm = { T.tm with comp := fun y => if y = v ∨ y ∈ D then T.cnt else T.tm.comp y, ons := fun y => if y = v ∨ y ∈ D then false else T.tm.ons y, stk := stkOf S, frs := frsOf S } := rfl
theorem tm_pop1 : (((T.fin v).setLow p (T.low v)).popSeg S v D).tm = { T.tm with low := upd T.tm.low p (min (T.tm.low p) (T.tm.low v)), comp := fun y => if y = v ∨ y ∈ D then T.cnt else T.tm.comp y, ons := fun y => if y = v ∨ y ∈ D then false else T.tm.ons y, stk := stkOf S, frs := frsOf S } := rfl
end
end Go.Proofs.Qxb6600624a
