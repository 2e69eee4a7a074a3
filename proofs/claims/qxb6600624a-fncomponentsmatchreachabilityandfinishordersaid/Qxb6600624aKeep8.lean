import Derived.Test.Qxb6600624aSCPlain
set_option linter.unusedVariables false
set_option linter.unusedSimpArgs false
namespace Go.Proofs.Qxb6600624a

/-- The second law's invariant. -/
structure I8 (adj : Nat → List Nat) (n r : Nat) (T : TS) : Prop where
  inv : Inv adj n r T
  sc : SC adj T
  run : OnRun adj r T
theorem keeps8 (adj : Nat → List Nat) (n : Nat) (hadj : ∀ v, v < n → ∀ x ∈ adj v, x < n) : Keeps adj n (I8 adj n) := by
  have K := keeps_inv adj n hadj
  refine ⟨fun _ _ h => h.inv, ⟨K.start, SC.start, OnRun.start⟩, fun r T h hr hs hi => ⟨K.skip r T h.inv hr hs hi, h.sc, h.run.skip hs hi⟩, fun r T h hr hs hi => ⟨K.root r T h.inv hr hs hi, h.sc.visit h.inv hi (fun s hm => by rw [hs] at hm; cases hm), h.run.root hs hi⟩,
    fun r T S v k D x h hs hx hi => ⟨K.n1 r T S v k D x h.inv hs hx hi, ?_, ?_⟩, fun r T S v k D x h hs hx hi ho => ⟨K.n2 r T S v k D x h.inv hs hx hi ho, ?_, ?_⟩, fun r T S v k D x h hs hx hi ho => ⟨K.n3 r T S v k D x h.inv hs hx hi ho, ?_, ?_⟩,
    fun r T v k D h hs hk hl => ⟨K.pop0 r T v k D h.inv hs hk hl, h.sc.pop (S := []) h.inv hs hl, ?_⟩, fun r T S p kp Dp v k D h hs hk hl => ⟨K.pop1 r T S p kp Dp v k D h.inv hs hk hl, ?_, ?_⟩, fun r T S p kp Dp v k D h hs hk hl => ⟨K.join r T S p kp Dp v k D h.inv hs hk hl, h.sc.join h.inv hs hl, ?_⟩⟩
  · have hvx : Reach adj v x := .arc (adj_getElem_mem hx)
    have h1 : SC adj (T.visit x) := h.sc.visit h.inv hi (fun s hm => by
      have hp := h.sc.path
      rw [hs] at hm hp
      rw [List.pairwise_append] at hp
      rcases List.mem_append.1 hm with h2 | h2
      · exact (hp.2.2 s h2 (v, k, D) (by simp)).trans hvx
      · simp at h2; subst h2; exact hvx)
    exact h1.adv (S := S) (k := k) (Q := [(x, 0, [])]) (by show T.segs ++ _ = _; rw [hs]; simp)
  · refine h.run.step (by rw [hs]; simp) ?_
    rw [cf_top hs]
    simp only [mstep, hx]
    rw [if_pos (show T.ds.pre x = 0 from hi)]
    show _ = (_, (frsOf (S ++ [(v, k + 1, D), (x, 0, [])])).reverse)
    simp [frsOf]
    rfl
  · have h1 : SC adj (T.setLow v (T.idx x)) := h.sc.setLow h.inv ho (.arc (adj_getElem_mem hx))
    exact h1.adv (S := S) (k := k) (Q := []) hs
  · refine h.run.step (by rw [hs]; simp) ?_
    rw [cf_top hs]
    simp only [mstep, hx]
    rw [if_neg (show ¬ T.ds.pre x = 0 from hi)]
    show _ = (_, (frsOf (S ++ [(v, k + 1, D)])).reverse)
    simp [frsOf]
    rfl
  · exact h.sc.adv (S := S) (k := k) (Q := []) hs
  · refine h.run.step (by rw [hs]; simp) ?_
    rw [cf_top hs]
    simp only [mstep, hx]
    rw [if_neg (show ¬ T.ds.pre x = 0 from hi)]
    show _ = (_, (frsOf (S ++ [(v, k + 1, D)])).reverse)
    simp [frsOf]
    rfl
  · refine h.run.step (by rw [hs]; simp) ?_
    rw [cf_top (S := []) hs]
    have hx : (adj v)[k]? = none := by rw [hk]; simp
    simp only [mstep, hx]
    rfl
  · have hp : (p, kp, Dp) ∈ T.segs := by rw [hs]; simp
    have h1 : T.low p ≤ T.idx p := h.inv.low1 _ hp
    have h2 := h.inv.two_lt hs
    have e : (T.fin v).setLow p (T.low v) = T.fin v := by
      have : upd T.low p (min (T.low p) (T.low v)) = T.low := by
        funext i
        unfold upd
        split
        · rename_i e; subst e; omega
        · rfl
      show ({ T.fin v with low := upd T.low p (min (T.low p) (T.low v)) } : TS) = _
      rw [this]; rfl
    rw [e]
    exact h.sc.pop (S := S ++ [(p, kp, Dp)]) (k := k) h.inv (by rw [hs]; simp) hl
  · refine h.run.step (by rw [hs]; simp) ?_
    rw [cf_top (S := S ++ [(p, kp, Dp)]) (v := v) (k := k) (D := D) (by rw [hs]; simp)]
    have hx : (adj v)[k]? = none := by rw [hk]; simp
    simp only [mstep, hx]
    rfl
  · refine h.run.step (by rw [hs]; simp) ?_
    rw [cf_top (S := S ++ [(p, kp, Dp)]) (v := v) (k := k) (D := D) (by rw [hs]; simp)]
    have hx : (adj v)[k]? = none := by rw [hk]; simp
    simp only [mstep, hx]
    show _ = (_, (frsOf (S ++ [(p, kp, Dp ++ v :: D)])).reverse)
    simp [frsOf]
    rfl

/-- What the second law needs of the answer. -/
structure Fin8 (adj : Nat → List Nat) (n : Nat) (f : Nat → Nat) (d : DS) : Prop where
  reached : Reached adj n d
  eqv : ∀ x y, x < n → y < n → (f x = f y ↔ Reach adj x y ∧ Reach adj y x)
  root : ∃ (m : Nat) (R : Nat → Nat), m ≤ n ∧ (∀ x, x < n → f x < m) ∧ (∀ c, c < m → R c < n ∧ f (R c) = c ∧ ∀ x, x < n → f x = c → x = R c ∨ d.pre (R c) < d.pre x) ∧ ∀ c c', c < c' → c' < m → d.post (R c) < d.post (R c')
theorem fin8 {adj : Nat → List Nat} {n : Nat} {T : TS} (hadj : ∀ v, v < n → ∀ x ∈ adj v, x < n) (h : I8 adj n n T) (h0 : T.segs = []) : Fin8 adj n T.comp T.ds := by
  have hstk : T.stk = [] := by simp [TS.stk, h0, stkOf]
  have hI := h.inv
  have hons : ∀ x, T.ons x = false := fun x => by
    have := hI.mem x
    rw [hstk] at this
    cases hx : T.ons x with
    | false => rfl
    | true => rw [hx] at this; simp at this
  have hle : ∀ k x y, x < n → reachN adj k x y → y < n ∧ T.comp y ≤ T.comp x := by
    intro k
    induction k with
    | zero => intro x y hx hk; cases hk; exact ⟨hx, Nat.le_refl _⟩
    | succ k ih =>
      intro x y hx ⟨z, hz, hk⟩
      have h1 := ((hI.done x (hI.roots x hx) (hons x)).2 z hz).2.2
      have h2 := ih z y (hadj x hx z hz) hk
      exact ⟨h2.1, by omega⟩
  obtain ⟨R, hR, hord⟩ := h.sc.root
  refine ⟨?_, fun x y hx hy => ⟨fun e => ?_, fun ⟨⟨k, h1⟩, ⟨k', h2⟩⟩ => ?_⟩, T.cnt, R, hI.cnt_le, fun x hx => (hI.done x (hI.roots x hx) (hons x)).1, fun c hc => ?_, hord⟩
  · obtain ⟨d, hd, h1⟩ := h.run
    rw [cf_empty h0] at h1
    rcases h1 with h1 | ⟨h1, k, h2⟩
    · have e : T.ds = d := congrArg Prod.fst h1
      rw [e]; exact hd
    · exfalso
      have := runs_pre (adj := adj) k (d.visit n, [(n, 0)]) n (by show upd d.pre n (d.a + 1) n ≠ 0; rw [upd_same]; omega)
      rw [h2] at this
      exact Nat.lt_irrefl _ (hI.lt n this)
  · have hc := (hI.done x (hI.roots x hx) (hons x)).1
    obtain ⟨_, _, _, _, a5⟩ := hR _ hc
    have b1 := a5 x (hI.roots x hx) (hons x) rfl
    have b2 := a5 y (hI.roots y hy) (hons y) e.symm
    exact ⟨b1.2.2.trans b2.2.1, b2.2.2.trans b1.2.1⟩
  · have := (hle k x y hx h1).2
    have := (hle k' y x hy h2).2
    omega
  · obtain ⟨a1, a2, a3, a4, a5⟩ := hR c hc
    exact ⟨hI.lt _ a2, a1, fun x hx hf => (a5 x (hI.roots x hx) (hons x) hf).1⟩
end Go.Proofs.Qxb6600624a
