import Derived.Test.Qxb6600624aDPlain
set_option linter.unusedVariables false
set_option linter.unusedSimpArgs false
namespace Go.Proofs.Qxb6600624a

def reachN (adj : Nat → List Nat) : Nat → Nat → Nat → Prop
  | 0, x, y => x = y
  | k + 1, x, y => ∃ z, z ∈ adj x ∧ reachN adj k z y
def Reach (adj : Nat → List Nat) (x y : Nat) : Prop := ∃ k, reachN adj k x y
section
variable {adj : Nat → List Nat}
theorem Reach.refl (x : Nat) : Reach adj x x := ⟨0, rfl⟩
theorem Reach.head {x z y : Nat} (h : z ∈ adj x) (h' : Reach adj z y) : Reach adj x y := by
  obtain ⟨k, hk⟩ := h'
  exact ⟨k + 1, z, h, hk⟩
theorem Reach.arc {x y : Nat} (h : y ∈ adj x) : Reach adj x y := .head h (.refl y)
theorem Reach.trans {x y z : Nat} (h : Reach adj x y) (h' : Reach adj y z) : Reach adj x z := by
  obtain ⟨k, hk⟩ := h
  induction k generalizing x with
  | zero => cases hk; exact h'
  | succ k ih =>
    obtain ⟨u, hu, hk⟩ := hk
    exact .head hu (ih hk)
end

/-- What the second law needs of the search's state. -/
structure SC (adj : Nat → List Nat) (T : TS) : Prop where
  same : ∀ s ∈ T.segs, ∀ w ∈ s.2.2, Reach adj s.1 w ∧ Reach adj w s.1
  path : T.segs.Pairwise (fun s t => Reach adj s.1 t.1)
  low : ∀ s ∈ T.segs, ∃ y, y ∈ T.stk ∧ T.idx y = T.low s.1 ∧ Reach adj s.1 y
  root : ∃ R : Nat → Nat, (∀ c, c < T.cnt → T.comp (R c) = c ∧ T.idx (R c) ≠ 0 ∧ T.ons (R c) = false ∧ T.post (R c) ≤ T.pn ∧
    (∀ x, T.idx x ≠ 0 → T.ons x = false → T.comp x = c → (x = R c ∨ T.idx (R c) < T.idx x) ∧ Reach adj (R c) x ∧ Reach adj x (R c))) ∧ ∀ c c', c < c' → c' < T.cnt → T.post (R c) < T.post (R c')
section
variable {adj : Nat → List Nat} {n r : Nat} {T : TS}
theorem SC.start : SC adj T0 := ⟨fun s h => absurd h (by simp [T0]), by simp [T0], fun s h => absurd h (by simp [T0]), fun _ => 0, fun c h => absurd h (Nat.not_lt_zero _), fun c c' _ h => absurd h (Nat.not_lt_zero _)⟩
/-- The count of arcs taken does not matter. -/
theorem SC.adv {S Q : List Sg} {v k k' : Nat} {D : List Nat} (h : SC adj T) (hs : T.segs = S ++ (v, k, D) :: Q) : SC adj (T.setSegs (S ++ (v, k', D) :: Q)) := by
  have hst : (T.setSegs (S ++ (v, k', D) :: Q)).stk = T.stk := by show stkOf (S ++ (v, k', D) :: Q) = stkOf T.segs; rw [hs]; simp [stkOf]
  refine ⟨fun s hm w hw => ?_, ?_, fun s hm => ?_, h.root⟩
  · have hm' : s ∈ S ++ (v, k', D) :: Q := hm
    rcases List.mem_append.1 hm' with h1 | h1
    · exact h.same s (by rw [hs]; simp [h1]) w hw
    · rcases List.mem_cons.1 h1 with rfl | h1
      · exact h.same (v, k, D) (by rw [hs]; simp) w hw
      · exact h.same s (by rw [hs]; simp [h1]) w hw
  · show (S ++ (v, k', D) :: Q).Pairwise _
    have hp := h.path
    rw [hs, List.pairwise_append, List.pairwise_cons] at hp
    rw [List.pairwise_append, List.pairwise_cons]
    refine ⟨hp.1, ⟨hp.2.1.1, hp.2.1.2⟩, fun a ha b hb => ?_⟩
    rcases List.mem_cons.1 hb with rfl | hb
    · exact hp.2.2 a ha (v, k, D) (by simp)
    · exact hp.2.2 a ha b (by simp [hb])
  · rw [hst]
    have hm' : s ∈ S ++ (v, k', D) :: Q := hm
    rcases List.mem_append.1 hm' with h1 | h1
    · exact h.low s (by rw [hs]; simp [h1])
    · rcases List.mem_cons.1 h1 with rfl | h1
      · exact h.low (v, k, D) (by rw [hs]; simp)
      · exact h.low s (by rw [hs]; simp [h1])
theorem SC.visit {x : Nat} (h : SC adj T) (hI : Inv adj n r T) (hx : T.idx x = 0) (hr : ∀ s ∈ T.segs, Reach adj s.1 x) : SC adj (T.visit x) := by
  have hne : ∀ y, T.idx y ≠ 0 → y ≠ x := fun y hy e => hy (by rw [e]; exact hx)
  have hstk : (T.visit x).stk = T.stk ++ [x] := by show stkOf (T.segs ++ _) = _; rw [stkOf_append, stkOf_one]; rfl
  have hidx : ∀ y, y ≠ x → (T.visit x).idx y = T.idx y := fun y hy => upd_other _ _ hy
  have hons : ∀ y, y ≠ x → (T.visit x).ons y = T.ons y := fun y hy => upd_other _ _ hy
  refine ⟨fun s hm w hw => ?_, ?_, fun s hm => ?_, ?_⟩
  · rcases List.mem_append.1 (show s ∈ T.segs ++ [(x, 0, [])] from hm) with h1 | h1
    · exact h.same s h1 w hw
    · simp at h1; subst h1; simp at hw
  · show (T.segs ++ [(x, 0, [])]).Pairwise _
    rw [List.pairwise_append]
    exact ⟨h.path, by simp, fun a ha b hb => by simp at hb; subst hb; exact hr a ha⟩
  · rw [hstk]
    rcases List.mem_append.1 (show s ∈ T.segs ++ [(x, 0, [])] from hm) with h1 | h1
    · obtain ⟨y, hy, h2, h3⟩ := h.low s h1
      have hyx := hne y (hI.seen y ((hI.mem y).1 hy))
      have hsx := hne s.1 (hI.seen s.1 ((hI.mem s.1).1 (node_mem h1)))
      refine ⟨y, by simp [hy], ?_, h3⟩
      rw [hidx y hyx, h2]
      exact (upd_other _ _ hsx).symm
    · simp at h1; subst h1
      exact ⟨x, by simp, by show upd _ _ _ _ = upd _ _ _ _; rw [upd_same, upd_same], .refl x⟩
  · obtain ⟨R, h1, h2⟩ := h.root
    refine ⟨R, fun c hc => ?_, h2⟩
    obtain ⟨a1, a2, a3, a4, a5⟩ := h1 c hc
    have hR := hne _ a2
    refine ⟨a1, by rw [hidx _ hR]; exact a2, by rw [hons _ hR]; exact a3, a4, fun y b1 b2 b3 => ?_⟩
    have hyx : y ≠ x := fun e => by
      subst e
      have : (T.visit y).ons y = true := upd_same _ _ _
      rw [this] at b2; cases b2
    rw [hidx y hyx] at b1 ⊢
    rw [hons y hyx] at b2
    rw [hidx _ hR]
    exact a5 y b1 b2 b3
theorem SC.setLow {v x : Nat} (h : SC adj T) (hI : Inv adj n r T) (hx : T.ons x = true) (ha : Reach adj v x) : SC adj (T.setLow v (T.idx x)) := by
  refine ⟨h.same, h.path, fun s hm => ?_, h.root⟩
  obtain ⟨y, hy, h2, h3⟩ := h.low s hm
  show ∃ y, y ∈ T.stk ∧ T.idx y = upd T.low v (min (T.low v) (T.idx x)) s.1 ∧ Reach adj s.1 y
  by_cases e : s.1 = v
  · rw [e, upd_same]
    by_cases hle : T.low v ≤ T.idx x
    · exact ⟨y, hy, by rw [h2, e]; omega, by rw [← e]; exact h3⟩
    · exact ⟨x, (hI.mem x).2 hx, by omega, ha⟩
  · rw [upd_other _ _ e]
    exact ⟨y, hy, h2, h3⟩
theorem SC.pop {S : List Sg} {v k : Nat} {D : List Nat} (h : SC adj T) (hI : Inv adj n r T) (hs : T.segs = S ++ [(v, k, D)]) (hl : T.low v = T.idx v) : SC adj ((T.fin v).popSeg S v D) := by
  have hstk : T.stk = stkOf S ++ v :: D := by show stkOf T.segs = _; rw [hs, stkOf_append, stkOf_one]
  have hinc := hI.inc
  rw [hstk, List.pairwise_append, List.pairwise_cons] at hinc
  have hmem : ∀ s ∈ S, s ∈ T.segs := fun s h1 => by rw [hs]; simp [h1]
  have hvD : ∀ x, (x = v ∨ x ∈ D) → T.ons x = true := fun x hx => (hI.mem x).1 (by rw [hstk]; rcases hx with rfl | hx <;> simp [*])
  refine ⟨fun s hm => h.same s (hmem s hm), ?_, fun s hm => ?_, ?_⟩
  · have hp := h.path
    rw [hs, List.pairwise_append] at hp
    exact hp.1
  · obtain ⟨y, hy, h2, h3⟩ := h.low s (hmem s hm)
    refine ⟨y, ?_, h2, h3⟩
    rw [hstk] at hy
    rcases List.mem_append.1 hy with h4 | h4
    · exact h4
    · exfalso
      have h5 := hI.low1 s (hmem s hm)
      have h6 := hinc.2.2 s.1 (node_mem hm) v (by simp)
      rcases List.mem_cons.1 h4 with rfl | h4
      · omega
      · have := hinc.2.1.1 y h4; omega
  · obtain ⟨R, h1, h2⟩ := h.root
    have hRn : ∀ c, c < T.cnt → ¬ (R c = v ∨ R c ∈ D) := fun c hc e => by have := hvD _ e; rw [(h1 c hc).2.2.1] at this; cases this
    have hRv : ∀ c, c < T.cnt → R c ≠ v := fun c hc e => hRn c hc (.inl e)
    refine ⟨fun c => if c = T.cnt then v else R c, fun c hc => ?_, fun c c' hcc hc => ?_⟩
    · have hc' : c < T.cnt + 1 := hc
      by_cases e : c = T.cnt
      · simp only [if_pos e]
        show (if v = v ∨ v ∈ D then T.cnt else T.comp v) = c ∧ T.idx v ≠ 0 ∧ (if v = v ∨ v ∈ D then false else T.ons v) = false ∧ upd T.post v (T.pn + 1) v ≤ T.pn + 1 ∧ _
        refine ⟨by simp [e], hI.seen v (hvD v (.inl rfl)), by simp, by rw [upd_same]; omega, fun x b1 b2 b3 => ?_⟩
        have b3' : (if x = v ∨ x ∈ D then T.cnt else T.comp x) = c := b3
        have b2' : (if x = v ∨ x ∈ D then false else T.ons x) = false := b2
        by_cases hx : x = v ∨ x ∈ D
        · rcases hx with rfl | hx
          · exact ⟨.inl rfl, .refl _, .refl _⟩
          · exact ⟨.inr (hinc.2.1.1 x hx), h.same (v, k, D) (by rw [hs]; simp) x hx⟩
        · rw [if_neg hx] at b3' b2'
          have := (hI.done x b1 b2').1
          omega
      · simp only [if_neg e]
        have hlt : c < T.cnt := by omega
        obtain ⟨a1, a2, a3, a4, a5⟩ := h1 c hlt
        show (if R c = v ∨ R c ∈ D then T.cnt else T.comp (R c)) = c ∧ T.idx (R c) ≠ 0 ∧ (if R c = v ∨ R c ∈ D then false else T.ons (R c)) = false ∧ upd T.post v (T.pn + 1) (R c) ≤ T.pn + 1 ∧ _
        rw [if_neg (hRn c hlt), if_neg (hRn c hlt), upd_other _ _ (hRv c hlt)]
        refine ⟨a1, a2, a3, by omega, fun x b1 b2 b3 => ?_⟩
        have b3' : (if x = v ∨ x ∈ D then T.cnt else T.comp x) = c := b3
        have b2' : (if x = v ∨ x ∈ D then false else T.ons x) = false := b2
        by_cases hx : x = v ∨ x ∈ D
        · rw [if_pos hx] at b3'; omega
        · rw [if_neg hx] at b3' b2'
          exact a5 x b1 b2' b3'
    · have hc' : c' < T.cnt + 1 := hc
      show upd T.post v (T.pn + 1) (if c = T.cnt then v else R c) < upd T.post v (T.pn + 1) (if c' = T.cnt then v else R c')
      rw [if_neg (show c ≠ T.cnt by omega), upd_other _ _ (hRv c (by omega))]
      by_cases e : c' = T.cnt
      · rw [if_pos e, upd_same]
        have := (h1 c (by omega)).2.2.2.1
        omega
      · rw [if_neg e, upd_other _ _ (hRv c' (by omega))]
        exact h2 c c' hcc (by omega)
theorem SC.join {S : List Sg} {p kp v k : Nat} {Dp D : List Nat} (h : SC adj T) (hI : Inv adj n r T) (hs : T.segs = S ++ [(p, kp, Dp), (v, k, D)]) (hl : T.low v ≠ T.idx v) : SC adj (((T.fin v).setLow p (T.low v)).setSegs (S ++ [(p, kp, Dp ++ v :: D)])) := by
  have hstk : T.stk = stkOf (S ++ [(p, kp, Dp)]) ++ v :: D := by show stkOf T.segs = _; rw [hs]; simp [stkOf]
  have hinc := hI.inc
  rw [hstk, List.pairwise_append, List.pairwise_cons] at hinc
  have hvm : (v, k, D) ∈ T.segs := by rw [hs]; simp
  have hpm : (p, kp, Dp) ∈ T.segs := by rw [hs]; simp
  have hmem : ∀ s ∈ S, s ∈ T.segs := fun s h1 => by rw [hs]; simp [h1]
  have hp := h.path
  rw [hs, List.pairwise_append, List.pairwise_cons] at hp
  have hpv : Reach adj p v := hp.2.1.1 (v, k, D) (by simp)
  have hvp : Reach adj v p := by
    obtain ⟨y, hy, h2, h3⟩ := h.low _ hvm
    have h4 : T.low v ≤ T.idx v := hI.low1 _ hvm
    have h2' : T.idx y = T.low v := h2
    rw [hstk] at hy
    rcases List.mem_append.1 hy with h5 | h5
    · obtain ⟨s, hsm, hsy⟩ := mem_stkOf.1 h5
      have hsT : s ∈ T.segs := by
        rw [hs]
        rcases List.mem_append.1 hsm with h6 | h6
        · simp [h6]
        · simp at h6; simp [h6]
      have hys : Reach adj y s.1 := by
        rcases hsy with rfl | hsy
        · exact .refl _
        · exact (h.same s hsT y hsy).2
      have hsp : Reach adj s.1 p := by
        rcases List.mem_append.1 hsm with h6 | h6
        · exact hp.2.2 s h6 (p, kp, Dp) (by simp)
        · simp at h6; subst h6; exact .refl _
      exact h3.trans (hys.trans hsp)
    · exfalso
      rcases List.mem_cons.1 h5 with rfl | h5
      · exact hl h2'.symm
      · have := hinc.2.1.1 y h5; omega
  have hst' : (((T.fin v).setLow p (T.low v)).setSegs (S ++ [(p, kp, Dp ++ v :: D)])).stk = T.stk := by show stkOf (S ++ [(p, kp, Dp ++ v :: D)]) = stkOf T.segs; rw [hs]; simp [stkOf]
  refine ⟨fun s hm w hw => ?_, ?_, fun s hm => ?_, ?_⟩
  · rcases List.mem_append.1 (show s ∈ S ++ [(p, kp, Dp ++ v :: D)] from hm) with h1 | h1
    · exact h.same s (hmem s h1) w hw
    · simp at h1; subst h1
      rcases List.mem_append.1 (show w ∈ Dp ++ v :: D from hw) with h2 | h2
      · exact h.same _ hpm w h2
      · rcases List.mem_cons.1 h2 with rfl | h2
        · exact ⟨hpv, hvp⟩
        · have h3 := h.same _ hvm w h2
          exact ⟨hpv.trans h3.1, h3.2.trans hvp⟩
  · show (S ++ [(p, kp, Dp ++ v :: D)]).Pairwise _
    rw [List.pairwise_append]
    exact ⟨hp.1, by simp, fun a ha b hb => by simp at hb; subst hb; exact hp.2.2 a ha (p, kp, Dp) (by simp)⟩
  · rw [hst']
    show ∃ y, y ∈ T.stk ∧ T.idx y = upd T.low p (min (T.low p) (T.low v)) s.1 ∧ Reach adj s.1 y
    by_cases e : s.1 = p
    · rw [e, upd_same]
      by_cases hle : T.low p ≤ T.low v
      · obtain ⟨y, hy, h2, h3⟩ := h.low _ hpm
        exact ⟨y, hy, by rw [h2]; show T.low p = _; omega, h3⟩
      · obtain ⟨y, hy, h2, h3⟩ := h.low _ hvm
        exact ⟨y, hy, by rw [h2]; show T.low v = _; omega, hpv.trans h3⟩
    · rw [upd_other _ _ e]
      rcases List.mem_append.1 (show s ∈ S ++ [(p, kp, Dp ++ v :: D)] from hm) with h1 | h1
      · exact h.low s (hmem s h1)
      · simp at h1; subst h1; exact absurd rfl e
  · obtain ⟨R, h1, h2⟩ := h.root
    have hov : T.ons v = true := (hI.mem v).1 (node_mem hvm)
    have hRv : ∀ c, c < T.cnt → R c ≠ v := fun c hc e => by have := (h1 c hc).2.2.1; rw [e, hov] at this; cases this
    refine ⟨R, fun c hc => ?_, fun c c' hcc hc => ?_⟩
    · have hc' : c < T.cnt := hc
      obtain ⟨a1, a2, a3, a4, a5⟩ := h1 c hc'
      refine ⟨a1, a2, a3, ?_, a5⟩
      show upd T.post v (T.pn + 1) (R c) ≤ T.pn + 1
      rw [upd_other _ _ (hRv c hc')]; omega
    · have hc' : c' < T.cnt := hc
      show upd T.post v (T.pn + 1) (R c) < upd T.post v (T.pn + 1) (R c')
      rw [upd_other _ _ (hRv c (by omega)), upd_other _ _ (hRv c' hc')]
      exact h2 c c' hcc hc'
end
end Go.Proofs.Qxb6600624a
