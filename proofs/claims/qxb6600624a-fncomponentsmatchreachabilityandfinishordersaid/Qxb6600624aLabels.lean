import Derived.Test.Qxb6600624aKeep8
set_option linter.unusedVariables false
set_option linter.unusedSimpArgs false
namespace Go.Proofs.Qxb6600624a

/-- The labels behind a nodes; f tells the components. -/
def LabOk (n : Nat) (f : Nat → Nat) (a : Nat) (lab : Nat → Int) : Prop :=
  ∀ b, b < n → (lab b = -1 ∧ ∀ c, c < a → f c ≠ f b) ∨ ∃ c : Nat, c < a ∧ lab b = (c : Int) ∧ f c = f b ∧ ∀ c', c' < c → f c' ≠ f b
theorem lab_start (n : Nat) (f : Nat → Nat) : LabOk n f 0 (fun _ => -1) := fun b _ => .inl ⟨rfl, fun c h => absurd h (Nat.not_lt_zero _)⟩
theorem lab_skip {n a : Nat} {f : Nat → Nat} {lab : Nat → Int} (h : LabOk n f a lab) (ha : a < n) (h0 : 0 ≤ lab a) : LabOk n f (a + 1) lab := by
  intro b hb
  rcases h a ha with ⟨h1, _⟩ | ⟨ca, hca, h1, h2, _⟩
  · omega
  · rcases h b hb with ⟨h3, h4⟩ | ⟨c, h3, h4⟩
    · refine .inl ⟨h3, fun c hc e => ?_⟩
      by_cases e2 : c = a
      · subst e2; exact h4 ca hca (h2.trans e)
      · exact h4 c (by omega) e
    · exact .inr ⟨c, by omega, h4⟩
theorem lab_set {n a : Nat} {f : Nat → Nat} {lab : Nat → Int} (h : LabOk n f a lab) (ha : a < n) (h0 : ¬ 0 ≤ lab a) (s1 s2 : Nat → Bool) (hs : ∀ x, x < n → (s1 x = true ∧ s2 x = true ↔ f a = f x)) :
    LabOk n f (a + 1) (fun x => if x < n ∧ s1 x = true ∧ s2 x = true then (a : Int) else lab x) := by
  have hna : ∀ c, c < a → f c ≠ f a := by
    rcases h a ha with ⟨_, h1⟩ | ⟨c, _, h1, _⟩
    · exact h1
    · omega
  intro b hb
  by_cases e : f a = f b
  · have := (hs b hb).2 e
    refine .inr ⟨a, by omega, by simp [hb, this], e, fun c hc e2 => hna c hc (e2.trans e.symm)⟩
  · have hn : ¬ (b < n ∧ s1 b = true ∧ s2 b = true) := fun ⟨_, h1⟩ => e ((hs b hb).1 h1)
    simp only [if_neg hn]
    rcases h b hb with ⟨h3, h4⟩ | ⟨c, h3, h4⟩
    · refine .inl ⟨h3, fun c hc e2 => ?_⟩
      by_cases e3 : c = a
      · subst e3; exact e e2
      · exact h4 c (by omega) e2
    · exact .inr ⟨c, by omega, h4⟩
/-- Behind all nodes the label is a node, and tells the component. -/
theorem lab_fin {n : Nat} {f : Nat → Nat} {lab : Nat → Int} (h : LabOk n f n lab) : ∃ lb : Nat → Nat, (∀ x, x < n → lab x = (lb x : Int) ∧ lb x < n) ∧ ∀ x y, x < n → y < n → (lb x = lb y ↔ f x = f y) := by
  have h1 : ∀ b, b < n → ∃ c : Nat, c < n ∧ lab b = (c : Int) ∧ f c = f b ∧ ∀ c', c' < c → f c' ≠ f b := fun b hb => by
    rcases h b hb with ⟨_, h2⟩ | h2
    · exact absurd rfl (h2 b hb)
    · exact h2
  refine ⟨fun x => (lab x).toNat, fun x hx => ?_, fun x y hx hy => ?_⟩
  · obtain ⟨c, h2, h3, _⟩ := h1 x hx
    show lab x = ((lab x).toNat : Int) ∧ (lab x).toNat < n
    omega
  · obtain ⟨c, h2, h3, h4, h5⟩ := h1 x hx
    obtain ⟨c', h2', h3', h4', h5'⟩ := h1 y hy
    show (lab x).toNat = (lab y).toNat ↔ _
    rw [h3, h3']
    simp only [Int.toNat_natCast]
    constructor
    · intro e; subst e; exact h4.symm.trans h4'
    · intro e
      rcases Nat.lt_trichotomy c c' with hc | hc | hc
      · exact absurd (h4.trans e) (h5' c hc)
      · exact hc
      · exact absurd (h4'.trans e.symm) (h5 c' hc)

/-- The roots behind b nodes. -/
def RootOk (n : Nat) (lb pre : Nat → Nat) (b : Nat) (rt : Nat → Int) : Prop :=
  ∀ l, l < n → (rt l = -1 ∧ ∀ x, x < b → lb x ≠ l) ∨ ∃ r : Nat, r < b ∧ rt l = (r : Int) ∧ lb r = l ∧ ∀ x, x < b → lb x = l → pre r ≤ pre x
theorem root_start (n : Nat) (lb pre : Nat → Nat) : RootOk n lb pre 0 (fun _ => -1) := fun l _ => .inl ⟨rfl, fun x h => absurd h (Nat.not_lt_zero _)⟩
theorem root_set {n b : Nat} {lb pre : Nat → Nat} {rt : Nat → Int} (h : RootOk n lb pre b rt) (hb : b < n) (hlb : lb b < n) (hs : rt (lb b) = -1 ∨ ∃ r : Nat, rt (lb b) = (r : Int) ∧ pre b < pre r) : RootOk n lb pre (b + 1) (fun l => if l = lb b then (b : Int) else rt l) := by
  intro l hl
  by_cases e : l = lb b
  · subst e
    refine .inr ⟨b, by omega, by simp, rfl, fun x hx hxl => ?_⟩
    by_cases e2 : x = b
    · subst e2; exact Nat.le_refl _
    · rcases h (lb b) hl with ⟨_, h2⟩ | ⟨r, h1, h2, h3, h4⟩
      · exact absurd hxl (h2 x (by omega))
      · have := h4 x (by omega) hxl
        rcases hs with hs | ⟨r', hs, h5⟩
        · omega
        · have : r = r' := by omega
          subst this; omega
  · simp only [if_neg e]
    rcases h l hl with ⟨h1, h2⟩ | ⟨r, h1, h2, h3, h4⟩
    · refine .inl ⟨h1, fun x hx hxl => ?_⟩
      by_cases e2 : x = b
      · subst e2; exact e hxl.symm
      · exact h2 x (by omega) hxl
    · refine .inr ⟨r, by omega, h2, h3, fun x hx hxl => ?_⟩
      by_cases e2 : x = b
      · subst e2; exact absurd hxl.symm e
      · exact h4 x (by omega) hxl
theorem root_keep {n b : Nat} {lb pre : Nat → Nat} {rt : Nat → Int} (h : RootOk n lb pre b rt) (hb : b < n) (hlb : lb b < n) {r : Nat} (hr : rt (lb b) = (r : Int)) (hs : pre r ≤ pre b) : RootOk n lb pre (b + 1) rt := by
  intro l hl
  rcases h l hl with ⟨h1, h2⟩ | ⟨r', h1, h2, h3, h4⟩
  · refine .inl ⟨h1, fun x hx hxl => ?_⟩
    by_cases e2 : x = b
    · subst e2; subst hxl; omega
    · exact h2 x (by omega) hxl
  · refine .inr ⟨r', by omega, h2, h3, fun x hx hxl => ?_⟩
    by_cases e2 : x = b
    · subst e2; subst hxl
      have : r = r' := by omega
      subst this; exact hs
    · exact h4 x (by omega) hxl
/-- Behind all nodes: each component's root. -/
theorem root_fin {adj : Nat → List Nat} {n m : Nat} {f lb pre R : Nat → Nat} {rt : Nat → Int} (h : RootOk n lb pre n rt) (hlb : ∀ x, x < n → lb x < n) (heq : ∀ x y, x < n → y < n → (lb x = lb y ↔ f x = f y)) (hm : ∀ x, x < n → f x < m)
    (hR : ∀ c, c < m → R c < n ∧ f (R c) = c ∧ ∀ x, x < n → f x = c → x = R c ∨ pre (R c) < pre x) (x : Nat) (hx : x < n) : rt (lb x) = (R (f x) : Int) := by
  obtain ⟨a1, a2, a3⟩ := hR (f x) (hm x hx)
  rcases h (lb x) (hlb x hx) with ⟨_, h2⟩ | ⟨r, h1, h2, h3, h4⟩
  · exact absurd rfl (h2 x hx)
  · rw [h2]
    have h5 : f r = f x := (heq r x h1 hx).1 h3
    have h6 := h4 (R (f x)) a1 ((heq _ _ a1 hx).2 a2)
    rcases a3 r h1 h5 with h7 | h7
    · rw [h7]
    · omega

/-- How many roots finish ahead. -/
def rcount (f R post : Nat → Nat) (p x : Nat) : Nat := sumTo x (fun i => if R (f i) = i ∧ post i < p then 1 else 0)
theorem rcount_fin {n m : Nat} {f R post : Nat → Nat} (hm : ∀ x, x < n → f x < m) (hR : ∀ c, c < m → R c < n ∧ f (R c) = c) (hord : ∀ c c', c < c' → c' < m → post (R c) < post (R c')) :
    ∀ c, c < m → rcount f R post (post (R c)) n = c := by
  have h1 : ∀ c, c < m → rcount f R post (post (R c)) n = sumTo n (fun i => if R (f i) = i ∧ f i < c then 1 else 0) := fun c hc => by
    refine sumTo_congr n fun i hi => ?_
    by_cases e : R (f i) = i
    · have : post i < post (R c) ↔ f i < c := by
        constructor
        · intro h
          rcases Nat.lt_trichotomy (f i) c with h2 | h2 | h2
          · exact h2
          · rw [← h2, e] at h; omega
          · have := hord c (f i) h2 (hm i hi); rw [e] at this; omega
        · intro h
          have := hord (f i) c h hc
          rw [e] at this; exact this
      simp [e, this]
    · simp [e]
  have h2 : ∀ c, c ≤ m → sumTo n (fun i => if R (f i) = i ∧ f i < c then 1 else 0) = c := by
    intro c
    induction c with
    | zero =>
      intro _
      have : ∀ n, sumTo n (fun i => if R (f i) = i ∧ f i < 0 then 1 else 0) = 0 := fun n => by
        induction n with
        | zero => rfl
        | succ n ih => simp only [sumTo]; rw [ih]; simp
      exact this n
    | succ c ih =>
      intro hc
      obtain ⟨a1, a2⟩ := hR c (by omega)
      have h3 := sumTo_change (f := fun i => if R (f i) = i ∧ f i < c then 1 else 0) (g := fun i => if R (f i) = i ∧ f i < c + 1 then 1 else 0) (v := R c) n a1 (fun i hi => by
        by_cases e : R (f i) = i
        · have : f i ≠ c := fun e2 => hi (by rw [← e2, e])
          simp only [e, true_and]
          by_cases h5 : f i < c
          · simp [h5, show f i < c + 1 by omega]
          · simp [h5, show ¬ f i < c + 1 by omega]
        · simp [e])
      simp only [a2] at h3
      simp at h3
      rw [ih (by omega)] at h3
      omega
  intro c hc
  rw [h1 c hc, h2 c (by omega)]
end Go.Proofs.Qxb6600624a
