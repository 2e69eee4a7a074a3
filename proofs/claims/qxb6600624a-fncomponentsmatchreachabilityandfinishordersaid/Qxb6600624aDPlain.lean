import Derived.Test.Qxb6600624aTSteps
set_option linter.unusedVariables false
set_option linter.unusedSimpArgs false
namespace Go.Proofs.Qxb6600624a

/-- The depth-first search's numbers. -/
structure DS where
  pre : Nat → Nat
  post : Nat → Nat
  a : Nat
  b : Nat
def D0 : DS := ⟨fun _ => 0, fun _ => 0, 0, 0⟩
def DS.visit (d : DS) (v : Nat) : DS := ⟨upd d.pre v (d.a + 1), d.post, d.a + 1, d.b⟩
def DS.fin (d : DS) (v : Nat) : DS := ⟨d.pre, upd d.post v (d.b + 1), d.a, d.b + 1⟩
abbrev Cf := DS × List (Nat × Nat)
/-- One step of the search, the top frame first. -/
def mstep (adj : Nat → List Nat) : Cf → Cf
  | (d, []) => (d, [])
  | (d, (v, k) :: fs) => match (adj v)[k]? with
    | some x => if d.pre x = 0 then (d.visit x, (x, 0) :: (v, k + 1) :: fs) else (d, (v, k + 1) :: fs)
    | none => (d.fin v, fs)
def runs (adj : Nat → List Nat) : Nat → Cf → Cf
  | 0, c => c
  | k + 1, c => runs adj k (mstep adj c)
section
variable {adj : Nat → List Nat}
theorem runs_add : ∀ i j c, runs adj (i + j) c = runs adj j (runs adj i c)
  | 0, j, c => by rw [Nat.zero_add]; rfl
  | i + 1, j, c => by rw [show i + 1 + j = (i + j) + 1 by omega]; exact runs_add i j (mstep adj c)
theorem runs_succ (i : Nat) (c : Cf) : runs adj (i + 1) c = mstep adj (runs adj i c) := runs_add i 1 c
theorem runs_empty : ∀ k d, runs adj k (d, []) = (d, [])
  | 0, d => rfl
  | k + 1, d => runs_empty k d
theorem runs_unique {i j : Nat} {c : Cf} {d d' : DS} (h : runs adj i c = (d, [])) (h' : runs adj j c = (d', [])) : d = d' := by
  rcases Nat.le_total i j with hij | hij
  · have e : j = i + (j - i) := by omega
    rw [e, runs_add, h, runs_empty] at h'
    exact (Prod.mk.injEq ..▸ h').1
  · have e : i = j + (i - j) := by omega
    rw [e, runs_add, h', runs_empty] at h
    exact ((Prod.mk.injEq ..▸ h).1).symm
theorem mstep_pre (c : Cf) (x : Nat) (h : c.1.pre x ≠ 0) : (mstep adj c).1.pre x ≠ 0 := by
  obtain ⟨d, fs⟩ := c
  cases fs with
  | nil => exact h
  | cons f fs =>
    obtain ⟨v, k⟩ := f
    simp only [mstep]
    split
    · split
      · simp only [DS.visit, upd]
        split
        · omega
        · exact h
      · exact h
    · exact h
theorem runs_pre : ∀ k (c : Cf) (x : Nat), c.1.pre x ≠ 0 → (runs adj k c).1.pre x ≠ 0
  | 0, c, x, h => h
  | k + 1, c, x, h => runs_pre k _ x (mstep_pre c x h)
end

/-- The numbers when the roots below r have been taken. -/
def Reached (adj : Nat → List Nat) : Nat → DS → Prop
  | 0, d => d = D0
  | r + 1, d' => ∃ d, Reached adj r d ∧ ((d.pre r ≠ 0 ∧ d' = d) ∨ (d.pre r = 0 ∧ ∃ k, runs adj k (d.visit r, [(r, 0)]) = (d', [])))
theorem reached_unique (adj : Nat → List Nat) : ∀ r d d', Reached adj r d → Reached adj r d' → d = d'
  | 0, d, d', h, h' => h.trans h'.symm
  | r + 1, d, d', ⟨e, he, h⟩, ⟨e', he', h'⟩ => by
    obtain rfl := reached_unique adj r e e' he he'
    rcases h with ⟨h1, rfl⟩ | ⟨h1, k, h2⟩
    · rcases h' with ⟨h1', rfl⟩ | ⟨h1', k', h2'⟩
      · rfl
      · exact absurd h1' h1
    · rcases h' with ⟨h1', rfl⟩ | ⟨h1', k', h2'⟩
      · exact absurd h1 h1'
      · exact runs_unique h2 h2'

def TS.ds (T : TS) : DS := ⟨T.idx, T.post, T.vis, T.pn⟩
def TS.cf (T : TS) : Cf := (T.ds, T.frs.reverse)
/-- The search's state is one that the depth-first search comes to. -/
def OnRun (adj : Nat → List Nat) (r : Nat) (T : TS) : Prop :=
  ∃ d, Reached adj r d ∧ (T.cf = (d, []) ∨ (d.pre r = 0 ∧ ∃ k, runs adj k (d.visit r, [(r, 0)]) = T.cf))
section
variable {adj : Nat → List Nat} {r : Nat} {T : TS}
theorem cf_empty (h : T.segs = []) : T.cf = (T.ds, []) := by simp [TS.cf, TS.frs, frsOf, h]
theorem cf_top {S : List Sg} {v k : Nat} {D : List Nat} (h : T.segs = S ++ [(v, k, D)]) : T.cf = (T.ds, (v, k) :: (frsOf S).reverse) := by simp [TS.cf, TS.frs, frsOf, h]
theorem OnRun.start : OnRun adj 0 T0 := ⟨D0, rfl, .inl rfl⟩
theorem OnRun.skip (h : OnRun adj r T) (h0 : T.segs = []) (hi : T.idx r ≠ 0) : OnRun adj (r + 1) T := by
  obtain ⟨d, hd, h1⟩ := h
  rw [cf_empty h0] at h1
  refine ⟨T.ds, ⟨d, hd, ?_⟩, .inl (cf_empty h0)⟩
  rcases h1 with h1 | ⟨h1, k, h2⟩
  · have e : T.ds = d := congrArg Prod.fst h1
    exact .inl ⟨by rw [← e]; exact hi, e⟩
  · exact .inr ⟨h1, k, h2⟩
theorem OnRun.root (h : OnRun adj r T) (h0 : T.segs = []) (hi : T.idx r = 0) : OnRun adj r (T.visit r) := by
  obtain ⟨d, hd, h1⟩ := h
  rw [cf_empty h0] at h1
  refine ⟨d, hd, .inr ?_⟩
  rcases h1 with h1 | ⟨h1, k, h2⟩
  · have e : T.ds = d := congrArg Prod.fst h1
    subst e
    refine ⟨hi, 0, ?_⟩
    show (T.ds.visit r, [(r, 0)]) = ((T.visit r).ds, (frsOf (T.segs ++ [(r, 0, [])])).reverse)
    rw [h0]
    rfl
  · have := runs_pre (adj := adj) k (d.visit r, [(r, 0)]) r (by show upd d.pre r (d.a + 1) r ≠ 0; rw [upd_same]; omega)
    rw [h2] at this
    exact absurd hi this
theorem OnRun.step {T' : TS} (h : OnRun adj r T) (hs : T.segs ≠ []) (e : mstep adj T.cf = T'.cf) : OnRun adj r T' := by
  obtain ⟨d, hd, h1⟩ := h
  refine ⟨d, hd, .inr ?_⟩
  rcases h1 with h1 | ⟨h1, k, h2⟩
  · have : T.frs.reverse = [] := congrArg Prod.snd h1
    simp [TS.frs, frsOf] at this
    exact absurd this hs
  · exact ⟨h1, k + 1, by rw [runs_succ, h2, e]⟩
end
end Go.Proofs.Qxb6600624a
