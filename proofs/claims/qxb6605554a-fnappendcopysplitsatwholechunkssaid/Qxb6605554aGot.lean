import Derived.Test.Qxb6605554aCopyWalk
import Derived.Test.Qxb6605554aPlain2
import Derived.WalkSmall
set_option linter.unusedVariables false
set_option linter.unusedSimpArgs false
namespace Go.Proofs.Qxb6605554a
open Go.RowKit

/-- What is known of the slice that ZZappendCopy hands back. -/
structure Got (base : Nat) (w' : World) (T : List Int) (a : Option Addr) (c g : Nat) : Prop where
  own : w'.ownsRow base 5 1 (.slice a T.length c) T.length (T.map (Value.int .u8))
  at0 : 0 < T.length → a = some ⟨g, 0, none⟩
  cell : ∀ i, i < T.length → w'.cell? ⟨g, i, none⟩ = some (.int .u8 (T.getD i 0))
  le : 0 < T.length → base ≤ g

theorem got_of {base : Nat} {w' : World} {T : List Int} {v : Value} (h : w'.ownsRow base 5 1 v T.length (T.map (Value.int .u8))) : ∃ a c g, v = .slice a T.length c ∧ Got base w' T a c g := by
  have h0 := h
  rcases h.2 with ⟨rfl, hn⟩ | ⟨g, cap, cur, rfl, hb, hg, hr⟩
  · refine ⟨none, 0, 0, by rw [hn], by rw [hn]; rw [hn] at h0; exact h0, fun h => by omega, fun i hi => by omega, fun h => by omega⟩
  · refine ⟨_, cap, g, rfl, h0, fun _ => rfl, fun i hi => ?_, fun _ => hb⟩
    rw [h0.cellAt i (by omega)]
    simp [hi]

theorem isRow_cells {k : IntKind} {w : World} {a : Option Addr} {n c : Nat} {zs : List Int} (h : IsRow k w a n c zs) : ∃ b o, (0 < n → a = some ⟨b, o, none⟩) ∧ ∀ i, i < n → w.cell? ⟨b, o + i, none⟩ = some (.int k (zs.getD i 0)) := by
  rcases h with ⟨rfl, rfl, rfl, rfl⟩ | ⟨x, rfl, hl, hm, hz, hc, hwf⟩
  · exact ⟨0, 0, fun h => by omega, fun i hi => by omega⟩
  · have hx : 0 < n → x = ⟨x.block, x.off, none⟩ := fun h0 => by
      have := hc 0 (by omega)
      simp only [Addr.add_zero'] at this
      exact cell_spot this
    refine ⟨x.block, x.off, fun h => by rw [← hx h], fun i hi => ?_⟩
    have h1 := hc i (by omega)
    rw [hx (by omega), addr_add_none] at h1
    exact h1

theorem zzAppendCopy (v : Value) (zs : List Int) (base : Nat) (off size : Int) (F : Nat) (w : World) (h : w.ownsRow base 5 1 v zs.length (zs.map (Value.int .u8))) (hb : base ≤ w.heap.size) (hlen : zs.length + 7 * F ≤ 1900000)
    (hs : size ≤ 65536 * F) (hs0 : size ≤ 1073741824) (ho : -9223372036854775808 ≤ off) (ho2 : off ≤ 9223372036854775807) :
    Calls Try.prog 10 #[v, .int .i64 off, .int .i64 size] w fun e w' => ∃ a c g, e = .returned (.slice a (zs ++ enc F off size).length c) ∧ Got base w' (zs ++ enc F off size) a c g ∧ Below base w w' := by
  obtain ⟨T, HT⟩ : ∃ T, Hid (T = zs ++ enc F off size) := ⟨_, rfl⟩
  have HT' : zs ++ enc F off size = T := HT.out.symm
  rw [HT']
  clear HT'
  go_enter Try.func10, Try.ntmps10
  go_wp2_with fail
  refine (appendCopy_any v zs base off size F w h hb hlen hs hs0 ho ho2).mono ?_
  rintro e w' ⟨v', rfl, hown, hbel⟩
  rw [← HT.out] at hown
  obtain ⟨a, c, g, rfl, hgot⟩ := got_of hown
  clear hown h
  go_wp2
  go_ret
  exact ⟨a, c, g, rfl, hgot, hbel⟩

end Go.Proofs.Qxb6605554a
