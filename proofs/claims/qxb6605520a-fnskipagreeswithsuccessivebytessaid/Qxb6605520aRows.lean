/-
  No cell of these rows narrows 'for every input' (looked for: loops, veiled, ifaces, maps, wideKeys, modest, calm, conditions, laid).
  DERIVED. THE GIVEN ROWS OF THIS SEAT. 3 by the template 'for every input the law returns true; each argument reads behind the call as it read before'; 0 by the template 'total and deterministic' (their statements: Qxb6605520aTotals.lean).
  GIVEN WITH THE SEED: the statements are not yours to turn. If you find one false, say at which input.
  Laid BY PROGRAM, IN A SANDBOX (cutbox-rows.mjs): the forced cells as the released guide's own fill.sh prints them over the translation 1a8dc130fb090d0b… (all of the seat's roots in one cut). By AI agents, Wed Nov 11 2026. No macro, syntax, notation, axiom, sorry.
-/
import Derived.Test.Qxb6605520aChecked
import GoSem.Claim
import GoSem.ClaimJoined
import GoSem.ClaimMapViews
import Derived.JoinedTies
import Derived.KernelRfl
namespace Go.Proofs.Qxb6605520a
/- THE CELL 'sum', in the pinned program and in every row, IS THE sha256 OF THE DUMP (.gsa) THAT Qxb6605520aProg.lean LOADS. Nothing in Lean hashes anything: it is a label: what it is worth is what the hold of that sum in a sandbox is worth. -/
noncomputable def Try.pinned : Pinned := { name := "qxb6605520a", sum := "1a8dc130fb090d0b6e17d507290634ef812d24a65eddac9d0058f4e2eb2693f3", checked := Try.checked }
namespace Rows
def none {H : Type} : Left H := { results := [], args := [] }

/-- 'zzlaws_internal_redo_b1.FnByteReadsBackEveryByteThenRefuses': WHATEVER THE INPUT: true; the input reads as it did. -/
def fnByteReadsBackEveryByteThenRefusesSpec : ChangeSpec := { name := "fnByteReadsBackEveryByteThenRefuses", fn := fun _ => fun
  | [d1, d2] => { results := [.lit (.bool true)], args := [d1, d2] }
  | _ => none }
def fnByteReadsBackEveryByteThenRefusesRow : OpenClaim := { program := "qxb6605520a", sum := "1a8dc130fb090d0b6e17d507290634ef812d24a65eddac9d0058f4e2eb2693f3", func := "example.com/palimpsest/palimpsest/zzlaws_internal_redo_b1.FnByteReadsBackEveryByteThenRefuses", spec := "fnByteReadsBackEveryByteThenRefuses", apart := false }
def FnByteReadsBackEveryByteThenRefusesSaid : Prop := fnByteReadsBackEveryByteThenRefusesRow.holds Try.pinned (OpenSpec.ofChange fnByteReadsBackEveryByteThenRefusesSpec)

/-- ITS FALSE NEIGHBOUR: 'it returns false'. Refute it at one input. -/
def fnByteReadsBackEveryByteThenRefusesWrong : ChangeSpec := { name := "fnByteReadsBackEveryByteThenRefuses", fn := fun _ => fun
  | [d1, d2] => { results := [.lit (.bool false)], args := [d1, d2] }
  | _ => none }
def FnByteReadsBackEveryByteThenRefusesWrongFalsely : Prop := fnByteReadsBackEveryByteThenRefusesRow.holds Try.pinned (OpenSpec.ofChange fnByteReadsBackEveryByteThenRefusesWrong)

/-- 'zzlaws_internal_redo_b1.FnSkipAgreesWithSuccessiveBytes': WHATEVER THE INPUT: true; the input reads as it did. -/
def fnSkipAgreesWithSuccessiveBytesSpec : ChangeSpec := { name := "fnSkipAgreesWithSuccessiveBytes", fn := fun _ => fun
  | [d1, d2, d3] => { results := [.lit (.bool true)], args := [d1, d2, d3] }
  | _ => none }
def fnSkipAgreesWithSuccessiveBytesRow : OpenClaim := { program := "qxb6605520a", sum := "1a8dc130fb090d0b6e17d507290634ef812d24a65eddac9d0058f4e2eb2693f3", func := "example.com/palimpsest/palimpsest/zzlaws_internal_redo_b1.FnSkipAgreesWithSuccessiveBytes", spec := "fnSkipAgreesWithSuccessiveBytes", apart := false }
def FnSkipAgreesWithSuccessiveBytesSaid : Prop := fnSkipAgreesWithSuccessiveBytesRow.holds Try.pinned (OpenSpec.ofChange fnSkipAgreesWithSuccessiveBytesSpec)

/-- ITS FALSE NEIGHBOUR: 'it returns false'. Refute it at one input. -/
def fnSkipAgreesWithSuccessiveBytesWrong : ChangeSpec := { name := "fnSkipAgreesWithSuccessiveBytes", fn := fun _ => fun
  | [d1, d2, d3] => { results := [.lit (.bool false)], args := [d1, d2, d3] }
  | _ => none }
def FnSkipAgreesWithSuccessiveBytesWrongFalsely : Prop := fnSkipAgreesWithSuccessiveBytesRow.holds Try.pinned (OpenSpec.ofChange fnSkipAgreesWithSuccessiveBytesWrong)

/-- 'zzlaws_internal_redo_b1.FnSkipComposes': WHATEVER THE INPUT: true; the input reads as it did. -/
def fnSkipComposesSpec : ChangeSpec := { name := "fnSkipComposes", fn := fun _ => fun
  | [d1, d2, d3, d4] => { results := [.lit (.bool true)], args := [d1, d2, d3, d4] }
  | _ => none }
def fnSkipComposesRow : OpenClaim := { program := "qxb6605520a", sum := "1a8dc130fb090d0b6e17d507290634ef812d24a65eddac9d0058f4e2eb2693f3", func := "example.com/palimpsest/palimpsest/zzlaws_internal_redo_b1.FnSkipComposes", spec := "fnSkipComposes", apart := false }
def FnSkipComposesSaid : Prop := fnSkipComposesRow.holds Try.pinned (OpenSpec.ofChange fnSkipComposesSpec)

/-- ITS FALSE NEIGHBOUR: 'it returns false'. Refute it at one input. -/
def fnSkipComposesWrong : ChangeSpec := { name := "fnSkipComposes", fn := fun _ => fun
  | [d1, d2, d3, d4] => { results := [.lit (.bool false)], args := [d1, d2, d3, d4] }
  | _ => none }
def FnSkipComposesWrongFalsely : Prop := fnSkipComposesRow.holds Try.pinned (OpenSpec.ofChange fnSkipComposesWrong)

end Rows
end Go.Proofs.Qxb6605520a
