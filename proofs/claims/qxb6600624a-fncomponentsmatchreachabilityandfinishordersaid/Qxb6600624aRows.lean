/-
  No cell of these rows narrows 'for every input' (looked for: loops, veiled, ifaces, maps, wideKeys, modest, calm, conditions, laid).
  DERIVED. THE GIVEN ROWS OF THIS SEAT. 4 by the template 'for every input the law returns true; each argument reads behind the call as it read before'; 0 by the template 'total and deterministic' (their statements: Qxb6600624aTotals.lean).
  GIVEN WITH THE SEED: the statements are not yours to turn. If you find one false, say at which input.
  Laid BY PROGRAM, IN A SANDBOX (cutbox-rows.mjs): the forced cells as the released guide's own fill.sh prints them over the translation 8faae9d87572991c… (all of the seat's roots in one cut). By AI agents, Wed Nov 11 2026. No macro, syntax, notation, axiom, sorry.
-/
import Derived.Test.Qxb6600624aChecked
import GoSem.Claim
import GoSem.ClaimJoined
import GoSem.ClaimMapViews
import Derived.JoinedTies
import Derived.KernelRfl
namespace Go.Proofs.Qxb6600624a
/- THE CELL 'sum', in the pinned program and in every row, IS THE sha256 OF THE DUMP (.gsa) THAT Qxb6600624aProg.lean LOADS. Nothing in Lean hashes anything: it is a label: what it is worth is what the hold of that sum in a sandbox is worth. -/
noncomputable def Try.pinned : Pinned := { name := "qxb6600624a", sum := "8faae9d87572991cd25c0a6323de27c1f63af0a8da9742f752016b6363aae90a", checked := Try.checked }
namespace Rows
def none {H : Type} : Left H := { results := [], args := [] }

/-- 'zzlaws_pkg_checker_b1.FnComponentsMatchReachabilityAndFinishOrder': WHATEVER THE INPUT: true; the input reads as it did. -/
def fnComponentsMatchReachabilityAndFinishOrderSpec : ChangeSpec := { name := "fnComponentsMatchReachabilityAndFinishOrder", fn := fun _ => fun
  | [d] => { results := [.lit (.bool true)], args := [d] }
  | _ => none }
def fnComponentsMatchReachabilityAndFinishOrderRow : OpenClaim := { program := "qxb6600624a", sum := "8faae9d87572991cd25c0a6323de27c1f63af0a8da9742f752016b6363aae90a", func := "example.com/anomalist/anomalist/zzlaws_pkg_checker_b1.FnComponentsMatchReachabilityAndFinishOrder", spec := "fnComponentsMatchReachabilityAndFinishOrder", unfollowed := true, recurses := true, apart := false }
def FnComponentsMatchReachabilityAndFinishOrderSaid : Prop := fnComponentsMatchReachabilityAndFinishOrderRow.holds Try.pinned (OpenSpec.ofChange fnComponentsMatchReachabilityAndFinishOrderSpec)

/-- ITS FALSE NEIGHBOUR: 'it returns false'. Refute it at one input. -/
def fnComponentsMatchReachabilityAndFinishOrderWrong : ChangeSpec := { name := "fnComponentsMatchReachabilityAndFinishOrder", fn := fun _ => fun
  | [d] => { results := [.lit (.bool false)], args := [d] }
  | _ => none }
def FnComponentsMatchReachabilityAndFinishOrderWrongFalsely : Prop := fnComponentsMatchReachabilityAndFinishOrderRow.holds Try.pinned (OpenSpec.ofChange fnComponentsMatchReachabilityAndFinishOrderWrong)

/-- 'zzlaws_pkg_checker_b1.FnComponentsNumberedSinksFirst': WHATEVER THE INPUT: true; the input reads as it did. -/
def fnComponentsNumberedSinksFirstSpec : ChangeSpec := { name := "fnComponentsNumberedSinksFirst", fn := fun _ => fun
  | [d] => { results := [.lit (.bool true)], args := [d] }
  | _ => none }
def fnComponentsNumberedSinksFirstRow : OpenClaim := { program := "qxb6600624a", sum := "8faae9d87572991cd25c0a6323de27c1f63af0a8da9742f752016b6363aae90a", func := "example.com/anomalist/anomalist/zzlaws_pkg_checker_b1.FnComponentsNumberedSinksFirst", spec := "fnComponentsNumberedSinksFirst", unfollowed := true, recurses := true, apart := false }
def FnComponentsNumberedSinksFirstSaid : Prop := fnComponentsNumberedSinksFirstRow.holds Try.pinned (OpenSpec.ofChange fnComponentsNumberedSinksFirstSpec)

/-- ITS FALSE NEIGHBOUR: 'it returns false'. Refute it at one input. -/
def fnComponentsNumberedSinksFirstWrong : ChangeSpec := { name := "fnComponentsNumberedSinksFirst", fn := fun _ => fun
  | [d] => { results := [.lit (.bool false)], args := [d] }
  | _ => none }
def FnComponentsNumberedSinksFirstWrongFalsely : Prop := fnComponentsNumberedSinksFirstRow.holds Try.pinned (OpenSpec.ofChange fnComponentsNumberedSinksFirstWrong)

/-- 'zzlaws_pkg_checker_b1.FnClosingWalkIsFirstShortestClosingWalk': WHATEVER THE INPUT: true; the input reads as it did. -/
def fnClosingWalkIsFirstShortestClosingWalkSpec : ChangeSpec := { name := "fnClosingWalkIsFirstShortestClosingWalk", fn := fun _ => fun
  | [d1, d2, d3, d4] => { results := [.lit (.bool true)], args := [d1, d2, d3, d4] }
  | _ => none }
def fnClosingWalkIsFirstShortestClosingWalkRow : OpenClaim := { program := "qxb6600624a", sum := "8faae9d87572991cd25c0a6323de27c1f63af0a8da9742f752016b6363aae90a", func := "example.com/anomalist/anomalist/zzlaws_pkg_checker_b1.FnClosingWalkIsFirstShortestClosingWalk", spec := "fnClosingWalkIsFirstShortestClosingWalk", unfollowed := true, recurses := true, apart := false }
def FnClosingWalkIsFirstShortestClosingWalkSaid : Prop := fnClosingWalkIsFirstShortestClosingWalkRow.holds Try.pinned (OpenSpec.ofChange fnClosingWalkIsFirstShortestClosingWalkSpec)

/-- ITS FALSE NEIGHBOUR: 'it returns false'. Refute it at one input. -/
def fnClosingWalkIsFirstShortestClosingWalkWrong : ChangeSpec := { name := "fnClosingWalkIsFirstShortestClosingWalk", fn := fun _ => fun
  | [d1, d2, d3, d4] => { results := [.lit (.bool false)], args := [d1, d2, d3, d4] }
  | _ => none }
def FnClosingWalkIsFirstShortestClosingWalkWrongFalsely : Prop := fnClosingWalkIsFirstShortestClosingWalkRow.holds Try.pinned (OpenSpec.ofChange fnClosingWalkIsFirstShortestClosingWalkWrong)

/-- 'zzlaws_pkg_checker_b1.FnClosingWalkBudgetOnlyCutsShort': WHATEVER THE INPUT: true; the input reads as it did. -/
def fnClosingWalkBudgetOnlyCutsShortSpec : ChangeSpec := { name := "fnClosingWalkBudgetOnlyCutsShort", fn := fun _ => fun
  | [d1, d2, d3, d4, d5] => { results := [.lit (.bool true)], args := [d1, d2, d3, d4, d5] }
  | _ => none }
def fnClosingWalkBudgetOnlyCutsShortRow : OpenClaim := { program := "qxb6600624a", sum := "8faae9d87572991cd25c0a6323de27c1f63af0a8da9742f752016b6363aae90a", func := "example.com/anomalist/anomalist/zzlaws_pkg_checker_b1.FnClosingWalkBudgetOnlyCutsShort", spec := "fnClosingWalkBudgetOnlyCutsShort", unfollowed := true, recurses := true, apart := false }
def FnClosingWalkBudgetOnlyCutsShortSaid : Prop := fnClosingWalkBudgetOnlyCutsShortRow.holds Try.pinned (OpenSpec.ofChange fnClosingWalkBudgetOnlyCutsShortSpec)

/-- ITS FALSE NEIGHBOUR: 'it returns false'. Refute it at one input. -/
def fnClosingWalkBudgetOnlyCutsShortWrong : ChangeSpec := { name := "fnClosingWalkBudgetOnlyCutsShort", fn := fun _ => fun
  | [d1, d2, d3, d4, d5] => { results := [.lit (.bool false)], args := [d1, d2, d3, d4, d5] }
  | _ => none }
def FnClosingWalkBudgetOnlyCutsShortWrongFalsely : Prop := fnClosingWalkBudgetOnlyCutsShortRow.holds Try.pinned (OpenSpec.ofChange fnClosingWalkBudgetOnlyCutsShortWrong)

end Rows
end Go.Proofs.Qxb6600624a
