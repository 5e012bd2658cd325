/-
  No cell of these rows narrows 'for every input' (looked for: loops, veiled, ifaces, maps, wideKeys, modest, calm, conditions, laid).
  DERIVED. THE GIVEN ROWS OF THIS SEAT. 2 by the template 'for every input the law returns true; each argument reads behind the call as it read before'; 0 by the template 'total and deterministic' (their statements: Qxb6630238aTotals.lean).
  GIVEN WITH THE SEED: the statements are not yours to turn. If you find one false, say at which input.
  Laid BY PROGRAM, IN A SANDBOX (cutbox-rows.mjs): the forced cells as the released guide's own fill.sh prints them over the translation 4ee81a69563dd24a… (all of the seat's roots in one cut). By AI agents, Wed Nov 11 2026. No macro, syntax, notation, axiom, sorry.
-/
import Derived.Test.Qxb6630238aChecked
import GoSem.Claim
import GoSem.ClaimJoined
import GoSem.ClaimMapViews
import Derived.JoinedTies
import Derived.KernelRfl
namespace Go.Proofs.Qxb6630238a
/- THE CELL 'sum', in the pinned program and in every row, IS THE sha256 OF THE DUMP (.gsa) THAT Qxb6630238aProg.lean LOADS. Nothing in Lean hashes anything: it is a label: what it is worth is what the hold of that sum in a sandbox is worth. -/
noncomputable def Try.pinned : Pinned := { name := "qxb6630238a", sum := "4ee81a69563dd24a965da69883428685d1b674ae2af5c0684f4dde63ae352a57", checked := Try.checked }
namespace Rows
def none {H : Type} : Left H := { results := [], args := [] }

/-- 'zzlaws_internal_route_b1.FnNewTableJoinAgreesWithParts': WHATEVER THE INPUT: true; the input reads as it did. -/
def fnNewTableJoinAgreesWithPartsSpec : ChangeSpec := { name := "fnNewTableJoinAgreesWithParts", fn := fun _ => fun
  | [d1, d2, d3, d4] => { results := [.lit (.bool true)], args := [d1, d2, d3, d4] }
  | _ => none }
def fnNewTableJoinAgreesWithPartsRow : OpenClaim := { program := "qxb6630238a", sum := "4ee81a69563dd24a965da69883428685d1b674ae2af5c0684f4dde63ae352a57", func := "example.com/shortwire/shortwire/zzlaws_internal_route_b1.FnNewTableJoinAgreesWithParts", spec := "fnNewTableJoinAgreesWithParts", apart := false }
def FnNewTableJoinAgreesWithPartsSaid : Prop := fnNewTableJoinAgreesWithPartsRow.holds Try.pinned (OpenSpec.ofChange fnNewTableJoinAgreesWithPartsSpec)

/-- ITS FALSE NEIGHBOUR: 'it returns false'. Refute it at one input. -/
def fnNewTableJoinAgreesWithPartsWrong : ChangeSpec := { name := "fnNewTableJoinAgreesWithParts", fn := fun _ => fun
  | [d1, d2, d3, d4] => { results := [.lit (.bool false)], args := [d1, d2, d3, d4] }
  | _ => none }
def FnNewTableJoinAgreesWithPartsWrongFalsely : Prop := fnNewTableJoinAgreesWithPartsRow.holds Try.pinned (OpenSpec.ofChange fnNewTableJoinAgreesWithPartsWrong)

/-- 'zzlaws_internal_route_b1.FnNewTableFreshRouteInsertedAnywhere': WHATEVER THE INPUT: true; the input reads as it did. -/
def fnNewTableFreshRouteInsertedAnywhereSpec : ChangeSpec := { name := "fnNewTableFreshRouteInsertedAnywhere", fn := fun _ => fun
  | [d1, d2, d3, d4, d5, d6] => { results := [.lit (.bool true)], args := [d1, d2, d3, d4, d5, d6] }
  | _ => none }
def fnNewTableFreshRouteInsertedAnywhereRow : OpenClaim := { program := "qxb6630238a", sum := "4ee81a69563dd24a965da69883428685d1b674ae2af5c0684f4dde63ae352a57", func := "example.com/shortwire/shortwire/zzlaws_internal_route_b1.FnNewTableFreshRouteInsertedAnywhere", spec := "fnNewTableFreshRouteInsertedAnywhere", apart := false }
def FnNewTableFreshRouteInsertedAnywhereSaid : Prop := fnNewTableFreshRouteInsertedAnywhereRow.holds Try.pinned (OpenSpec.ofChange fnNewTableFreshRouteInsertedAnywhereSpec)

/-- ITS FALSE NEIGHBOUR: 'it returns false'. Refute it at one input. -/
def fnNewTableFreshRouteInsertedAnywhereWrong : ChangeSpec := { name := "fnNewTableFreshRouteInsertedAnywhere", fn := fun _ => fun
  | [d1, d2, d3, d4, d5, d6] => { results := [.lit (.bool false)], args := [d1, d2, d3, d4, d5, d6] }
  | _ => none }
def FnNewTableFreshRouteInsertedAnywhereWrongFalsely : Prop := fnNewTableFreshRouteInsertedAnywhereRow.holds Try.pinned (OpenSpec.ofChange fnNewTableFreshRouteInsertedAnywhereWrong)

end Rows
end Go.Proofs.Qxb6630238a
