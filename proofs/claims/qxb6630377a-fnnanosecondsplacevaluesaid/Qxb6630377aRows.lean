/-
  No cell of these rows narrows 'for every input' (looked for: loops, veiled, ifaces, maps, wideKeys, modest, calm, conditions, laid).
  DERIVED. THE GIVEN ROWS OF THIS SEAT. 2 by the template 'for every input the law returns true; each argument reads behind the call as it read before'; 0 by the template 'total and deterministic' (their statements: Qxb6630377aTotals.lean).
  GIVEN WITH THE SEED: the statements are not yours to turn. If you find one false, say at which input.
  Laid BY PROGRAM, IN A SANDBOX (cutbox-rows.mjs): the forced cells as the released guide's own fill.sh prints them over the translation bda61697caee93ca… (all of the seat's roots in one cut). By AI agents, Wed Nov 11 2026. No macro, syntax, notation, axiom, sorry.
-/
import Derived.Test.Qxb6630377aChecked
import GoSem.Claim
import GoSem.ClaimJoined
import GoSem.ClaimMapViews
import Derived.JoinedTies
import Derived.KernelRfl
namespace Go.Proofs.Qxb6630377a
/- THE CELL 'sum', in the pinned program and in every row, IS THE sha256 OF THE DUMP (.gsa) THAT Qxb6630377aProg.lean LOADS. Nothing in Lean hashes anything: it is a label: what it is worth is what the hold of that sum in a sandbox is worth. -/
noncomputable def Try.pinned : Pinned := { name := "qxb6630377a", sum := "bda61697caee93caa111922c00f970387721a318dddd9eca283ac6d47d847006", checked := Try.checked }
namespace Rows
def none {H : Type} : Left H := { results := [], args := [] }

/-- 'zzlaws_trace_b1.FnNanosecondsInsertOne': WHATEVER THE INPUT: true; the input reads as it did. -/
def fnNanosecondsInsertOneSpec : ChangeSpec := { name := "fnNanosecondsInsertOne", fn := fun _ => fun
  | [d1, d2, d3] => { results := [.lit (.bool true)], args := [d1, d2, d3] }
  | _ => none }
def fnNanosecondsInsertOneRow : OpenClaim := { program := "qxb6630377a", sum := "bda61697caee93caa111922c00f970387721a318dddd9eca283ac6d47d847006", func := "example.com/tollgate/zzlaws_trace_b1.FnNanosecondsInsertOne", spec := "fnNanosecondsInsertOne", apart := false }
def FnNanosecondsInsertOneSaid : Prop := fnNanosecondsInsertOneRow.holds Try.pinned (OpenSpec.ofChange fnNanosecondsInsertOneSpec)

/-- ITS FALSE NEIGHBOUR: 'it returns false'. Refute it at one input. -/
def fnNanosecondsInsertOneWrong : ChangeSpec := { name := "fnNanosecondsInsertOne", fn := fun _ => fun
  | [d1, d2, d3] => { results := [.lit (.bool false)], args := [d1, d2, d3] }
  | _ => none }
def FnNanosecondsInsertOneWrongFalsely : Prop := fnNanosecondsInsertOneRow.holds Try.pinned (OpenSpec.ofChange fnNanosecondsInsertOneWrong)

/-- 'zzlaws_trace_b1.FnNanosecondsPlaceValue': WHATEVER THE INPUT: true; the input reads as it did. -/
def fnNanosecondsPlaceValueSpec : ChangeSpec := { name := "fnNanosecondsPlaceValue", fn := fun _ => fun
  | [d1, d2] => { results := [.lit (.bool true)], args := [d1, d2] }
  | _ => none }
def fnNanosecondsPlaceValueRow : OpenClaim := { program := "qxb6630377a", sum := "bda61697caee93caa111922c00f970387721a318dddd9eca283ac6d47d847006", func := "example.com/tollgate/zzlaws_trace_b1.FnNanosecondsPlaceValue", spec := "fnNanosecondsPlaceValue", apart := false }
def FnNanosecondsPlaceValueSaid : Prop := fnNanosecondsPlaceValueRow.holds Try.pinned (OpenSpec.ofChange fnNanosecondsPlaceValueSpec)

/-- ITS FALSE NEIGHBOUR: 'it returns false'. Refute it at one input. -/
def fnNanosecondsPlaceValueWrong : ChangeSpec := { name := "fnNanosecondsPlaceValue", fn := fun _ => fun
  | [d1, d2] => { results := [.lit (.bool false)], args := [d1, d2] }
  | _ => none }
def FnNanosecondsPlaceValueWrongFalsely : Prop := fnNanosecondsPlaceValueRow.holds Try.pinned (OpenSpec.ofChange fnNanosecondsPlaceValueWrong)

end Rows
end Go.Proofs.Qxb6630377a
