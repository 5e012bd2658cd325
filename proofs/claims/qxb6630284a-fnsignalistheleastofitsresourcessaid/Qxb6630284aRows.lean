/-
  No cell of these rows narrows 'for every input' (looked for: loops, veiled, ifaces, maps, wideKeys, modest, calm, conditions, laid).
  DERIVED. THE GIVEN ROWS OF THIS SEAT. 2 by the template 'for every input the law returns true; each argument reads behind the call as it read before'; 0 by the template 'total and deterministic' (their statements: Qxb6630284aTotals.lean).
  GIVEN WITH THE SEED: the statements are not yours to turn. If you find one false, say at which input.
  Laid BY PROGRAM, IN A SANDBOX (cutbox-rows.mjs): the forced cells as the released guide's own fill.sh prints them over the translation b63f76e99f43fd9a… (all of the seat's roots in one cut). By AI agents, Wed Nov 11 2026. No macro, syntax, notation, axiom, sorry.
-/
import Derived.Test.Qxb6630284aChecked
import GoSem.Claim
import GoSem.ClaimJoined
import GoSem.ClaimMapViews
import Derived.JoinedTies
import Derived.KernelRfl
namespace Go.Proofs.Qxb6630284a
/- THE CELL 'sum', in the pinned program and in every row, IS THE sha256 OF THE DUMP (.gsa) THAT Qxb6630284aProg.lean LOADS. Nothing in Lean hashes anything: it is a label: what it is worth is what the hold of that sum in a sandbox is worth. -/
noncomputable def Try.pinned : Pinned := { name := "qxb6630284a", sum := "b63f76e99f43fd9adac0278e9c7aed4bbf2b4b61faf95c26ec7ece88b9c7d586", checked := Try.checked }
namespace Rows
def none {H : Type} : Left H := { results := [], args := [] }

/-- 'zzlaws_internal_capacity_b1.FnSignalIsTheLeastOfItsResources': WHATEVER THE INPUT: true; the input reads as it did. -/
def fnSignalIsTheLeastOfItsResourcesSpec : ChangeSpec := { name := "fnSignalIsTheLeastOfItsResources", fn := fun _ => fun
  | [d1, d2, d3, d4, d5, d6, d7] => { results := [.lit (.bool true)], args := [d1, d2, d3, d4, d5, d6, d7] }
  | _ => none }
def fnSignalIsTheLeastOfItsResourcesRow : OpenClaim := { program := "qxb6630284a", sum := "b63f76e99f43fd9adac0278e9c7aed4bbf2b4b61faf95c26ec7ece88b9c7d586", func := "example.com/ballast/ballast/zzlaws_internal_capacity_b1.FnSignalIsTheLeastOfItsResources", spec := "fnSignalIsTheLeastOfItsResources", inPlace := ["math.Float64frombits"], apart := false }
def FnSignalIsTheLeastOfItsResourcesSaid : Prop := fnSignalIsTheLeastOfItsResourcesRow.holds Try.pinned (OpenSpec.ofChange fnSignalIsTheLeastOfItsResourcesSpec)

/-- ITS FALSE NEIGHBOUR: 'it returns false'. Refute it at one input. -/
def fnSignalIsTheLeastOfItsResourcesWrong : ChangeSpec := { name := "fnSignalIsTheLeastOfItsResources", fn := fun _ => fun
  | [d1, d2, d3, d4, d5, d6, d7] => { results := [.lit (.bool false)], args := [d1, d2, d3, d4, d5, d6, d7] }
  | _ => none }
def FnSignalIsTheLeastOfItsResourcesWrongFalsely : Prop := fnSignalIsTheLeastOfItsResourcesRow.holds Try.pinned (OpenSpec.ofChange fnSignalIsTheLeastOfItsResourcesWrong)

/-- 'zzlaws_internal_capacity_b1.FnSignalOrderFreeAndFallsAsUseRises': WHATEVER THE INPUT: true; the input reads as it did. -/
def fnSignalOrderFreeAndFallsAsUseRisesSpec : ChangeSpec := { name := "fnSignalOrderFreeAndFallsAsUseRises", fn := fun _ => fun
  | [d1, d2, d3, d4, d5, d6, d7, d8] => { results := [.lit (.bool true)], args := [d1, d2, d3, d4, d5, d6, d7, d8] }
  | _ => none }
def fnSignalOrderFreeAndFallsAsUseRisesRow : OpenClaim := { program := "qxb6630284a", sum := "b63f76e99f43fd9adac0278e9c7aed4bbf2b4b61faf95c26ec7ece88b9c7d586", func := "example.com/ballast/ballast/zzlaws_internal_capacity_b1.FnSignalOrderFreeAndFallsAsUseRises", spec := "fnSignalOrderFreeAndFallsAsUseRises", inPlace := ["math.Float64frombits"], apart := false }
def FnSignalOrderFreeAndFallsAsUseRisesSaid : Prop := fnSignalOrderFreeAndFallsAsUseRisesRow.holds Try.pinned (OpenSpec.ofChange fnSignalOrderFreeAndFallsAsUseRisesSpec)

/-- ITS FALSE NEIGHBOUR: 'it returns false'. Refute it at one input. -/
def fnSignalOrderFreeAndFallsAsUseRisesWrong : ChangeSpec := { name := "fnSignalOrderFreeAndFallsAsUseRises", fn := fun _ => fun
  | [d1, d2, d3, d4, d5, d6, d7, d8] => { results := [.lit (.bool false)], args := [d1, d2, d3, d4, d5, d6, d7, d8] }
  | _ => none }
def FnSignalOrderFreeAndFallsAsUseRisesWrongFalsely : Prop := fnSignalOrderFreeAndFallsAsUseRisesRow.holds Try.pinned (OpenSpec.ofChange fnSignalOrderFreeAndFallsAsUseRisesWrong)

end Rows
end Go.Proofs.Qxb6630284a
