/-
  No cell of these rows narrows 'for every input' (looked for: loops, veiled, ifaces, maps, wideKeys, modest, calm, conditions, laid).
  DERIVED. THE GIVEN ROWS OF THIS SEAT. 2 by the template 'for every input the law returns true; each argument reads behind the call as it read before'; 0 by the template 'total and deterministic' (their statements: Qxb6604387aTotals.lean).
  GIVEN WITH THE SEED: the statements are not yours to turn. If you find one false, say at which input.
  Laid BY PROGRAM, IN A SANDBOX (cutbox-rows.mjs): the forced cells as the released guide's own fill.sh prints them over the translation 666247565a276fa1… (all of the seat's roots in one cut). By AI agents, Wed Nov 11 2026. No macro, syntax, notation, axiom, sorry.
-/
import Derived.Test.Qxb6604387aChecked
import GoSem.Claim
import GoSem.ClaimJoined
import GoSem.ClaimMapViews
import Derived.JoinedTies
import Derived.KernelRfl
namespace Go.Proofs.Qxb6604387a
/- THE CELL 'sum', in the pinned program and in every row, IS THE sha256 OF THE DUMP (.gsa) THAT Qxb6604387aProg.lean LOADS. Nothing in Lean hashes anything: it is a label: what it is worth is what the hold of that sum in a sandbox is worth. -/
noncomputable def Try.pinned : Pinned := { name := "qxb6604387a", sum := "666247565a276fa12ba444cb347c67f8cab0941bd9fd277fc96b62b42ce97f5e", checked := Try.checked }
namespace Rows
def none {H : Type} : Left H := { results := [], args := [] }

/-- 'zzlaws_plan_b1.FnTranchesOfExact': WHATEVER THE INPUT: true; the input reads as it did. -/
def fnTranchesOfExactSpec : ChangeSpec := { name := "fnTranchesOfExact", fn := fun _ => fun
  | [d1, d2, d3, d4] => { results := [.lit (.bool true)], args := [d1, d2, d3, d4] }
  | _ => none }
def fnTranchesOfExactRow : OpenClaim := { program := "qxb6604387a", sum := "666247565a276fa12ba444cb347c67f8cab0941bd9fd277fc96b62b42ce97f5e", func := "example.com/guishu/guishu/zzlaws_plan_b1.FnTranchesOfExact", spec := "fnTranchesOfExact", unfollowed := true, recurses := true, apart := false }
def FnTranchesOfExactSaid : Prop := fnTranchesOfExactRow.holds Try.pinned (OpenSpec.ofChange fnTranchesOfExactSpec)

/-- ITS FALSE NEIGHBOUR: 'it returns false'. Refute it at one input. -/
def fnTranchesOfExactWrong : ChangeSpec := { name := "fnTranchesOfExact", fn := fun _ => fun
  | [d1, d2, d3, d4] => { results := [.lit (.bool false)], args := [d1, d2, d3, d4] }
  | _ => none }
def FnTranchesOfExactWrongFalsely : Prop := fnTranchesOfExactRow.holds Try.pinned (OpenSpec.ofChange fnTranchesOfExactWrong)

/-- 'zzlaws_plan_b1.FnTrancheAgreesWithTranchesOf': WHATEVER THE INPUT: true; the input reads as it did. -/
def fnTrancheAgreesWithTranchesOfSpec : ChangeSpec := { name := "fnTrancheAgreesWithTranchesOf", fn := fun _ => fun
  | [d1, d2, d3, d4, d5] => { results := [.lit (.bool true)], args := [d1, d2, d3, d4, d5] }
  | _ => none }
def fnTrancheAgreesWithTranchesOfRow : OpenClaim := { program := "qxb6604387a", sum := "666247565a276fa12ba444cb347c67f8cab0941bd9fd277fc96b62b42ce97f5e", func := "example.com/guishu/guishu/zzlaws_plan_b1.FnTrancheAgreesWithTranchesOf", spec := "fnTrancheAgreesWithTranchesOf", unfollowed := true, recurses := true, apart := false }
def FnTrancheAgreesWithTranchesOfSaid : Prop := fnTrancheAgreesWithTranchesOfRow.holds Try.pinned (OpenSpec.ofChange fnTrancheAgreesWithTranchesOfSpec)

/-- ITS FALSE NEIGHBOUR: 'it returns false'. Refute it at one input. -/
def fnTrancheAgreesWithTranchesOfWrong : ChangeSpec := { name := "fnTrancheAgreesWithTranchesOf", fn := fun _ => fun
  | [d1, d2, d3, d4, d5] => { results := [.lit (.bool false)], args := [d1, d2, d3, d4, d5] }
  | _ => none }
def FnTrancheAgreesWithTranchesOfWrongFalsely : Prop := fnTrancheAgreesWithTranchesOfRow.holds Try.pinned (OpenSpec.ofChange fnTrancheAgreesWithTranchesOfWrong)

end Rows
end Go.Proofs.Qxb6604387a
