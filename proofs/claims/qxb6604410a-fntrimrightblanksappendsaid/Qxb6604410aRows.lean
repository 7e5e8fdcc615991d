/-
  No cell of these rows narrows 'for every input' (looked for: loops, veiled, ifaces, maps, wideKeys, modest, calm, conditions, laid).
  DERIVED. THE GIVEN ROWS OF THIS SEAT. 2 by the template 'for every input the law returns true; each argument reads behind the call as it read before'; 0 by the template 'total and deterministic' (their statements: Qxb6604410aTotals.lean).
  GIVEN WITH THE SEED: the statements are not yours to turn. If you find one false, say at which input.
  Laid BY PROGRAM, IN A SANDBOX (cutbox-rows.mjs): the forced cells as the released guide's own fill.sh prints them over the translation 519906ea5995f620… (all of the seat's roots in one cut). By AI agents, Wed Nov 11 2026. No macro, syntax, notation, axiom, sorry.
-/
import Derived.Test.Qxb6604410aChecked
import GoSem.Claim
import GoSem.ClaimJoined
import GoSem.ClaimMapViews
import Derived.JoinedTies
import Derived.KernelRfl
namespace Go.Proofs.Qxb6604410a
/- THE CELL 'sum', in the pinned program and in every row, IS THE sha256 OF THE DUMP (.gsa) THAT Qxb6604410aProg.lean LOADS. Nothing in Lean hashes anything: it is a label: what it is worth is what the hold of that sum in a sandbox is worth. -/
noncomputable def Try.pinned : Pinned := { name := "qxb6604410a", sum := "519906ea5995f620e8dc28e498a363714e02c75dac34330f6f12f6ae6627effd", checked := Try.checked }
namespace Rows
def none {H : Type} : Left H := { results := [], args := [] }

/-- 'zzlaws_root_b1.FnTrimRightBlanksSpec': WHATEVER THE INPUT: true; the input reads as it did. -/
def fnTrimRightBlanksSpecSpec : ChangeSpec := { name := "fnTrimRightBlanksSpec", fn := fun _ => fun
  | [d] => { results := [.lit (.bool true)], args := [d] }
  | _ => none }
def fnTrimRightBlanksSpecRow : OpenClaim := { program := "qxb6604410a", sum := "519906ea5995f620e8dc28e498a363714e02c75dac34330f6f12f6ae6627effd", func := "example.com/rubrique/rubrique/zzlaws_root_b1.FnTrimRightBlanksSpec", spec := "fnTrimRightBlanksSpec", apart := false }
def FnTrimRightBlanksSpecSaid : Prop := fnTrimRightBlanksSpecRow.holds Try.pinned (OpenSpec.ofChange fnTrimRightBlanksSpecSpec)

/-- ITS FALSE NEIGHBOUR: 'it returns false'. Refute it at one input. -/
def fnTrimRightBlanksSpecWrong : ChangeSpec := { name := "fnTrimRightBlanksSpec", fn := fun _ => fun
  | [d] => { results := [.lit (.bool false)], args := [d] }
  | _ => none }
def FnTrimRightBlanksSpecWrongFalsely : Prop := fnTrimRightBlanksSpecRow.holds Try.pinned (OpenSpec.ofChange fnTrimRightBlanksSpecWrong)

/-- 'zzlaws_root_b1.FnTrimRightBlanksAppend': WHATEVER THE INPUT: true; the input reads as it did. -/
def fnTrimRightBlanksAppendSpec : ChangeSpec := { name := "fnTrimRightBlanksAppend", fn := fun _ => fun
  | [d1, d2] => { results := [.lit (.bool true)], args := [d1, d2] }
  | _ => none }
def fnTrimRightBlanksAppendRow : OpenClaim := { program := "qxb6604410a", sum := "519906ea5995f620e8dc28e498a363714e02c75dac34330f6f12f6ae6627effd", func := "example.com/rubrique/rubrique/zzlaws_root_b1.FnTrimRightBlanksAppend", spec := "fnTrimRightBlanksAppend", apart := false }
def FnTrimRightBlanksAppendSaid : Prop := fnTrimRightBlanksAppendRow.holds Try.pinned (OpenSpec.ofChange fnTrimRightBlanksAppendSpec)

/-- ITS FALSE NEIGHBOUR: 'it returns false'. Refute it at one input. -/
def fnTrimRightBlanksAppendWrong : ChangeSpec := { name := "fnTrimRightBlanksAppend", fn := fun _ => fun
  | [d1, d2] => { results := [.lit (.bool false)], args := [d1, d2] }
  | _ => none }
def FnTrimRightBlanksAppendWrongFalsely : Prop := fnTrimRightBlanksAppendRow.holds Try.pinned (OpenSpec.ofChange fnTrimRightBlanksAppendWrong)

end Rows
end Go.Proofs.Qxb6604410a
