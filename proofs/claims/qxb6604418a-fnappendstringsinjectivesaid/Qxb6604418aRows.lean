/-
  No cell of these rows narrows 'for every input' (looked for: loops, veiled, ifaces, maps, wideKeys, modest, calm, conditions, laid).
  DERIVED. THE GIVEN ROWS OF THIS SEAT. 4 by the template 'for every input the law returns true; each argument reads behind the call as it read before'; 0 by the template 'total and deterministic' (their statements: Qxb6604418aTotals.lean).
  GIVEN WITH THE SEED: the statements are not yours to turn. If you find one false, say at which input.
  Laid BY PROGRAM, IN A SANDBOX (cutbox-rows.mjs): the forced cells as the released guide's own fill.sh prints them over the translation 83b2b415e5a5a41e… (all of the seat's roots in one cut). By AI agents, Wed Nov 11 2026. No macro, syntax, notation, axiom, sorry.
-/
import Derived.Test.Qxb6604418aChecked
import GoSem.Claim
import GoSem.ClaimJoined
import GoSem.ClaimMapViews
import Derived.JoinedTies
import Derived.KernelRfl
namespace Go.Proofs.Qxb6604418a
/- THE CELL 'sum', in the pinned program and in every row, IS THE sha256 OF THE DUMP (.gsa) THAT Qxb6604418aProg.lean LOADS. Nothing in Lean hashes anything: it is a label: what it is worth is what the hold of that sum in a sandbox is worth. -/
noncomputable def Try.pinned : Pinned := { name := "qxb6604418a", sum := "83b2b415e5a5a41ea5c7c5cc26c49b6cef7ee31d99d7550c7ebc31c6936eac18", checked := Try.checked }
namespace Rows
def none {H : Type} : Left H := { results := [], args := [] }

/-- 'zzlaws_root_b1.FnValidKeyIDAlphabet': WHATEVER THE INPUT: true; the input reads as it did. -/
def fnValidKeyIDAlphabetSpec : ChangeSpec := { name := "fnValidKeyIDAlphabet", fn := fun _ => fun
  | [d] => { results := [.lit (.bool true)], args := [d] }
  | _ => none }
def fnValidKeyIDAlphabetRow : OpenClaim := { program := "qxb6604418a", sum := "83b2b415e5a5a41ea5c7c5cc26c49b6cef7ee31d99d7550c7ebc31c6936eac18", func := "example.com/camall/camall/zzlaws_root_b1.FnValidKeyIDAlphabet", spec := "fnValidKeyIDAlphabet", apart := false }
def FnValidKeyIDAlphabetSaid : Prop := fnValidKeyIDAlphabetRow.holds Try.pinned (OpenSpec.ofChange fnValidKeyIDAlphabetSpec)

/-- ITS FALSE NEIGHBOUR: 'it returns false'. Refute it at one input. -/
def fnValidKeyIDAlphabetWrong : ChangeSpec := { name := "fnValidKeyIDAlphabet", fn := fun _ => fun
  | [d] => { results := [.lit (.bool false)], args := [d] }
  | _ => none }
def FnValidKeyIDAlphabetWrongFalsely : Prop := fnValidKeyIDAlphabetRow.holds Try.pinned (OpenSpec.ofChange fnValidKeyIDAlphabetWrong)

/-- 'zzlaws_root_b1.FnValidKeyIDOneByteMore': WHATEVER THE INPUT: true; the input reads as it did. -/
def fnValidKeyIDOneByteMoreSpec : ChangeSpec := { name := "fnValidKeyIDOneByteMore", fn := fun _ => fun
  | [d1, d2] => { results := [.lit (.bool true)], args := [d1, d2] }
  | _ => none }
def fnValidKeyIDOneByteMoreRow : OpenClaim := { program := "qxb6604418a", sum := "83b2b415e5a5a41ea5c7c5cc26c49b6cef7ee31d99d7550c7ebc31c6936eac18", func := "example.com/camall/camall/zzlaws_root_b1.FnValidKeyIDOneByteMore", spec := "fnValidKeyIDOneByteMore", apart := false }
def FnValidKeyIDOneByteMoreSaid : Prop := fnValidKeyIDOneByteMoreRow.holds Try.pinned (OpenSpec.ofChange fnValidKeyIDOneByteMoreSpec)

/-- ITS FALSE NEIGHBOUR: 'it returns false'. Refute it at one input. -/
def fnValidKeyIDOneByteMoreWrong : ChangeSpec := { name := "fnValidKeyIDOneByteMore", fn := fun _ => fun
  | [d1, d2] => { results := [.lit (.bool false)], args := [d1, d2] }
  | _ => none }
def FnValidKeyIDOneByteMoreWrongFalsely : Prop := fnValidKeyIDOneByteMoreRow.holds Try.pinned (OpenSpec.ofChange fnValidKeyIDOneByteMoreWrong)

/-- 'zzlaws_root_b1.FnAppendStringsDecodes': WHATEVER THE INPUT: true; the input reads as it did. -/
def fnAppendStringsDecodesSpec : ChangeSpec := { name := "fnAppendStringsDecodes", fn := fun _ => fun
  | [d1, d2] => { results := [.lit (.bool true)], args := [d1, d2] }
  | _ => none }
def fnAppendStringsDecodesRow : OpenClaim := { program := "qxb6604418a", sum := "83b2b415e5a5a41ea5c7c5cc26c49b6cef7ee31d99d7550c7ebc31c6936eac18", func := "example.com/camall/camall/zzlaws_root_b1.FnAppendStringsDecodes", spec := "fnAppendStringsDecodes", apart := false }
def FnAppendStringsDecodesSaid : Prop := fnAppendStringsDecodesRow.holds Try.pinned (OpenSpec.ofChange fnAppendStringsDecodesSpec)

/-- ITS FALSE NEIGHBOUR: 'it returns false'. Refute it at one input. -/
def fnAppendStringsDecodesWrong : ChangeSpec := { name := "fnAppendStringsDecodes", fn := fun _ => fun
  | [d1, d2] => { results := [.lit (.bool false)], args := [d1, d2] }
  | _ => none }
def FnAppendStringsDecodesWrongFalsely : Prop := fnAppendStringsDecodesRow.holds Try.pinned (OpenSpec.ofChange fnAppendStringsDecodesWrong)

/-- 'zzlaws_root_b1.FnAppendStringsInjective': WHATEVER THE INPUT: true; the input reads as it did. -/
def fnAppendStringsInjectiveSpec : ChangeSpec := { name := "fnAppendStringsInjective", fn := fun _ => fun
  | [d1, d2, d3] => { results := [.lit (.bool true)], args := [d1, d2, d3] }
  | _ => none }
def fnAppendStringsInjectiveRow : OpenClaim := { program := "qxb6604418a", sum := "83b2b415e5a5a41ea5c7c5cc26c49b6cef7ee31d99d7550c7ebc31c6936eac18", func := "example.com/camall/camall/zzlaws_root_b1.FnAppendStringsInjective", spec := "fnAppendStringsInjective", apart := false }
def FnAppendStringsInjectiveSaid : Prop := fnAppendStringsInjectiveRow.holds Try.pinned (OpenSpec.ofChange fnAppendStringsInjectiveSpec)

/-- ITS FALSE NEIGHBOUR: 'it returns false'. Refute it at one input. -/
def fnAppendStringsInjectiveWrong : ChangeSpec := { name := "fnAppendStringsInjective", fn := fun _ => fun
  | [d1, d2, d3] => { results := [.lit (.bool false)], args := [d1, d2, d3] }
  | _ => none }
def FnAppendStringsInjectiveWrongFalsely : Prop := fnAppendStringsInjectiveRow.holds Try.pinned (OpenSpec.ofChange fnAppendStringsInjectiveWrong)

end Rows
end Go.Proofs.Qxb6604418a
