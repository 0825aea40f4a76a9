/-
  No cell of these rows narrows 'for every input' (looked for: loops, veiled, ifaces, maps, wideKeys, modest, calm, conditions, laid).
  DERIVED. THE GIVEN ROWS OF THIS SEAT. 2 by the template 'for every input the law returns true; each argument reads behind the call as it read before'; 0 by the template 'total and deterministic' (their statements: Qxb6602431aTotals.lean).
  GIVEN WITH THE SEED: the statements are not yours to turn. If you find one false, say at which input.
  Laid BY PROGRAM, IN A SANDBOX (cutbox-rows.mjs): the forced cells as the released guide's own fill.sh prints them over the translation 0b9e905029bf4f5b… (all of the seat's roots in one cut). By AI agents, Wed Nov 11 2026. No macro, syntax, notation, axiom, sorry.
-/
import Derived.Test.Qxb6602431aChecked
import GoSem.Claim
import GoSem.ClaimJoined
import GoSem.ClaimMapViews
import Derived.JoinedTies
import Derived.KernelRfl
namespace Go.Proofs.Qxb6602431a
/- THE CELL 'sum', in the pinned program and in every row, IS THE sha256 OF THE DUMP (.gsa) THAT Qxb6602431aProg.lean LOADS. Nothing in Lean hashes anything: it is a label: what it is worth is what the hold of that sum in a sandbox is worth. -/
noncomputable def Try.pinned : Pinned := { name := "qxb6602431a", sum := "0b9e905029bf4f5b541cf82fdd7243e80754f4b906654f656c58ea5ab4aa811e", checked := Try.checked }
namespace Rows
def none {H : Type} : Left H := { results := [], args := [] }

/-- 'zzlaws_matcher_b1.FnPlainNameClosedUnderConcatAndPrefix': WHATEVER THE INPUT: true; the input reads as it did. -/
def fnPlainNameClosedUnderConcatAndPrefixSpec : ChangeSpec := { name := "fnPlainNameClosedUnderConcatAndPrefix", fn := fun _ => fun
  | [d1, d2] => { results := [.lit (.bool true)], args := [d1, d2] }
  | _ => none }
def fnPlainNameClosedUnderConcatAndPrefixRow : OpenClaim := { program := "qxb6602431a", sum := "0b9e905029bf4f5b541cf82fdd7243e80754f4b906654f656c58ea5ab4aa811e", func := "example.com/ringbell/ringbell/zzlaws_matcher_b1.FnPlainNameClosedUnderConcatAndPrefix", spec := "fnPlainNameClosedUnderConcatAndPrefix", apart := false }
def FnPlainNameClosedUnderConcatAndPrefixSaid : Prop := fnPlainNameClosedUnderConcatAndPrefixRow.holds Try.pinned (OpenSpec.ofChange fnPlainNameClosedUnderConcatAndPrefixSpec)

/-- ITS FALSE NEIGHBOUR: 'it returns false'. Refute it at one input. -/
def fnPlainNameClosedUnderConcatAndPrefixWrong : ChangeSpec := { name := "fnPlainNameClosedUnderConcatAndPrefix", fn := fun _ => fun
  | [d1, d2] => { results := [.lit (.bool false)], args := [d1, d2] }
  | _ => none }
def FnPlainNameClosedUnderConcatAndPrefixWrongFalsely : Prop := fnPlainNameClosedUnderConcatAndPrefixRow.holds Try.pinned (OpenSpec.ofChange fnPlainNameClosedUnderConcatAndPrefixWrong)

/-- 'zzlaws_matcher_b1.FnPlainNameOneByteMore': WHATEVER THE INPUT: true; the input reads as it did. -/
def fnPlainNameOneByteMoreSpec : ChangeSpec := { name := "fnPlainNameOneByteMore", fn := fun _ => fun
  | [d1, d2] => { results := [.lit (.bool true)], args := [d1, d2] }
  | _ => none }
def fnPlainNameOneByteMoreRow : OpenClaim := { program := "qxb6602431a", sum := "0b9e905029bf4f5b541cf82fdd7243e80754f4b906654f656c58ea5ab4aa811e", func := "example.com/ringbell/ringbell/zzlaws_matcher_b1.FnPlainNameOneByteMore", spec := "fnPlainNameOneByteMore", apart := false }
def FnPlainNameOneByteMoreSaid : Prop := fnPlainNameOneByteMoreRow.holds Try.pinned (OpenSpec.ofChange fnPlainNameOneByteMoreSpec)

/-- ITS FALSE NEIGHBOUR: 'it returns false'. Refute it at one input. -/
def fnPlainNameOneByteMoreWrong : ChangeSpec := { name := "fnPlainNameOneByteMore", fn := fun _ => fun
  | [d1, d2] => { results := [.lit (.bool false)], args := [d1, d2] }
  | _ => none }
def FnPlainNameOneByteMoreWrongFalsely : Prop := fnPlainNameOneByteMoreRow.holds Try.pinned (OpenSpec.ofChange fnPlainNameOneByteMoreWrong)

end Rows
end Go.Proofs.Qxb6602431a
