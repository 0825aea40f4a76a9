/-
  No cell of these rows narrows 'for every input' (looked for: loops, veiled, ifaces, maps, wideKeys, modest, calm, conditions, laid).
  DERIVED. THE GIVEN ROWS OF THIS SEAT. 2 by the template 'for every input the law returns true; each argument reads behind the call as it read before'; 0 by the template 'total and deterministic' (their statements: Qxb6602440aTotals.lean).
  GIVEN WITH THE SEED: the statements are not yours to turn. If you find one false, say at which input.
  Laid BY PROGRAM, IN A SANDBOX (cutbox-rows.mjs): the forced cells as the released guide's own fill.sh prints them over the translation 8511e4d6114ed5c7… (all of the seat's roots in one cut). By AI agents, Wed Nov 11 2026. No macro, syntax, notation, axiom, sorry.
-/
import Derived.Test.Qxb6602440aChecked
import GoSem.Claim
import GoSem.ClaimJoined
import GoSem.ClaimMapViews
import Derived.JoinedTies
import Derived.KernelRfl
namespace Go.Proofs.Qxb6602440a
/- THE CELL 'sum', in the pinned program and in every row, IS THE sha256 OF THE DUMP (.gsa) THAT Qxb6602440aProg.lean LOADS. Nothing in Lean hashes anything: it is a label: what it is worth is what the hold of that sum in a sandbox is worth. -/
noncomputable def Try.pinned : Pinned := { name := "qxb6602440a", sum := "8511e4d6114ed5c76c88a66273f257f9e816900edb9493c8e236737dbcb80361", checked := Try.checked }
namespace Rows
def none {H : Type} : Left H := { results := [], args := [] }

/-- 'zzlaws_internal_crdt_b1.FnShortestScriptIsMinimalOrRefused': WHATEVER THE INPUT: true; the input reads as it did. -/
def fnShortestScriptIsMinimalOrRefusedSpec : ChangeSpec := { name := "fnShortestScriptIsMinimalOrRefused", fn := fun _ => fun
  | [d1, d2] => { results := [.lit (.bool true)], args := [d1, d2] }
  | _ => none }
def fnShortestScriptIsMinimalOrRefusedRow : OpenClaim := { program := "qxb6602440a", sum := "8511e4d6114ed5c76c88a66273f257f9e816900edb9493c8e236737dbcb80361", func := "example.com/tidemark/tidemark/zzlaws_internal_crdt_b1.FnShortestScriptIsMinimalOrRefused", spec := "fnShortestScriptIsMinimalOrRefused", apart := false }
def FnShortestScriptIsMinimalOrRefusedSaid : Prop := fnShortestScriptIsMinimalOrRefusedRow.holds Try.pinned (OpenSpec.ofChange fnShortestScriptIsMinimalOrRefusedSpec)

/-- ITS FALSE NEIGHBOUR: 'it returns false'. Refute it at one input. -/
def fnShortestScriptIsMinimalOrRefusedWrong : ChangeSpec := { name := "fnShortestScriptIsMinimalOrRefused", fn := fun _ => fun
  | [d1, d2] => { results := [.lit (.bool false)], args := [d1, d2] }
  | _ => none }
def FnShortestScriptIsMinimalOrRefusedWrongFalsely : Prop := fnShortestScriptIsMinimalOrRefusedRow.holds Try.pinned (OpenSpec.ofChange fnShortestScriptIsMinimalOrRefusedWrong)

/-- 'zzlaws_internal_crdt_b1.FnDiffKeepsALongestCommonSubsequence': WHATEVER THE INPUT: true; the input reads as it did. -/
def fnDiffKeepsALongestCommonSubsequenceSpec : ChangeSpec := { name := "fnDiffKeepsALongestCommonSubsequence", fn := fun _ => fun
  | [d1, d2] => { results := [.lit (.bool true)], args := [d1, d2] }
  | _ => none }
def fnDiffKeepsALongestCommonSubsequenceRow : OpenClaim := { program := "qxb6602440a", sum := "8511e4d6114ed5c76c88a66273f257f9e816900edb9493c8e236737dbcb80361", func := "example.com/tidemark/tidemark/zzlaws_internal_crdt_b1.FnDiffKeepsALongestCommonSubsequence", spec := "fnDiffKeepsALongestCommonSubsequence", apart := false }
def FnDiffKeepsALongestCommonSubsequenceSaid : Prop := fnDiffKeepsALongestCommonSubsequenceRow.holds Try.pinned (OpenSpec.ofChange fnDiffKeepsALongestCommonSubsequenceSpec)

/-- ITS FALSE NEIGHBOUR: 'it returns false'. Refute it at one input. -/
def fnDiffKeepsALongestCommonSubsequenceWrong : ChangeSpec := { name := "fnDiffKeepsALongestCommonSubsequence", fn := fun _ => fun
  | [d1, d2] => { results := [.lit (.bool false)], args := [d1, d2] }
  | _ => none }
def FnDiffKeepsALongestCommonSubsequenceWrongFalsely : Prop := fnDiffKeepsALongestCommonSubsequenceRow.holds Try.pinned (OpenSpec.ofChange fnDiffKeepsALongestCommonSubsequenceWrong)

end Rows
end Go.Proofs.Qxb6602440a
