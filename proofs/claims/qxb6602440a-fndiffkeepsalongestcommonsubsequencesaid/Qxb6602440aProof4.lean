/-
  'Rows.FnDiffKeepsALongestCommonSubsequenceSaid' proved.
-/
import Derived.Test.Qxb6602440aRows
import Derived.Test.Qxb6602440aW4
import Derived.Test.Qxb6602440aOpen
import Derived.WalkKit
import Derived.ProofKit
import Derived.OpenShut
import Derived.ChangeOld
import Derived.Below
namespace Go.Proofs.Qxb6602440a.fnDiff
open Go.ChangeShapes Go.WideShapes Go.ChangeAt Go.RowKit
set_option linter.unusedVariables false

theorem own : ownKnob Try.prog.godebug = none := by kernel_rfl
theorem laidOut : laidOutB Try.prog = true := by kernel_rfl

theorem top4_any (ao bo : Option Addr) (n m ca cb : Nat) (la lb : List (Int × Int)) (ba oa bb ob : Nat) (w : World) (ha : IsArg w ao n ca la ba oa) (hb : IsArg w bo m cb lb bb ob) :
    Calls Try.prog 4 #[.slice ao n ca, .slice bo m cb] w fun e w' => e = .returned (.bool true) ∧ Below w.heap.size w w' := by
  obtain ⟨rfl, h1, h2, h3, h4⟩ := ha
  obtain ⟨rfl, k1, k2, k3, k4⟩ := hb
  by_cases h : la.length ≤ 4096 ∧ lb.length ≤ 4096
  · exact top4_small la lb ba oa bb ob ao bo ca cb w h.1 h.2 h2 k2 h3 k3 h4 k4
  · exact top4_big ao bo la.length lb.length ca cb w h1 k1 h

set_option maxRecDepth 100000 in
theorem lifted (os : Os) (started : os.Started) (H : Type) (enc : TypeId × Value → H) :
    ReturnsInHanded {} Try.checked os 4 .any (Rows.fnDiffKeepsALongestCommonSubsequenceSpec.pre6 enc Try.prog Try.f4 Rows.fnDiffKeepsALongestCommonSubsequenceRow.domain false) (Rows.fnDiffKeepsALongestCommonSubsequenceSpec.post enc Try.prog Try.f4 false true false false) := by
  refine returnsInHanded_of_change (C := Try.checked) own started (by kernel_rfl) Try.func4
    (ChangeSpec.witness6 (enc := enc) (C := Try.checked) false ⟨#[], #[.slice none 0 0, .slice none 0 0], []⟩ 8 (by kernel_rfl) (by kernel_rfl) (by kernel_rfl) (by kernel_rfl)) ?_
  intro W base args ds gs before hval0 hW hcnd _
  have hval : ∀ (j : Nat) t v, Try.f4.params[j]? = some t → args[j]? = some v → Value.okWide Try.prog W .any base t v := hval0
  have hW' := hW
  obtain ⟨p, q, hA0, hV, rfl, hfz, hnd⟩ := hW
  have hA : DataW.TrodAll enc Try.prog W 0 (fun _ => true) true Try.f4.params.toList args.toList ds p := hA0
  rw [Try.params4] at hA hval
  obtain ⟨v0, vs0, d0, ds0, p0, q0, hargs, rfl, rfl, h0, r0⟩ := trodAll_cons hA
  obtain ⟨v1, vs1, d1, ds1, p1, q1, rfl, rfl, rfl, h1, r1⟩ := trodAll_cons r0
  obtain ⟨rfl, rfl, rfl⟩ := trodAll_nil r1
  obtain rfl : args = #[v0, v1] := by cases args; simp_all
  obtain ⟨rfl, rfl⟩ := trodVars_none hV
  obtain ⟨a0, len0, cap0, rfl⟩ := okWide_slice Try.underlying22 (hval 0 22 v0 rfl rfl)
  obtain ⟨a1, len1, cap1, rfl⟩ := okWide_slice Try.underlying22 (hval 1 22 v1 rfl rfl)
  have k0 := h0
  have k1 := h1
  have lt0 : ∀ x ∈ p0, x.block < W.heap.size := by obtain ⟨m, hm⟩ := k0; exact DataW.trod_lt m _ _ _ hm
  have lt1 : ∀ x ∈ p1, x.block < W.heap.size := by obtain ⟨m, hm⟩ := k1; exact DataW.trod_lt m _ _ _ hm
  obtain ⟨z0, b0, o0, w0⟩ : ∃ l b o, IsArg W a0 len0 cap0 l b o := by
    obtain ⟨fuel, hf⟩ := h0
    exact open_syms (by simpa [Value.cells] using hf)
  obtain ⟨z1, b1, o1, w1⟩ : ∃ l b o, IsArg W a1 len1 cap1 l b o := by
    obtain ⟨fuel, hf⟩ := h1
    exact open_syms (by simpa [Value.cells] using hf)
  clear hA0 hval0
  refine (top4_any a0 a1 len0 len1 cap0 cap1 z0 z1 b0 o0 b1 o1 W w0 w1).mono fun e W' ⟨he, bel⟩ => ?_
  subst he
  exact ⟨_, rfl, _, _, _, [], _, [], hW', trodAll_mk1 (shut_bool Try.underlying4 _), (trodAll_cons_mk (Below.trod laidOut (by kernel_rfl) (of_decide_eq_true (by kernel_rfl)) k0 bel lt0) (trodAll_cons_mk (Below.trod laidOut (by kernel_rfl) (of_decide_eq_true (by kernel_rfl)) k1 bel lt1) trodAll_mk0)), rfl, bel.frame _, fun h => by cases h⟩

theorem over : Rows.fnDiffKeepsALongestCommonSubsequenceRow.holds Try.pinned (OpenSpec.ofChange Rows.fnDiffKeepsALongestCommonSubsequenceSpec) :=
  OpenClaim.holds_of_wide 4 Try.f4 rfl rfl rfl rfl rfl rfl rfl ⟨rfl, rfl, rfl, rfl, rfl⟩ rfl rfl rfl rfl rfl (by kernel_rfl) Try.func4 (by kernel_rfl)
    (of_decide_eq_true (by kernel_rfl)) (by unfold Func.isWrapper; first | (rw [if_pos (by decide +kernel)]; kernel_rfl) | (rw [if_neg (by decide +kernel)]; exact ⟨rfl, rfl⟩))
    (fun os started H enc _ => lifted os started H enc)

/-- The statement. -/
theorem proved : Rows.FnDiffKeepsALongestCommonSubsequenceSaid := over
end Go.Proofs.Qxb6602440a.fnDiff
