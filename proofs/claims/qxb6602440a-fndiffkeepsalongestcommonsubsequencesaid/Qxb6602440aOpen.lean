/-
  An argument of type []Sym opened: what the walks are told of it.
-/
import Derived.Test.Qxb6602440aMem
import Derived.Deep.SlicePairs
import Derived.ProofKit
namespace Go.Proofs.Qxb6602440a
open Go.RowKit Go.Deep

theorem cells34 : Try.prog.cellsOf 34 = 2 := by kernel_rfl
theorem cells5 : Try.prog.cellsOf 5 = 1 := by kernel_rfl
theorem cells32 : Try.prog.cellsOf 32 = 1 := by kernel_rfl

/-- What the walks are told of a slice of pairs that came in. -/
def IsArg (w : World) (ao : Option Addr) (len cap : Nat) (l : List (Int × Int)) (b o : Nat) : Prop :=
  l.length = len ∧ len ≤ maxLen ∧ (ao = none → l = [] ∧ cap = 0) ∧ SymsAt w b o ao l ∧ (0 < l.length → b < w.heap.size)

theorem open_syms {H : Type} {enc : TypeId × Value → H} {w : World} {base : Nat} {held : Bool} {fuel : Nat} {ao : Option Addr} {len cap : Nat} {x : DataW H × List MemPlace}
    (h : DataW.trod enc Try.prog w base (fun _ => true) held fuel 22 [.slice ao len cap] = some x) : ∃ l b o, IsArg w ao len cap l b o := by
  rcases open_slice_pairs Try.underlying22 Try.underlying34 cells34 rfl rfl cells5 cells32 h with ⟨hcs, _⟩ | ⟨a, len', cap', m, n, V0, V1, D0, D1, P0, P1, hcs, _, hl, hm, hmm, _, hx⟩
  · simp at hcs
    obtain ⟨rfl, rfl, rfl⟩ := hcs
    exact ⟨[], 0, 0, rfl, Nat.zero_le _, fun _ => ⟨rfl, rfl⟩, fun h => absurd h (by simp), fun h => absurd h (by simp)⟩
  · simp at hcs
    obtain ⟨rfl, rfl, rfl⟩ := hcs
    rw [if_pos rfl] at hmm
    subst hmm
    have hv : ∀ i, i < len → w.cell? (a.add (i * 2)) = some (.int .u8 (intOf (V0 i))) ∧ w.cell? (a.add (i * 2 + 1)) = some (.int .u64 (intOf (V1 i))) := by
      intro i hi
      obtain ⟨h1, h2, h3, h4⟩ := hx i (by omega)
      obtain ⟨x0, e0, _⟩ := DataW.trod_int Try.underlying5 h3
      obtain ⟨x1, e1, _⟩ := DataW.trod_int Try.underlying32 h4
      simp at e0 e1
      rw [h1, h2, e0, e1]
      exact ⟨rfl, rfl⟩
    obtain ⟨b, o, spot⟩ := a
    refine ⟨(List.range len).map fun i => (intOf (V0 i), intOf (V1 i)), b, o, by simp, by omega, (fun h => by cases h), ?_, ?_⟩
    · intro h0
      have hpos : 0 < len := by simpa using h0
      have hspot : spot = none := by simpa [Addr.add] using World.cell?_spot (hv 0 hpos).1
      subst hspot
      refine ⟨rfl, fun j p hj => ?_⟩
      have hjl : j < len := by have := (List.getElem?_eq_some_iff.1 hj).1; simpa using this
      have hp : p = (intOf (V0 j), intOf (V1 j)) := by simp [hjl] at hj; exact hj.symm
      subst hp
      obtain ⟨h1, h2⟩ := hv j hjl
      rw [Addr.add_lit] at h1 h2
      exact ⟨h1, h2⟩
    · intro h0
      have hpos : 0 < len := by simpa using h0
      have := World.block_lt_of_cell? w _ (hv 0 hpos).1
      simpa [Addr.add] using this

end Go.Proofs.Qxb6602440a
