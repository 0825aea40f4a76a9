/-
  Memory words that the walks of this seat share: a slice of pairs as it came in, rows that the call makes, small facts.
-/
import Derived.Test.Qxb6602440aRows
import Derived.Test.Qxb6602440aScript
import Derived.WalkKit
import Derived.WalkSpells
import Derived.WalkLawsBesides
import Derived.Deep.OwnRows
import Derived.Lib.SliceRun
namespace Go.Proofs.Qxb6602440a
open Go.RowKit

theorem info3 : (Try.prog.info? 3).map (fun i => (i.zero, i.size, i.bytes)) = some (some (.int .i64 0), 1, 8) := by kernel_rfl
theorem info5 : (Try.prog.info? 5).map (fun i => (i.zero, i.size, i.bytes)) = some (some (.int .u8 0), 1, 1) := by kernel_rfl
theorem info32 : (Try.prog.info? 32).map (fun i => (i.zero, i.size, i.bytes)) = some (some (.int .u64 0), 1, 8) := by kernel_rfl
theorem info28 : (Try.prog.info? 28).map (fun i => (i.zero, i.size, i.bytes)) = some (some (.slice none 0 0), 1, 24) := by kernel_rfl
theorem info48 : (Try.prog.info? 48).map (fun i => (i.zero, i.size, i.bytes)) = some (some (.agg #[.int .u8 0, .int .u64 0]), 2, 16) := by kernel_rfl
theorem info34 : (Try.prog.info? 34).map (fun i => (i.zero, i.size, i.bytes)) = some (some (.agg #[.int .u8 0, .int .u64 0]), 2, 16) := by kernel_rfl
theorem info52 : (Try.prog.info? 52).map (fun i => (i.zero, i.size, i.bytes)) = some (some (.agg #[.int .u8 0, .int .i64 0, .int .i64 0]), 3, 24) := by kernel_rfl

/-- A slice of pairs (a byte, a 64-bit number) that can be read: item j lies in cells 2j, 2j + 1 from its address on. -/
def SymsAt (w : World) (b o : Nat) (ao : Option Addr) (l : List (Int × Int)) : Prop :=
  0 < l.length → ao = some ⟨b, o, none⟩ ∧ ∀ j p, l[j]? = some p → w.cell? ⟨b, o + j * 2, none⟩ = some (.int .u8 p.1) ∧ w.cell? ⟨b, o + j * 2 + 1, none⟩ = some (.int .u64 p.2)

theorem SymsAt.addr {w : World} {b o : Nat} {ao : Option Addr} {l : List (Int × Int)} (h : SymsAt w b o ao l) (t : TypeId) (ht : Try.prog.underlying t = some (.slice (Try.prog.elem t))) (hs : ∀ w, (sizeOf (Try.prog.elem t)).run Try.prog w = .ok 2 w)
    (j : Nat) (hj : j < l.length) (c : Nat) : ∀ w, (Instr.indexAt t (.slice ao l.length c) (.int .i64 (j : Int))).run Try.prog w = .ok (.pointer (some ⟨b, o + j * 2, none⟩)) w := by
  intro w'
  rw [(h (by omega)).1, run_indexAt_slice w' t _ _ _ _ _ ht, if_pos (by omega), hs]
  simp only [Result.andThen, Int.toNat_natCast]
  congr 3
  unfold Addr.add
  split <;> simp <;> omega

theorem SymsAt.below {w w' : World} {b o B : Nat} {ao : Option Addr} {l : List (Int × Int)} (h : SymsAt w b o ao l) (hb : b < B) (k : Below B w w') : SymsAt w' b o ao l := by
  intro hl
  obtain ⟨h1, h2⟩ := h hl
  refine ⟨h1, fun j p hj => ?_⟩
  rw [k.cell (p := ⟨b, o + j * 2, none⟩) hb, k.cell (p := ⟨b, o + j * 2 + 1, none⟩) hb]
  exact h2 j p hj

theorem size34 (w : World) : (sizeOf (Try.prog.elem 22)).run Try.prog w = .ok 2 w := by kernel_rfl
theorem size48 (w : World) : (sizeOf (Try.prog.elem 40)).run Try.prog w = .ok 2 w := by kernel_rfl
theorem slice22 : Try.prog.underlying 22 = some (.slice (Try.prog.elem 22)) := by kernel_rfl
theorem slice40 : Try.prog.underlying 40 = some (.slice (Try.prog.elem 40)) := by kernel_rfl

end Go.Proofs.Qxb6602440a
