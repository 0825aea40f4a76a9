/-
  zzSplitSyms (6).
-/
import Derived.Test.Qxb6602440aMem
namespace Go.Proofs.Qxb6602440a
open Go.RowKit

/-- What zzSplitSyms has laid after k rounds. -/
def kindsTo (l : List (Int × Int)) (k : Nat) (j : Nat) : Value := .int .u8 (if j < k then (l.getD j (0, 0)).1 else 0)
def numsTo (l : List (Int × Int)) (k : Nat) (j : Nat) : Value := .int .u64 (if j < k then (l.getD j (0, 0)).2 else 0)

theorem kinds_step {w : World} {B : Nat} {l : List (Int × Int)} {k : Nat} {p : Int × Int} (hp : l[k]? = some p) (h : w.rowIs B 5 l.length (kindsTo l k)) : (w.setCell ⟨B, k, none⟩ (.int .u8 p.1)).rowIs B 5 l.length (kindsTo l (k + 1)) := by
  refine (h.set k _).congr fun i _ => ?_
  unfold kindsTo
  by_cases e : i = k
  · subst e; simp [List.getD, hp]
  · have : (i < k) ↔ (i < k + 1) := by omega
    simp [e, this]
theorem nums_step {w : World} {B : Nat} {l : List (Int × Int)} {k : Nat} {p : Int × Int} (hp : l[k]? = some p) (h : w.rowIs B 32 l.length (numsTo l k)) : (w.setCell ⟨B, k, none⟩ (.int .u64 p.2)).rowIs B 32 l.length (numsTo l (k + 1)) := by
  refine (h.set k _).congr fun i _ => ?_
  unfold numsTo
  by_cases e : i = k
  · subst e; simp [List.getD, hp]
  · have : (i < k) ↔ (i < k + 1) := by omega
    simp [e, this]

set_option maxHeartbeats 400000 in
theorem split_nil (w : World) :
    Calls Try.prog 6 #[.slice none 0 0] w fun e w' => e = .returned (.tuple #[.slice none 0 0, .slice none 0 0]) ∧ w' = w := by
  have q22 : ∀ (w : World) (a : Option Addr) (n c n' c' : Nat), (binOp .eql 22 (.slice a n c) (.slice none n' c')).run Try.prog w = .ok (.bool a.isNone) w := fun w a n c n' c' => Lib.run_eql_slice_nil w _ _ a n c n' c' Try.underlying22
  go_enter Try.func6, Try.ntmps6
  go_wp2
  go_ret2
  exact ⟨rfl, rfl⟩

set_option maxHeartbeats 1000000 in
theorem split_some (l : List (Int × Int)) (b o : Nat) (ao : Option Addr) (c : Nat) (w : World) (hao : ao.isNone = false) (hl : l.length ≤ 4096) (hS : SymsAt w b o ao l) (hbB : 0 < l.length → b < w.heap.size) :
    Calls Try.prog 6 #[.slice ao l.length c] w fun e w' => e = .returned (.tuple #[.slice (some ⟨w.heap.size, 0, none⟩) l.length l.length, .slice (some ⟨w.heap.size + 1, 0, none⟩) l.length l.length]) ∧
      w'.rowIs w.heap.size 5 l.length (kindsTo l l.length) ∧ w'.rowIs (w.heap.size + 1) 32 l.length (numsTo l l.length) ∧ Below w.heap.size w w' := by
  have q22 : ∀ (w : World) (a : Option Addr) (n c n' c' : Nat), (binOp .eql 22 (.slice a n c) (.slice none n' c')).run Try.prog w = .ok (.bool a.isNone) w := fun w a n c n' c' => Lib.run_eql_slice_nil w _ _ a n c n' c' Try.underlying22
  have hmk := run_make_row' (P := Try.prog) 24 5 (.int .u8 0) 1 Try.underlying24 info5 rfl .i64 .i64 l.length (by omega) (by omega)
  have hmn := run_make_row' (P := Try.prog) 25 32 (.int .u64 0) 8 Try.underlying25 info32 rfl .i64 .i64 l.length (by omega) (by omega)
  go_enter Try.func6, Try.ntmps6
  go_wp2
  go_loopw [6] (fun i wr => ∃ k : Nat, k ≤ l.length ∧ i = .int .i64 k ∧ wr.rowIs w.heap.size 5 l.length (kindsTo l k) ∧ wr.rowIs (w.heap.size + 1) 32 l.length (numsTo l k) ∧ Below w.heap.size w wr) (fun i _ => l.length - (intOf i).toNat)
  case atStart =>
    refine ⟨0, Nat.zero_le _, rfl, ?_, ?_, ?_⟩
    · exact ((World.rowIs_made w (.int .u8 0) l.length 5).alloc _).congr fun i _ => by simp [kindsTo]
    · have := World.rowIs_made (w.alloc (.cells (madeCells #[.int .u8 0] l.length) 5)) (.int .u64 0) l.length 32
      simp only [World.size_alloc] at this
      exact this.congr fun i _ => by simp [numsTo]
    · exact ((Below.refl _ _).alloc (Nat.le_refl _) _).alloc (by simp) _
  case round =>
    obtain ⟨k, hk, rfl, hr1, hr2, hbel⟩ := hrel
    by_cases hlt : k < l.length
    · obtain ⟨p, hp⟩ : ∃ p, l[k]? = some p := ⟨_, List.getElem?_eq_getElem hlt⟩
      have hix := hS.addr 22 slice22 size34 k hlt c
      have hS' := hS.below (hbB (by omega)) hbel
      obtain ⟨_, hcell⟩ := hS' (by omega)
      obtain ⟨c1, c2⟩ := hcell k p hp
      have hne : b < w.heap.size := hbB (by omega)
      have d1 := hr1.cell hlt
      have d2 := hr2.cell hlt
      have f1 := hr1.frozen k
      have f2 := hr2.frozen k
      have R1 := (kinds_step hp hr1).setOther (a := ⟨w.heap.size + 1, k, none⟩) (by show w.heap.size ≠ w.heap.size + 1; omega) (.int .u64 p.2)
      have R2 := nums_step hp (hr2.setOther (a := ⟨w.heap.size, k, none⟩) (by show w.heap.size + 1 ≠ w.heap.size; omega) (.int .u8 p.1))
      have R3 : Below w.heap.size w ((wr.setCell ⟨w.heap.size, k, none⟩ (.int .u8 p.1)).setCell ⟨w.heap.size + 1, k, none⟩ (.int .u64 p.2)) := (hbel.setCell (Nat.le_refl _) _).setCell (by show w.heap.size ≤ w.heap.size + 1; omega) _
      have HR : Hid (((wr.setCell ⟨w.heap.size, k, none⟩ (.int .u8 p.1)).setCell ⟨w.heap.size + 1, k, none⟩ (.int .u64 p.2)).rowIs w.heap.size 5 l.length (kindsTo l (k + 1)) ∧ ((wr.setCell ⟨w.heap.size, k, none⟩ (.int .u8 p.1)).setCell ⟨w.heap.size + 1, k, none⟩ (.int .u64 p.2)).rowIs (w.heap.size + 1) 32 l.length (numsTo l (k + 1)) ∧ Below w.heap.size w ((wr.setCell ⟨w.heap.size, k, none⟩ (.int .u8 p.1)).setCell ⟨w.heap.size + 1, k, none⟩ (.int .u64 p.2))) := ⟨R1, R2, R3⟩
      clear R1 R2 R3 hr1 hr2 hcell hS' hS hp hmk hmn q22
      go_wp2
      go_roundw
      case rel => exact ⟨k + 1, by omega, by go_num, HR.out.1, HR.out.2.1, HR.out.2.2⟩
      case measure => simp [intOf]; omega
    · obtain rfl : k = l.length := by omega
      go_wp2
      go_ret2
      exact ⟨rfl, hr1, hr2, hbel⟩

end Go.Proofs.Qxb6602440a
