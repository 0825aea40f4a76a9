/-
  zzSyms (12).
-/
import Derived.Test.Qxb6602440aW6
import Derived.RegionTactic
import Derived.BigRegion
namespace Go.Proofs.Qxb6602440a
open Go.RowKit

/-- What zzSyms has laid after k rounds: cell by cell. -/
def symsTo (l : List (Int × Int)) (k : Nat) (j : Nat) : Value :=
  if j % 2 = 0 then .int .u8 (if j / 2 < k then (l.getD (j / 2) (0, 0)).1 else 0) else .int .u64 (if j / 2 < k then (l.getD (j / 2) (0, 0)).2 else 0)

theorem kindsTo_at {l : List (Int × Int)} {n k : Nat} {p : Int × Int} (hk : k < n) (hp : l[k]? = some p) : kindsTo l n k = .int .u8 p.1 := by
  unfold kindsTo; rw [if_pos hk]; simp [List.getD, hp]
theorem numsTo_at {l : List (Int × Int)} {n k : Nat} {p : Int × Int} (hk : k < n) (hp : l[k]? = some p) : numsTo l n k = .int .u64 p.2 := by
  unfold numsTo; rw [if_pos hk]; simp [List.getD, hp]

theorem syms_step {w : World} {B : Nat} {l : List (Int × Int)} {k : Nat} {p : Int × Int} (hp : l[k]? = some p) (h : w.rowIs B 48 (l.length * 2) (symsTo l k)) :
    ((w.setCell ⟨B, k * 2, none⟩ (.int .u8 p.1)).setCell ⟨B, k * 2 + 1, none⟩ (.int .u64 p.2)).rowIs B 48 (l.length * 2) (symsTo l (k + 1)) := by
  refine ((h.set (k * 2) _).set (k * 2 + 1) _).congr fun i _ => ?_
  unfold symsTo
  by_cases e1 : i = k * 2 + 1
  · subst e1
    have h1 : (k * 2 + 1) % 2 = 1 := by omega
    have h2 : (k * 2 + 1) / 2 = k := by omega
    simp [h1, h2, List.getD, hp]
  · by_cases e2 : i = k * 2
    · subst e2
      have h1 : (k * 2) % 2 = 0 := by omega
      have h2 : (k * 2) / 2 = k := by omega
      simp [h2, List.getD, hp]
    · have : (i / 2 < k) ↔ (i / 2 < k + 1) := by omega
      simp [e1, e2, this]

theorem syms_made (w : World) (n : Nat) : (w.alloc (.cells (madeCells #[.int .u8 0, .int .u64 0] (n * 2)) 48)).rowIs w.heap.size 48 (n * 2) (fun j => if j % 2 = 0 then .int .u8 0 else .int .u64 0) := by
  have := World.rowIs_alloc w (madeCells #[.int .u8 0, .int .u64 0] (n * 2)) 48 (fun j => if j % 2 = 0 then .int .u8 0 else .int .u64 0) (by
    intro i hi
    rw [size_madeCells] at hi
    simp only [madeCells, Array.getElem?_map, Array.getElem?_range, hi, if_true, Option.map_some]
    rcases Nat.mod_two_eq_zero_or_one i with h | h <;> simp [h])
  rw [size_madeCells] at this
  exact this

theorem run_make48 (n : Nat) (hn : n ≤ 8192) (w : World) : (Instr.makeSlice 40 (.int .i64 (n : Int)) (.int .i64 (n : Int))).run Try.prog w = .ok (.slice (some ⟨w.heap.size, 0, none⟩) n n) (w.alloc (.cells (madeCells #[.int .u8 0, .int .u64 0] (n * 2)) 48)) := by
  obtain ⟨i, hi, hz0, hz1, hz2⟩ := info_parts info48
  have := run_make (P := Try.prog) w 40 48 i _ Try.underlying40 hi hz0 .i64 .i64 n n (by omega) (Int.le_refl _) (by rw [hz2]; omega) (by omega)
  rw [hz1, Int.toNat_natCast] at this
  exact this

set_option maxHeartbeats 400000 in
theorem syms_nil (w : World) (v : Value) :
    Calls Try.prog 12 #[.slice none 0 0, v] w fun e w' => e = .returned (.slice none 0 0) ∧ w' = w := by
  have q24 : ∀ (w : World) (a : Option Addr) (n c n' c' : Nat), (binOp .eql 24 (.slice a n c) (.slice none n' c')).run Try.prog w = .ok (.bool a.isNone) w := fun w a n c n' c' => Lib.run_eql_slice_nil w _ _ a n c n' c' Try.underlying24
  go_enter Try.func12, Try.ntmps12
  go_wp2
  go_ret
  exact ⟨rfl, rfl⟩

set_option maxHeartbeats 1000000 in
theorem syms_some (l : List (Int × Int)) (g1 g2 : Nat) (w : World) (hl : l.length ≤ 4096) (h1 : w.rowIs g1 5 l.length (kindsTo l l.length)) (h2 : w.rowIs g2 32 l.length (numsTo l l.length)) :
    Calls Try.prog 12 #[.slice (some ⟨g1, 0, none⟩) l.length l.length, .slice (some ⟨g2, 0, none⟩) l.length l.length] w fun e w' => e = .returned (.slice (some ⟨w.heap.size, 0, none⟩) l.length l.length) ∧
      w'.rowIs w.heap.size 48 (l.length * 2) (symsTo l l.length) ∧ Below w.heap.size w w' := by
  have q24 : ∀ (w : World) (a : Option Addr) (n c n' c' : Nat), (binOp .eql 24 (.slice a n c) (.slice none n' c')).run Try.prog w = .ok (.bool a.isNone) w := fun w a n c n' c' => Lib.run_eql_slice_nil w _ _ a n c n' c' Try.underlying24
  have hmk := run_make48 l.length (by omega)
  have lt1 := h1.lt
  have lt2 := h2.lt
  go_enter Try.func12, Try.ntmps12
  go_wp2
  go_loopw [14] (fun i wr => ∃ k : Nat, k ≤ l.length ∧ i = .int .i64 k ∧ wr.rowIs w.heap.size 48 (l.length * 2) (symsTo l k) ∧ Below w.heap.size w wr) (fun i _ => l.length - (intOf i).toNat)
  case atStart =>
    refine ⟨0, Nat.zero_le _, rfl, ?_, (Below.refl _ _).alloc (Nat.le_refl _) _⟩
    exact (syms_made w l.length).congr fun i _ => by simp [symsTo]
  case round =>
    obtain ⟨k, hk, rfl, hr, hbel⟩ := hrel
    by_cases hlt : k < l.length
    · obtain ⟨p, hp⟩ : ∃ p, l[k]? = some p := ⟨_, List.getElem?_eq_getElem hlt⟩
      have c1 : wr.cell? ⟨g1, k, none⟩ = some (.int .u8 p.1) := by
        rw [hbel.cell (p := ⟨g1, k, none⟩) lt1, h1.cell hlt, kindsTo_at hlt hp]
      have c2 : wr.cell? ⟨g2, k, none⟩ = some (.int .u64 p.2) := by
        rw [hbel.cell (p := ⟨g2, k, none⟩) lt2, h2.cell hlt, numsTo_at hlt hp]
      have d1 := hr.cell (i := k * 2) (by omega)
      have d2 := hr.cell (i := k * 2 + 1) (by omega)
      have f1 := hr.frozen (k * 2)
      have f2 := hr.frozen (k * 2 + 1)
      have R := syms_step hp hr
      have R3 : Below w.heap.size w ((wr.setCell ⟨w.heap.size, k * 2, none⟩ (.int .u8 p.1)).setCell ⟨w.heap.size, k * 2 + 1, none⟩ (.int .u64 p.2)) := (hbel.setCell (Nat.le_refl _) _).setCell (Nat.le_refl _) _
      have HR := And.intro R R3
      have HH : Hid _ := HR
      clear R R3 HR hr hp hmk q24 h1 h2
      go_wp2
      go_region
      go_wp2
      go_roundw
      case rel => exact ⟨k + 1, by omega, by go_num, HH.out.1.drew, HH.out.2.drew⟩
      case measure => simp [intOf]; omega
    · obtain rfl : k = l.length := by omega
      go_wp2
      go_ret
      exact ⟨rfl, hr, hbel⟩

end Go.Proofs.Qxb6602440a
