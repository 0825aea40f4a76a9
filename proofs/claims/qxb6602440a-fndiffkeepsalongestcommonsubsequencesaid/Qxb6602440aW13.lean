/-
  zzEdits (13).
-/
import Derived.Test.Qxb6602440aMem
namespace Go.Proofs.Qxb6602440a
open Go.RowKit

/-- A script in memory: edit j lies in cells 3j, 3j + 1, 3j + 2 of block g. -/
def EditsAt (w : World) (g : Nat) (es : List (Int × Int × Int)) : Prop :=
  ∀ j e, es[j]? = some e → w.cell? ⟨g, j * 3, none⟩ = some (.int .u8 e.1) ∧ w.cell? ⟨g, j * 3 + 1, none⟩ = some (.int .i64 e.2.1) ∧ w.cell? ⟨g, j * 3 + 2, none⟩ = some (.int .i64 e.2.2)

theorem EditsAt.below {w w' : World} {g B : Nat} {es : List (Int × Int × Int)} (h : EditsAt w g es) (hg : g < B) (k : Below B w w') : EditsAt w' g es := by
  intro j e hj
  obtain ⟨h1, h2, h3⟩ := h j e hj
  refine ⟨?_, ?_, ?_⟩
  · rw [k.cell (p := ⟨g, j * 3, none⟩) hg]; exact h1
  · rw [k.cell (p := ⟨g, j * 3 + 1, none⟩) hg]; exact h2
  · rw [k.cell (p := ⟨g, j * 3 + 2, none⟩) hg]; exact h3

def opsTo (es : List (Int × Int × Int)) (k : Nat) (j : Nat) : Value := .int .u8 (if j < k then (es.getD j (0, 0, 0)).1 else 0)
def isTo (es : List (Int × Int × Int)) (k : Nat) (j : Nat) : Value := .int .i64 (if j < k then (es.getD j (0, 0, 0)).2.1 else 0)
def jsTo (es : List (Int × Int × Int)) (k : Nat) (j : Nat) : Value := .int .i64 (if j < k then (es.getD j (0, 0, 0)).2.2 else 0)

theorem opsTo_at {es : List (Int × Int × Int)} {n k : Nat} {e : Int × Int × Int} (hk : k < n) (hp : es[k]? = some e) : opsTo es n k = .int .u8 e.1 := by
  unfold opsTo; rw [if_pos hk]; simp [List.getD, hp]
theorem isTo_at {es : List (Int × Int × Int)} {n k : Nat} {e : Int × Int × Int} (hk : k < n) (hp : es[k]? = some e) : isTo es n k = .int .i64 e.2.1 := by
  unfold isTo; rw [if_pos hk]; simp [List.getD, hp]
theorem jsTo_at {es : List (Int × Int × Int)} {n k : Nat} {e : Int × Int × Int} (hk : k < n) (hp : es[k]? = some e) : jsTo es n k = .int .i64 e.2.2 := by
  unfold jsTo; rw [if_pos hk]; simp [List.getD, hp]

theorem ops_step {w : World} {B : Nat} {es : List (Int × Int × Int)} {k : Nat} {e : Int × Int × Int} (hp : es[k]? = some e) (h : w.rowIs B 5 es.length (opsTo es k)) : (w.setCell ⟨B, k, none⟩ (.int .u8 e.1)).rowIs B 5 es.length (opsTo es (k + 1)) := by
  refine (h.set k _).congr fun i _ => ?_
  unfold opsTo
  by_cases c : i = k
  · subst c; simp [List.getD, hp]
  · have : (i < k) ↔ (i < k + 1) := by omega
    simp [c, this]
theorem is_step {w : World} {B : Nat} {es : List (Int × Int × Int)} {k : Nat} {e : Int × Int × Int} (hp : es[k]? = some e) (h : w.rowIs B 3 es.length (isTo es k)) : (w.setCell ⟨B, k, none⟩ (.int .i64 e.2.1)).rowIs B 3 es.length (isTo es (k + 1)) := by
  refine (h.set k _).congr fun i _ => ?_
  unfold isTo
  by_cases c : i = k
  · subst c; simp [List.getD, hp]
  · have : (i < k) ↔ (i < k + 1) := by omega
    simp [c, this]
theorem js_step {w : World} {B : Nat} {es : List (Int × Int × Int)} {k : Nat} {e : Int × Int × Int} (hp : es[k]? = some e) (h : w.rowIs B 3 es.length (jsTo es k)) : (w.setCell ⟨B, k, none⟩ (.int .i64 e.2.2)).rowIs B 3 es.length (jsTo es (k + 1)) := by
  refine (h.set k _).congr fun i _ => ?_
  unfold jsTo
  by_cases c : i = k
  · subst c; simp [List.getD, hp]
  · have : (i < k) ↔ (i < k + 1) := by omega
    simp [c, this]

/-- The world after one round of zzEdits. -/
theorem edits_step {w wr : World} {es : List (Int × Int × Int)} {k : Nat} {e : Int × Int × Int} (hp : es[k]? = some e) {B : Nat}
    (h1 : wr.rowIs B 5 es.length (opsTo es k)) (h2 : wr.rowIs (B + 1) 3 es.length (isTo es k)) (h3 : wr.rowIs (B + 2) 3 es.length (jsTo es k)) (hbel : Below B w wr) :
    (((wr.setCell ⟨B, k, none⟩ (.int .u8 e.1)).setCell ⟨B + 1, k, none⟩ (.int .i64 e.2.1)).setCell ⟨B + 2, k, none⟩ (.int .i64 e.2.2)).rowIs B 5 es.length (opsTo es (k + 1)) ∧
    (((wr.setCell ⟨B, k, none⟩ (.int .u8 e.1)).setCell ⟨B + 1, k, none⟩ (.int .i64 e.2.1)).setCell ⟨B + 2, k, none⟩ (.int .i64 e.2.2)).rowIs (B + 1) 3 es.length (isTo es (k + 1)) ∧
    (((wr.setCell ⟨B, k, none⟩ (.int .u8 e.1)).setCell ⟨B + 1, k, none⟩ (.int .i64 e.2.1)).setCell ⟨B + 2, k, none⟩ (.int .i64 e.2.2)).rowIs (B + 2) 3 es.length (jsTo es (k + 1)) ∧
    Below B w (((wr.setCell ⟨B, k, none⟩ (.int .u8 e.1)).setCell ⟨B + 1, k, none⟩ (.int .i64 e.2.1)).setCell ⟨B + 2, k, none⟩ (.int .i64 e.2.2)) := by
  have n1 : B ≠ B + 1 := by omega
  have n2 : B ≠ B + 2 := by omega
  have n3 : B + 1 ≠ B + 2 := by omega
  refine ⟨?_, ?_, ?_, ?_⟩
  · exact ((ops_step hp h1).setOther (a := ⟨B + 1, k, none⟩) n1 _).setOther (a := ⟨B + 2, k, none⟩) n2 _
  · exact (is_step hp (h2.setOther (a := ⟨B, k, none⟩) n1.symm _)).setOther (a := ⟨B + 2, k, none⟩) n3 _
  · exact js_step hp ((h3.setOther (a := ⟨B, k, none⟩) n2.symm _).setOther (a := ⟨B + 1, k, none⟩) n3.symm _)
  · exact ((hbel.setCell (p := ⟨B, k, none⟩) (Nat.le_refl _) _).setCell (p := ⟨B + 1, k, none⟩) (Nat.le_succ _) _).setCell (p := ⟨B + 2, k, none⟩) (Nat.le_add_right _ 2) _

set_option maxHeartbeats 400000 in
theorem edits_nil (w : World) :
    Calls Try.prog 13 #[.slice none 0 0] w fun e w' => e = .returned (.tuple #[.slice none 0 0, .slice none 0 0, .slice none 0 0]) ∧ w' = w := by
  have q37 : ∀ (w : World) (a : Option Addr) (n c n' c' : Nat), (binOp .eql 37 (.slice a n c) (.slice none n' c')).run Try.prog w = .ok (.bool a.isNone) w := fun w a n c n' c' => Lib.run_eql_slice_nil w _ _ a n c n' c' Try.underlying37
  go_enter Try.func13, Try.ntmps13
  go_wp2
  go_ret3
  exact ⟨rfl, rfl⟩

set_option maxHeartbeats 1000000 in
theorem edits_some (es : List (Int × Int × Int)) (g c : Nat) (w : World) (hl : es.length ≤ 16384) (hS : EditsAt w g es) (hg : g < w.heap.size) :
    Calls Try.prog 13 #[.slice (some ⟨g, 0, none⟩) es.length c] w fun e w' => e = .returned (.tuple #[.slice (some ⟨w.heap.size, 0, none⟩) es.length es.length, .slice (some ⟨w.heap.size + 1, 0, none⟩) es.length es.length, .slice (some ⟨w.heap.size + 2, 0, none⟩) es.length es.length]) ∧
      w'.rowIs w.heap.size 5 es.length (opsTo es es.length) ∧ w'.rowIs (w.heap.size + 1) 3 es.length (isTo es es.length) ∧ w'.rowIs (w.heap.size + 2) 3 es.length (jsTo es es.length) ∧ Below w.heap.size w w' := by
  have q37 : ∀ (w : World) (a : Option Addr) (n c n' c' : Nat), (binOp .eql 37 (.slice a n c) (.slice none n' c')).run Try.prog w = .ok (.bool a.isNone) w := fun w a n c n' c' => Lib.run_eql_slice_nil w _ _ a n c n' c' Try.underlying37
  have hmk := run_make_row' (P := Try.prog) 24 5 (.int .u8 0) 1 Try.underlying24 info5 rfl .i64 .i64 es.length (by omega) (by omega)
  have hmn := run_make_row' (P := Try.prog) 28 3 (.int .i64 0) 8 Try.underlying28 info3 rfl .i64 .i64 es.length (by omega) (by omega)
  go_enter Try.func13, Try.ntmps13
  go_wp2
  go_loopw [22] (fun i wr => ∃ k : Nat, k ≤ es.length ∧ i = .int .i64 k ∧ wr.rowIs w.heap.size 5 es.length (opsTo es k) ∧ wr.rowIs (w.heap.size + 1) 3 es.length (isTo es k) ∧ wr.rowIs (w.heap.size + 2) 3 es.length (jsTo es k) ∧ Below w.heap.size w wr) (fun i _ => es.length - (intOf i).toNat)
  case atStart =>
    refine ⟨0, Nat.zero_le _, rfl, ?_, ?_, ?_, ?_⟩
    · exact (((World.rowIs_made w (.int .u8 0) es.length 5).alloc _).alloc _).congr fun i _ => by simp [opsTo]
    · have := World.rowIs_made (w.alloc (.cells (madeCells #[.int .u8 0] es.length) 5)) (.int .i64 0) es.length 3
      simp only [World.size_alloc] at this
      exact (this.alloc _).congr fun i _ => by simp [isTo]
    · have := World.rowIs_made ((w.alloc (.cells (madeCells #[.int .u8 0] es.length) 5)).alloc (.cells (madeCells #[.int .i64 0] es.length) 3)) (.int .i64 0) es.length 3
      simp only [World.size_alloc] at this
      exact this.congr fun i _ => by simp [jsTo]
    · exact (((Below.refl _ _).alloc (Nat.le_refl _) _).alloc (by simp) _).alloc (by simp; omega) _
  case round =>
    obtain ⟨k, hk, rfl, hr1, hr2, hr3, hbel⟩ := hrel
    by_cases hlt : k < es.length
    · obtain ⟨e, he⟩ : ∃ e, es[k]? = some e := ⟨_, List.getElem?_eq_getElem hlt⟩
      obtain ⟨c1, c2, c3⟩ := (hS.below hg hbel) k e he
      have d1 := hr1.cell hlt
      have d2 := hr2.cell hlt
      have d3 := hr3.cell hlt
      have f1 := hr1.frozen k
      have f2 := hr2.frozen k
      have f3 := hr3.frozen k
      have HR : Hid _ := edits_step he hr1 hr2 hr3 hbel
      clear hr1 hr2 hr3 hbel hS he hmk hmn q37
      go_wp2
      go_roundw
      case rel => exact ⟨k + 1, by omega, by go_num, HR.out⟩
      case measure => simp [intOf]; omega
    · obtain rfl : k = es.length := by omega
      go_wp2
      go_ret3
      exact ⟨rfl, hr1, hr2, hr3, hbel⟩

end Go.Proofs.Qxb6602440a
