/-
  Lemmas for diff (14).
-/
import Derived.Test.Qxb6602440aW11
import Derived.Test.Qxb6602440aDiffPlain
namespace Go.Proofs.Qxb6602440a
open Go.RowKit

theorem grown_alloc {wm wr : World} {row : Option Nat} (h : wm.grownBy wr row) (o : Obj) : wm.grownBy (wr.alloc o) row :=
  ⟨h.os, h.tape, h.output, by have := h.size; simp; omega, fun k hk hn => (Below.heap_alloc wr o k (Nat.lt_of_lt_of_le hk h.size)).trans (h.block k hk hn)⟩
theorem grown_trans {wm wr w1 : World} {row : Option Nat} (h : wm.grownBy wr row) (k : wr.grownBy w1 row) : wm.grownBy w1 row :=
  ⟨k.os.trans h.os, k.tape.trans h.tape, k.output.trans h.output, Nat.le_trans h.size k.size, fun i hi hn => (k.block i (Nat.lt_of_lt_of_le hi h.size) hn).trans (h.block i hi hn)⟩
theorem below_grown {w wm wr : World} {B g0 : Nat} (h : Below B w wm) (k : wm.grownBy wr (some g0)) (hB : B ≤ w.heap.size) (hg : B ≤ g0) : Below B w wr :=
  h.grown k (Nat.le_trans hB h.size) (fun i hi => by cases hi; exact hg)
theorem edits_grown {wm wr : World} {g g0 : Nat} {es : List (Int × Int × Int)} (h : EditsAt wm g es) (hg : g < wm.heap.size) (hne : g ≠ g0) (k : wm.grownBy wr (some g0)) : EditsAt wr g es := by
  intro j e hj
  obtain ⟨h1, h2, h3⟩ := h j e hj
  have hb := k.block g hg (by simpa using hne)
  refine ⟨?_, ?_, ?_⟩
  · rw [World.cell?_of_block (a := ⟨g, j * 3, none⟩) hb]; exact h1
  · rw [World.cell?_of_block (a := ⟨g, j * 3 + 1, none⟩) hb]; exact h2
  · rw [World.cell?_of_block (a := ⟨g, j * 3 + 2, none⟩) hb]; exact h3

theorem size52 (w : World) : (sizeOf (Try.prog.elem 37)).run Try.prog w = .ok 3 w := by kernel_rfl
theorem slice37 : Try.prog.underlying 37 = some (.slice (Try.prog.elem 37)) := by kernel_rfl

/-- Item j of a slice of edits. -/
theorem edit_addr (o : Option Addr) (g L c j : Nat) (ho : 0 < L → o = some ⟨g, 0, none⟩) (hj : j < L) : ∀ w, (Instr.indexAt 37 (.slice o L c) (.int .i64 (j : Int))).run Try.prog w = .ok (.pointer (some ⟨g, j * 3, none⟩)) w := by
  intro w'
  rw [ho (by omega), run_indexAt_slice w' 37 _ _ _ _ _ slice37, if_pos (by omega), size52]
  simp only [Result.andThen, Int.toNat_natCast]
  rw [Addr.add_lit]
  simp

/-- The address of 'a[pre:len(a)-post]'. -/
def cutAddr (ao : Option Addr) (ca p : Nat) : Option Addr := if ca = p then ao else ao.map (·.add (p * 2))
theorem run_cut (ao : Option Addr) (n ca p q : Nat) (hpq : p + q ≤ n) (hn : n ≤ ca) (w : World) : (Instr.slice 40 (.slice ao n ca) (some (.int .i64 (p : Int))) (some (.int .i64 ((n : Int) - q))) none).run Try.prog w = .ok (.slice (cutAddr ao ca p) (n - p - q) (ca - p)) w := by
  rw [run_slice_lh w 40 ao n ca slice40 .i64 .i64 p ((n : Int) - q) (by omega) (by omega) (by omega), size48]
  simp only [Result.andThen, sliced, Int.toNat_natCast, cutAddr]
  have e : ((n : Int) - q).toNat - p = n - p - q := by omega
  rw [e]
/-- The middle part. -/
def cut (l : List (Int × Int)) (p q : Nat) : List (Int × Int) := (l.drop p).take (l.length - p - q)
theorem cut_length (l : List (Int × Int)) (p q : Nat) : (cut l p q).length = l.length - p - q := by
  unfold cut
  rw [List.length_take, List.length_drop]
  omega
theorem cut_at {l : List (Int × Int)} {p q i : Nat} (hi : i < l.length - p - q) : (cut l p q)[i]? = l[i + p]? := by
  unfold cut
  rw [List.getElem?_take, if_pos hi, List.getElem?_drop, Nat.add_comm]
theorem symsAt_cut {w : World} {b o ca p q : Nat} {ao : Option Addr} {l : List (Int × Int)} (h : SymsAt w b o ao l) (hca : l.length ≤ ca) : SymsAt w b (o + p * 2) (cutAddr ao ca p) (cut l p q) := by
  intro hl
  rw [cut_length] at hl
  obtain ⟨rfl, h2⟩ := h (by omega)
  refine ⟨?_, fun j e hj => ?_⟩
  · unfold cutAddr
    rw [if_neg (by omega)]
    simp only [Option.map_some]
    rw [Addr.add_lit]
  · have hjl : j < l.length - p - q := by rw [← cut_length]; exact (List.getElem?_eq_some_iff.1 hj).1
    rw [cut_at hjl] at hj
    have := h2 (j + p) e hj
    have e1 : o + p * 2 + j * 2 = o + (j + p) * 2 := by omega
    rw [e1]
    exact this
theorem mof_cut {la lb : List (Int × Int)} {p q : Nat} (i j : Nat) (hi : i < la.length - p - q) (hj : j < lb.length - p - q) : My.Mof (cut la p q) (cut lb p q) i j = My.Mof la lb (i + p) (j + p) := by
  unfold My.Mof
  rw [cut_at hi, cut_at hj]

theorem own_snoc' {w1 : World} {B g0 N : Nat} {es : List (Int × Int × Int)} (e : Int × Int × Int) (h : w1.ownsRow B 52 3 (.slice (some ⟨g0, 0, none⟩) (es.length + 1) N) (es.length + 1) (ecells es ++ [.int .u8 e.1, .int .i64 e.2.1, .int .i64 e.2.2])) : w1.ownsRow B 52 3 (.slice (some ⟨g0, 0, none⟩) (es ++ [e]).length N) (es ++ [e]).length (ecells (es ++ [e])) := by
  rw [ecells_append, List.length_append]
  exact h
theorem own_isScript {w : World} {B g0 N : Nat} {es : List (Int × Int × Int)} (h : w.ownsRow B 52 3 (.slice (some ⟨g0, 0, none⟩) es.length N) es.length (ecells es)) : IsScript w (.slice (some ⟨g0, 0, none⟩) es.length N) es := by
  have hl := (h.lt g0 rfl).2
  refine .inr ⟨g0, N, rfl, hl, ?_⟩
  apply edits_of_row
  obtain ⟨_, ⟨h1, _⟩ | ⟨g, cap, cur, h1, h2, h3, h4, _, _, h5⟩⟩ := h
  · cases h1
  · cases h1
    refine ⟨cur, h3, fun c hc => ?_⟩
    have h6 : (cur.toList.take (es.length * 3))[c]? = (ecells es)[c]? := by rw [h5]
    rw [List.getElem?_take, if_pos hc, ecells_at es c hc] at h6
    simpa using h6

theorem SymsAt.drewN {w : World} {b o : Nat} {ao : Option Addr} {l : List (Int × Int)} (h : SymsAt w b o ao l) (k : Nat) : SymsAt (w.drewN k) b o ao l := h
theorem script_shape {w : World} {v : Value} {es : List (Int × Int × Int)} (h : IsScript w v es) : ∃ om g cm, v = .slice om es.length cm ∧ (0 < es.length → om = some ⟨g, 0, none⟩ ∧ g < w.heap.size ∧ EditsAt w g es) := by
  rcases h with ⟨rfl, rfl⟩ | ⟨g, cap, rfl, hg, hS⟩
  · exact ⟨none, 0, 0, rfl, fun h => absurd h (by simp)⟩
  · exact ⟨_, g, cap, rfl, fun _ => ⟨rfl, hg, hS⟩⟩
theorem walk_bounds {M : Nat → Nat → Bool} {n m : Int} {es : List (Int × Int × Int)} {x y : Int} (h : My.Walk M n m es x y) (hx : 0 ≤ x) (hy : 0 ≤ y) : ∀ (k : Nat) (e : Int × Int × Int), es[k]? = some e → 0 ≤ e.2.1 ∧ e.2.1 ≤ n ∧ 0 ≤ e.2.2 ∧ e.2.2 ≤ m := by
  induction es generalizing x y with
  | nil => intro k e h; simp at h
  | cons c r ih =>
    intro k e hk
    have hc := My.walk_count h
    obtain ⟨op, i, j⟩ := c
    obtain ⟨rfl, rfl, hw⟩ := h
    cases k with
    | zero =>
      simp at hk
      subst hk
      exact ⟨hx, hc.2.1, hy, hc.2.2⟩
    | succ k =>
      simp at hk
      rcases hw with ⟨_, _, _, _, hw⟩ | ⟨_, _, hw⟩ | ⟨_, _, hw⟩
      · exact ih hw (by omega) (by omega) k e hk
      · exact ih hw (by omega) hy k e hk
      · exact ih hw hx (by omega) k e hk
theorem take_snoc {es : List (Int × Int × Int)} {k : Nat} {e : Int × Int × Int} (h : es[k]? = some e) : es.take (k + 1) = es.take k ++ [e] := by
  obtain ⟨hlt, rfl⟩ := List.getElem?_eq_some_iff.1 h
  rw [List.take_succ_eq_append_getElem hlt]
theorem shift_snoc {es : List (Int × Int × Int)} {k p : Nat} {e : Int × Int × Int} (h : es[k]? = some e) : My.shift p (es.take (k + 1)) = My.shift p (es.take k) ++ [(e.1, e.2.1 + p, e.2.2 + p)] := by
  rw [take_snoc h]
  unfold My.shift
  rw [List.map_append]
  rfl
theorem len_snoc {o : Option Addr} {es : List (Int × Int × Int)} {e : Int × Int × Int} {N : Nat} : Value.slice o (es.length + 1) N = .slice o (es ++ [e]).length N := by rw [List.length_append]; rfl

end Go.Proofs.Qxb6602440a
