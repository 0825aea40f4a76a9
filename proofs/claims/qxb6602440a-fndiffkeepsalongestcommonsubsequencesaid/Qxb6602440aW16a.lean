/-
  Lemmas for backtrack (16): scripts that the call owns; the steps of the way back.
-/
import Derived.Test.Qxb6602440aW17
namespace Go.Proofs.Qxb6602440a
open Go.RowKit

def ecells : List (Int × Int × Int) → List Value
  | [] => []
  | e :: r => .int .u8 e.1 :: .int .i64 e.2.1 :: .int .i64 e.2.2 :: ecells r
theorem ecells_append (r s : List (Int × Int × Int)) : ecells (r ++ s) = ecells r ++ ecells s := by
  induction r with
  | nil => rfl
  | cons e r ih => simp [ecells, ih]
theorem ecells_length (r : List (Int × Int × Int)) : (ecells r).length = r.length * 3 := by
  induction r with
  | nil => rfl
  | cons e r ih => simp only [ecells, List.length_cons, ih]; omega
theorem ecells_at (es : List (Int × Int × Int)) (c : Nat) (hc : c < es.length * 3) : (ecells es)[c]? = some (ecell (es.getD (c / 3) (0, 0, 0)) (c % 3)) := by
  induction es generalizing c with
  | nil => simp at hc
  | cons e r ih =>
    match c, hc with
    | 0, _ => rfl
    | 1, _ => rfl
    | 2, _ => rfl
    | c + 3, hc =>
      have h1 := ih c (by simp only [List.length_cons] at hc; omega)
      have h2 : (c + 3) / 3 = c / 3 + 1 := by omega
      have h3 : (c + 3) % 3 = c % 3 := by omega
      rw [h2, h3]
      simpa [ecells] using h1
theorem rowTo_zero (es : List (Int × Int × Int)) (c : Nat) (hc : c < es.length * 3) : rowTo es 0 c = ecell (es.getD (c / 3) (0, 0, 0)) (c % 3) := by
  unfold rowTo swapTo
  rw [if_neg (by omega)]
theorem rowTo_all (es : List (Int × Int × Int)) (c : Nat) (hc : c < es.length * 3) : rowTo es es.length c = ecell (es.reverse.getD (c / 3) (0, 0, 0)) (c % 3) := by
  unfold rowTo swapTo
  rw [if_pos (by omega)]
  congr 1
  simp only [List.getD]
  rw [List.getElem?_reverse (by omega)]

/-- A script that the call owns and that is not empty, as a row. -/
theorem own_row {w : World} {B : Nat} {v : Value} {es : List (Int × Int × Int)} (h : w.ownsRow B 52 3 v es.length (ecells es)) (hne : es ≠ []) :
    ∃ g cap, v = .slice (some ⟨g, 0, none⟩) es.length cap ∧ B ≤ g ∧ g < w.heap.size ∧ RowAt w g 52 (es.length * 3) (rowTo es 0) := by
  obtain ⟨_, ⟨_, h1⟩ | ⟨g, cap, cur, h1, h2, h3, h4, _, _, h5⟩⟩ := h
  · exact absurd (List.eq_nil_of_length_eq_zero h1) hne
  · refine ⟨g, cap, h1, h2, (Array.getElem?_eq_some_iff.1 h3).1, cur, h3, fun c hc => ?_⟩
    have h6 : (cur.toList.take (es.length * 3))[c]? = (ecells es)[c]? := by rw [h5]
    rw [List.getElem?_take, if_pos hc, ecells_at es c hc, ← rowTo_zero es c hc] at h6
    simpa using h6

/-- The row read as a script. -/
theorem edits_of_row {w : World} {g : Nat} {es : List (Int × Int × Int)} (h : RowAt w g 52 (es.length * 3) (fun c => ecell (es.getD (c / 3) (0, 0, 0)) (c % 3))) : EditsAt w g es := by
  intro j e hj
  have hlt : j < es.length := (List.getElem?_eq_some_iff.1 hj).1
  have d0 : j * 3 / 3 = j ∧ j * 3 % 3 = 0 := by omega
  have d1 : (j * 3 + 1) / 3 = j ∧ (j * 3 + 1) % 3 = 1 := by omega
  have d2 : (j * 3 + 2) / 3 = j ∧ (j * 3 + 2) % 3 = 2 := by omega
  have he : es.getD j (0, 0, 0) = e := by simp [List.getD, hj]
  refine ⟨?_, ?_, ?_⟩
  · rw [h.cell (by omega), d0.1, d0.2, he]; rfl
  · rw [h.cell (by omega), d1.1, d1.2, he]; rfl
  · rw [h.cell (by omega), d2.1, d2.2, he]; rfl
theorem edits_reversed {w : World} {g : Nat} {es : List (Int × Int × Int)} (h : RowAt w g 52 (es.length * 3) (rowTo es es.length)) : EditsAt w g es.reverse := by
  apply edits_of_row
  rw [List.length_reverse]
  exact h.congr fun c hc => rowTo_all es c hc

/-- One edit laid in a new block of its own: what append reads. -/
theorem one_edit (w : World) (e : Int × Int × Int) : ∀ j u, ([.int .u8 e.1, .int .i64 e.2.1, .int .i64 e.2.2] : List Value)[j]? = some u → (w.alloc (.cells #[.int .u8 e.1, .int .i64 e.2.1, .int .i64 e.2.2] 52)).cell? ((⟨w.heap.size, 0, none⟩ : Addr).add j) = some u := by
  intro j u hj
  rw [Addr.add_lit, Nat.zero_add]
  have : (w.alloc (.cells #[.int .u8 e.1, .int .i64 e.2.1, .int .i64 e.2.2] 52)).cell? ⟨w.heap.size, j, none⟩ = (#[.int .u8 e.1, .int .i64 e.2.1, .int .i64 e.2.2] : Array Value)[j]? := World.cell?_alloc_mark w _ 52 (0, 0) j
  rw [this]
  simpa using hj
theorem one_edit_one (e : Int × Int × Int) : ∀ u ∈ ([.int .u8 e.1, .int .i64 e.2.1, .int .i64 e.2.2] : List Value), u.oneCell' = true := by
  intro u hu
  simp at hu
  rcases hu with rfl | rfl | rfl <;> rfl

theorem own_snoc {w1 : World} {B : Nat} {v' : Value} {es : List (Int × Int × Int)} (e : Int × Int × Int) (h : w1.ownsRow B 52 3 v' (es.length + 1) (ecells es ++ [.int .u8 e.1, .int .i64 e.2.1, .int .i64 e.2.2])) : w1.ownsRow B 52 3 v' (es ++ [e]).length (ecells (es ++ [e])) := by
  rw [ecells_append, List.length_append]
  exact h
theorem below_app {B : Nat} {w wr w1 : World} {v : Value} {n : Nat} {xs : List Value} {e : TypeId} {sz : Nat} (hbel : Below B w wr) (hB : B ≤ w.heap.size) (hown : wr.ownsRow B e sz v n xs) {o : Obj} (hg : (wr.alloc o).grownBy w1 v.ownBlock) : Below B w w1 := by
  have h1 : B ≤ wr.heap.size := Nat.le_trans hB hbel.size
  exact (hbel.alloc h1 o).grown hg (by simp; omega) (fun k hk => (hown.lt k hk).1)

/-- The variable e of backtrack, laid and stored to: the world behind it. -/
def eWorld (w : World) (q : Nat) (op a b : Int) : World :=
  ((((w.alloc (.cells #[.int .u8 0, .int .i64 0, .int .i64 0] 52)).drewN q).setCell ⟨w.heap.size, 0, none⟩ (.int .u8 op)).setCell ⟨w.heap.size, 1, none⟩ (.int .i64 a)).setCell ⟨w.heap.size, 2, none⟩ (.int .i64 b)
theorem eWorld_block (w : World) (q : Nat) (op a b : Int) : (eWorld w q op a b).heap[w.heap.size]? = some (.cells #[.int .u8 op, .int .i64 a, .int .i64 b] 52 (0, 0)) := by
  have h0 : ((w.alloc (.cells #[.int .u8 0, .int .i64 0, .int .i64 0] 52)).drewN q).heap[w.heap.size]? = some (.cells #[.int .u8 0, .int .i64 0, .int .i64 0] 52 (0, 0)) := heap_alloc_new w _
  have h1 := heap_setCell_same _ w.heap.size 0 _ 52 (.int .u8 op) h0
  have h2 := heap_setCell_same _ w.heap.size 1 _ 52 (.int .i64 a) h1
  have h3 := heap_setCell_same _ w.heap.size 2 _ 52 (.int .i64 b) h2
  have e : ((((#[.int .u8 0, .int .i64 0, .int .i64 0] : Array Value).setIfInBounds 0 (.int .u8 op)).setIfInBounds 1 (.int .i64 a)).setIfInBounds 2 (.int .i64 b)) = #[.int .u8 op, .int .i64 a, .int .i64 b] := by simp
  rw [e] at h3
  exact h3
theorem eWorld_grown (w : World) (q : Nat) (op a b : Int) : w.grownBy (eWorld w q op a b) none := by
  have h0 : w.grownBy ((w.alloc (.cells #[.int .u8 0, .int .i64 0, .int .i64 0] 52)).drewN q) none := by
    have h := World.grownBy_alloc w (.cells #[.int .u8 0, .int .i64 0, .int .i64 0] 52) none
    exact ⟨h.os, h.tape, h.output, h.size, h.block⟩
  have st : ∀ (W : World) (i : Nat) (v : Value), w.grownBy W none → w.grownBy (W.setCell ⟨w.heap.size, i, none⟩ v) none := fun W i v h =>
    ⟨h.os, h.tape, h.output, by have := h.size; simpa [World.setCell] using this, fun k hk hn => (Below.heap_setCell W ⟨w.heap.size, i, none⟩ v k (by show k ≠ w.heap.size; omega)).trans (h.block k hk hn)⟩
  exact st _ _ _ (st _ _ _ (st _ _ _ h0))

/-- The row that is appended to is never the variable e: its first edit would be e's own. -/
theorem own_ne {w1 : World} {B eb : Nat} {v' : Value} {es : List (Int × Int × Int)} {x y op a b : Int} (h : w1.ownsRow B 52 3 v' (es ++ [(1, x, y)]).length (ecells (es ++ [(1, x, y)]))) (hop : op ≠ 1) (hc : w1.heap[eb]? = some (.cells #[.int .u8 op, .int .i64 a, .int .i64 b] 52 (0, 0))) : v'.ownBlock ≠ some eb := by
  intro hv
  obtain ⟨h0, ⟨rfl, _⟩ | ⟨g, cap, cur, rfl, h2, h3, h4, h5, h6, h7⟩⟩ := h
  · simp [Value.ownBlock] at hv
  · simp [Value.ownBlock] at hv
    subst hv
    rw [hc] at h3
    simp only [Option.some.injEq, Obj.cells.injEq, and_true] at h3
    subst h3
    simp at h6 h4
    obtain rfl : es = [] := List.eq_nil_of_length_eq_zero (by omega)
    simp [ecells] at h7
    exact hop h7.1
theorem cells_of_e {w : World} {eb : Nat} {op a b : Int} (hc : w.heap[eb]? = some (.cells #[.int .u8 op, .int .i64 a, .int .i64 b] 52 (0, 0))) : w.cell? ⟨eb, 0, none⟩ = some (.int .u8 op) ∧ w.cell? ⟨eb, 1, none⟩ = some (.int .i64 a) ∧ w.cell? ⟨eb, 2, none⟩ = some (.int .i64 b) := by
  simp [World.cell?, hc]

end Go.Proofs.Qxb6602440a
