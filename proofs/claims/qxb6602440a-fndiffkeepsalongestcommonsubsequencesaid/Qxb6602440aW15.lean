/-
  slices.Clone at []int (15).
-/
import Derived.Test.Qxb6602440aMem
namespace Go.Proofs.Qxb6602440a
open Go.RowKit

/-- Block g holds, from its head on, the n values f; it bears the element type e. -/
def RowAt (w : World) (g : Nat) (e : TypeId) (n : Nat) (f : Nat → Value) : Prop := ∃ c : Array Value, w.heap[g]? = some (.cells c e (0, 0)) ∧ ∀ i, i < n → c[i]? = some (f i)

theorem RowAt.cell {w : World} {g : Nat} {e : TypeId} {n : Nat} {f : Nat → Value} (h : RowAt w g e n f) {i : Nat} (hi : i < n) : w.cell? ⟨g, i, none⟩ = some (f i) := by
  obtain ⟨c, hb, hc⟩ := h
  simp [World.cell?, hb, hc i hi]
theorem RowAt.lt {w : World} {g : Nat} {e : TypeId} {n : Nat} {f : Nat → Value} (h : RowAt w g e n f) : g < w.heap.size := by
  obtain ⟨c, hb, _⟩ := h
  exact (Array.getElem?_eq_some_iff.1 hb).1
theorem RowAt.of_block {w w' : World} {g : Nat} {e : TypeId} {n : Nat} {f : Nat → Value} (h : RowAt w g e n f) (hb : w'.heap[g]? = w.heap[g]?) : RowAt w' g e n f := by
  obtain ⟨c, h1, h2⟩ := h
  exact ⟨c, hb.trans h1, h2⟩
theorem rowAt_of_rowIs {w : World} {g : Nat} {e : TypeId} {n : Nat} {f : Nat → Value} (h : w.rowIs g e n f) : RowAt w g e n f := by
  obtain ⟨c, h1, _, h2⟩ := h
  exact ⟨c, h1, h2⟩

theorem clone_own {w w1 : World} {n : Nat} {f : Nat → Value} {v : Value} {B : Nat} (h : w1.ownsRow B 3 1 v n ((List.range n).map f)) (hnn : ¬ v = .slice none 0 0) (hB : w.heap.size ≤ B) : ∃ g cap, v = .slice (some ⟨g, 0, none⟩) n cap ∧ w.heap.size ≤ g ∧ RowAt w1 g 3 n f := by
  obtain ⟨_, ⟨h1, _⟩ | ⟨g, cap, cur, h1, h2, h3, h4, _, _, h5⟩⟩ := h
  · exact absurd h1 hnn
  · refine ⟨g, cap, by simpa using h1, by omega, cur, h3, fun i hi => ?_⟩
    have h6 : (cur.toList.take n)[i]? = ((List.range n).map f)[i]? := by
      rw [Nat.mul_one] at h5
      rw [h5]
    rw [List.getElem?_take, if_pos hi] at h6
    simpa [hi] using h6

set_option maxHeartbeats 1000000 in
theorem clone_any (gv n : Nat) (f : Nat → Value) (hf : ∀ i, (f i).oneCell' = true) (w : World) (hn : n ≤ 4096) (h0 : 0 < n) (h : w.rowIs gv 3 n f) :
    Calls Try.prog 15 #[.slice (some ⟨gv, 0, none⟩) n n] w fun e w' => ∃ g cap, e = .returned (.slice (some ⟨g, 0, none⟩) n cap) ∧ w.heap.size ≤ g ∧ RowAt w' g 3 n f ∧ Below w.heap.size w w' := by
  have q28 : ∀ (w : World) (a : Option Addr) (n c n' c' : Nat), (binOp .eql 28 (.slice a n c) (.slice none n' c')).run Try.prog w = .ok (.bool a.isNone) w := fun w a n c n' c' => Lib.run_eql_slice_nil w _ _ a n c n' c' Try.underlying28
  obtain ⟨i0, hi, hz0, hz1, hz2⟩ := info_parts info3
  have hlt := h.lt
  have hown : (w.alloc (.cells #[] 3)).ownsRow w.heap.size 3 1 (.slice (some ⟨w.heap.size, 0, none⟩) 0 0) 0 [] := World.ownsRow_lit w #[] 0 (Nat.le_refl _) (Nat.zero_le _) (by simp)
  have hcell : ∀ j u, ((List.range n).map f)[j]? = some u → (w.alloc (.cells #[] 3)).cell? ((⟨gv, 0, none⟩ : Addr).add j) = some u := by
    intro j u hj
    have hjn : j < n := by have := (List.getElem?_eq_some_iff.1 hj).1; simpa using this
    rw [Addr.add_lit, Nat.zero_add, (h.alloc _).cell hjn]
    simpa [hjn] using hj
  have hone : ∀ u ∈ (List.range n).map f, u.oneCell' = true := by
    intro u hu
    obtain ⟨i, _, rfl⟩ := List.mem_map.1 hu
    exact hf i
  go_enter Try.func15, Try.ntmps15
  go_wp2_with (at_builtin; refine wpList_append_own _ rfl _ _ 28 rfl w.heap.size 3 i0 (.int .i64 0) 1 8 Try.underlying28 hi hz0 hz1 hz2 rfl (by decide) _ _ _ rfl hown ⟨gv, 0, none⟩ n n ((List.range n).map f) rfl ?c0 hcell hone ?c3 ?c4 ?c5 ?_)
  case c0 => simp
  case c3 => unfold maxLen; omega
  case c4 => omega
  case c5 => simp
  intro v' w1 hown1 hgrow hnn
  have hb : Below w.heap.size w w1 := ((Below.refl _ _).alloc (Nat.le_refl _) _).grown hgrow (by simp) (by intro k hk; simp [Value.ownBlock] at hk; omega)
  obtain ⟨g, cap, rfl, hg, hr⟩ := clone_own hown1 hnn (Nat.le_refl _)
  clear hnn hown1 hgrow hown hcell hone
  go_wp2
  go_ret
  exact ⟨g, cap, rfl, hg, hr, hb⟩

end Go.Proofs.Qxb6602440a
