/-
  slices.Reverse at []edit (17).
-/
import Derived.Test.Qxb6602440aW13
import Derived.Test.Qxb6602440aW15
import Derived.RegionTactic
import Derived.BigRegion
namespace Go.Proofs.Qxb6602440a
open Go.RowKit

/-- Cell c of an edit. -/
def ecell (e : Int × Int × Int) (c : Nat) : Value := if c = 0 then .int .u8 e.1 else if c = 1 then .int .i64 e.2.1 else .int .i64 e.2.2
/-- Edit t behind k exchanges. -/
def swapTo (es : List (Int × Int × Int)) (k t : Nat) : Int × Int × Int := if t < k ∨ es.length ≤ t + k then es.getD (es.length - 1 - t) (0, 0, 0) else es.getD t (0, 0, 0)
def rowTo (es : List (Int × Int × Int)) (k : Nat) (c : Nat) : Value := ecell (swapTo es k (c / 3)) (c % 3)

theorem RowAt.frozen {w : World} {g : Nat} {e : TypeId} {n : Nat} {f : Nat → Value} (h : RowAt w g e n f) (i : Nat) : w.frozen? ⟨g, i, none⟩ = false := by
  obtain ⟨c, hb, _⟩ := h
  simp [World.frozen?, hb]
theorem RowAt.set {w : World} {g : Nat} {e : TypeId} {n : Nat} {f : Nat → Value} (h : RowAt w g e n f) (i : Nat) (v : Value) : RowAt (w.setCell ⟨g, i, none⟩ v) g e n (fun j => if j = i then v else f j) := by
  obtain ⟨c, hb, hc⟩ := h
  refine ⟨c.setIfInBounds i v, ?_, fun j hj => ?_⟩
  · simp [World.setCell, Array.getElem?_modify, hb]
  · rw [Array.getElem?_setIfInBounds]
    by_cases h : j = i
    · subst h
      have : j < c.size := (Array.getElem?_eq_some_iff.1 (hc j hj)).1
      simp [this]
    · rw [if_neg (fun e => h e.symm)]
      show c[j]? = some (if j = i then v else f j)
      rw [if_neg h]
      exact hc j hj
theorem RowAt.drew {w : World} {g : Nat} {e : TypeId} {n : Nat} {f : Nat → Value} (h : RowAt w g e n f) : RowAt w.drew g e n f := h
theorem RowAt.congr {w : World} {g : Nat} {e : TypeId} {n : Nat} {f f' : Nat → Value} (h : RowAt w g e n f) (k : ∀ i, i < n → f i = f' i) : RowAt w g e n f' := by
  obtain ⟨c, hb, hc⟩ := h
  exact ⟨c, hb, fun i hi => by rw [hc i hi, k i hi]⟩

theorem row_cells {w : World} {g k : Nat} {es : List (Int × Int × Int)} (h : RowAt w g 52 (es.length * 3) (rowTo es k)) {t : Nat} (ht : t < es.length) {e : Int × Int × Int} (he : swapTo es k t = e) :
    w.cell? ⟨g, t * 3, none⟩ = some (.int .u8 e.1) ∧ w.cell? ⟨g, t * 3 + 1, none⟩ = some (.int .i64 e.2.1) ∧ w.cell? ⟨g, t * 3 + 2, none⟩ = some (.int .i64 e.2.2) := by
  have d0 : t * 3 / 3 = t ∧ t * 3 % 3 = 0 := by omega
  have d1 : (t * 3 + 1) / 3 = t ∧ (t * 3 + 1) % 3 = 1 := by omega
  have d2 : (t * 3 + 2) / 3 = t ∧ (t * 3 + 2) % 3 = 2 := by omega
  refine ⟨?_, ?_, ?_⟩
  · rw [h.cell (by omega)]; unfold rowTo; rw [d0.1, d0.2, he]; rfl
  · rw [h.cell (by omega)]; unfold rowTo; rw [d1.1, d1.2, he]; rfl
  · rw [h.cell (by omega)]; unfold rowTo; rw [d2.1, d2.2, he]; rfl

/-- The six stores of one exchange. -/
def swapped (w : World) (g i j : Nat) (p q : Int × Int × Int) : World :=
  (((((w.setCell ⟨g, i * 3, none⟩ (.int .u8 q.1)).setCell ⟨g, i * 3 + 1, none⟩ (.int .i64 q.2.1)).setCell ⟨g, i * 3 + 2, none⟩ (.int .i64 q.2.2)).setCell ⟨g, j * 3, none⟩ (.int .u8 p.1)).setCell ⟨g, j * 3 + 1, none⟩ (.int .i64 p.2.1)).setCell ⟨g, j * 3 + 2, none⟩ (.int .i64 p.2.2)

theorem swap_step {w : World} {g k j : Nat} {es : List (Int × Int × Int)} {p q : Int × Int × Int} (h : RowAt w g 52 (es.length * 3) (rowTo es k)) (hj : k + j + 1 = es.length) (hkj : k < j) (hp : swapTo es k k = p) (hq : swapTo es k j = q) :
    RowAt (swapped w g k j p q) g 52 (es.length * 3) (rowTo es (k + 1)) := by
  refine ((((((h.set _ _).set _ _).set _ _).set _ _).set _ _).set _ _).congr fun c hc => ?_
  have e1 : swapTo es (k + 1) k = q := by
    rw [← hq]; unfold swapTo
    rw [if_pos (by omega), if_neg (by omega)]
    congr 1; omega
  have e2 : swapTo es (k + 1) j = p := by
    rw [← hp]; unfold swapTo
    rw [if_pos (by omega), if_neg (by omega)]
    congr 1; omega
  have e3 : ∀ t, t ≠ k → t ≠ j → swapTo es (k + 1) t = swapTo es k t := by
    intro t h1 h2
    unfold swapTo
    have : (t < k + 1 ∨ es.length ≤ t + (k + 1)) ↔ (t < k ∨ es.length ≤ t + k) := by omega
    simp only [this]
  unfold rowTo
  by_cases c1 : c / 3 = j
  · have : c = j * 3 ∨ c = j * 3 + 1 ∨ c = j * 3 + 2 := by omega
    rcases this with rfl | rfl | rfl
    · have : j * 3 / 3 = j ∧ j * 3 % 3 = 0 := by omega
      rw [if_neg (by omega), if_neg (by omega), if_pos rfl, this.1, this.2, e2]; rfl
    · have : (j * 3 + 1) / 3 = j ∧ (j * 3 + 1) % 3 = 1 := by omega
      rw [if_neg (by omega), if_pos rfl, this.1, this.2, e2]; rfl
    · have : (j * 3 + 2) / 3 = j ∧ (j * 3 + 2) % 3 = 2 := by omega
      rw [if_pos rfl, this.1, this.2, e2]; rfl
  · by_cases c2 : c / 3 = k
    · have : c = k * 3 ∨ c = k * 3 + 1 ∨ c = k * 3 + 2 := by omega
      rcases this with rfl | rfl | rfl
      · have : k * 3 / 3 = k ∧ k * 3 % 3 = 0 := by omega
        rw [if_neg (by omega), if_neg (by omega), if_neg (by omega), if_neg (by omega), if_neg (by omega), if_pos rfl, this.1, this.2, e1]; rfl
      · have : (k * 3 + 1) / 3 = k ∧ (k * 3 + 1) % 3 = 1 := by omega
        rw [if_neg (by omega), if_neg (by omega), if_neg (by omega), if_neg (by omega), if_pos rfl, this.1, this.2, e1]; rfl
      · have : (k * 3 + 2) / 3 = k ∧ (k * 3 + 2) % 3 = 2 := by omega
        rw [if_neg (by omega), if_neg (by omega), if_neg (by omega), if_pos rfl, this.1, this.2, e1]; rfl
    · rw [if_neg (by omega), if_neg (by omega), if_neg (by omega), if_neg (by omega), if_neg (by omega), if_neg (by omega), e3 _ c2 c1]

set_option maxHeartbeats 400000 in
theorem reverse_nil (w : World) : Calls Try.prog 17 #[.slice none 0 0] w fun e w' => e = .returned (.tuple #[]) ∧ w' = w := by
  go_enter Try.func17, Try.ntmps17
  go_wp2
  refine wp_loop_rounds 1 ?_
  rw [rounds_succ]
  go_wp2
  go_end0
  exact ⟨rfl, rfl⟩

/-- A world that parts from another in block g alone. -/
structure OnlyAt (g : Nat) (w w' : World) : Prop where
  os : w'.os = w.os
  tape : w'.tape = w.tape
  output : w'.output = w.output
  size : w'.heap.size = w.heap.size
  block : ∀ k, k ≠ g → w'.heap[k]? = w.heap[k]?
theorem OnlyAt.below {g B : Nat} {w w' : World} (h : OnlyAt g w w') (hg : B ≤ g) : Below B w w' := ⟨h.os, h.tape, h.output, Nat.le_of_eq h.size.symm, fun k hk => h.block k (by omega)⟩
theorem OnlyAt.setCell {g : Nat} {w wr : World} (h : OnlyAt g w wr) (i : Nat) (v : Value) : OnlyAt g w (wr.setCell ⟨g, i, none⟩ v) :=
  ⟨h.os, h.tape, h.output, by rw [← h.size]; simp [World.setCell], fun k hk => (Below.heap_setCell wr ⟨g, i, none⟩ v k hk).trans (h.block k hk)⟩
theorem OnlyAt.swapped {g : Nat} {w wr : World} (h : OnlyAt g w wr) (i j : Nat) (p q : Int × Int × Int) : OnlyAt g w (swapped wr g i j p q) :=
  (((((h.setCell _ _).setCell _ _).setCell _ _).setCell _ _).setCell _ _).setCell _ _
theorem OnlyAt.drew {g : Nat} {w w' : World} (h : OnlyAt g w w') : OnlyAt g w w'.drew := ⟨h.os, h.tape, h.output, h.size, h.block⟩

set_option maxHeartbeats 2000000 in
theorem reverse_some (es : List (Int × Int × Int)) (g cap : Nat) (w : World) (hl : es.length ≤ 16384) (h0 : 0 < es.length) (h : RowAt w g 52 (es.length * 3) (rowTo es 0)) :
    Calls Try.prog 17 #[.slice (some ⟨g, 0, none⟩) es.length cap] w fun e w' => e = .returned (.tuple #[]) ∧ RowAt w' g 52 (es.length * 3) (rowTo es es.length) ∧ OnlyAt g w w' := by
  go_enter Try.func17, Try.ntmps17
  go_wp2
  go_loopw [2, 3] (fun a b wr => ∃ k j : Nat, a = .int .i64 k ∧ b = .int .i64 j ∧ Hid (k + j + 1 = es.length) ∧ k ≤ j + 1 ∧ RowAt wr g 52 (es.length * 3) (rowTo es k) ∧ OnlyAt g w wr) (fun a _ _ => es.length - (intOf a).toNat)
  case atStart => exact ⟨0, es.length - 1, rfl, by go_num, by unfold Hid; omega, by omega, h, ⟨rfl, rfl, rfl, rfl, fun _ _ => rfl⟩⟩
  case round =>
    obtain ⟨k, j, rfl, rfl, hkj, hle, hr, hon⟩ := hrel
    clear h
    by_cases hlt : k < j
    · have hK := hkj.out
      obtain ⟨p, hp⟩ : ∃ p, swapTo es k k = p := ⟨_, rfl⟩
      obtain ⟨q, hq⟩ : ∃ q, swapTo es k j = q := ⟨_, rfl⟩
      obtain ⟨a0, a1, a2⟩ := row_cells hr (t := k) (by omega) hp
      obtain ⟨b0, b1, b2⟩ := row_cells hr (t := j) (by omega) hq
      have hfz := fun i => hr.frozen i
      have HS : Hid (RowAt (swapped wr g k j p q) g 52 (es.length * 3) (rowTo es (k + 1)) ∧ OnlyAt g w (swapped wr g k j p q)) := ⟨swap_step hr hK hlt hp hq, hon.swapped _ _ _ _⟩
      have l1 : (k : Int) < (es.length : Int) := by omega
      have l2 : (j : Int) < (es.length : Int) := by omega
      obtain ⟨p1, p2, p3⟩ := p
      obtain ⟨q1, q2, q3⟩ := q
      clear hK hp hq hr hon
      go_wp2
      go_region
      go_wp2
      go_roundw
      case rel =>
        refine ⟨k + 1, j - 1, by go_num, by go_num, by have := hkj.out; unfold Hid; omega, by omega, ?_, ?_⟩
        · show RowAt (swapped wr g k j (p1, p2, p3) (q1, q2, q3)).drew g 52 (es.length * 3) (rowTo es (k + 1))
          exact RowAt.drew HS.out.1
        · show OnlyAt g w (swapped wr g k j (p1, p2, p3) (q1, q2, q3)).drew
          exact OnlyAt.drew HS.out.2
      case measure => simp [intOf]; omega
    · have hK := hkj.out
      have hR : Hid (RowAt wr g 52 (es.length * 3) (rowTo es es.length)) := hr.congr fun c hc => by
        unfold rowTo
        congr 1
        unfold swapTo
        by_cases e : c / 3 < k ∨ es.length ≤ c / 3 + k
        · rw [if_pos e, if_pos (by omega)]
        · rw [if_neg e, if_pos (by omega)]
          congr 1
          omega
      clear hK
      go_wp2
      go_end0
      exact ⟨rfl, hR.out, hon⟩

end Go.Proofs.Qxb6602440a
