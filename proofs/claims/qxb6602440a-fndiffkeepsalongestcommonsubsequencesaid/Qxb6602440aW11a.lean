/-
  Lemmas for shortestScript (11): the array v, the recorded rows, worlds.
-/
import Derived.Test.Qxb6602440aW16
import Derived.Test.Qxb6602440aSearch
namespace Go.Proofs.Qxb6602440a
open Go.RowKit

theorem SymsAt.addrI {w : World} {b o : Nat} {ao : Option Addr} {l : List (Int × Int)} (h : SymsAt w b o ao l) (t : TypeId) (ht : Try.prog.underlying t = some (.slice (Try.prog.elem t))) (hs : ∀ w, (sizeOf (Try.prog.elem t)).run Try.prog w = .ok 2 w)
    (i : Int) (h0 : 0 ≤ i) (hi : i < l.length) (c : Nat) : ∀ w, (Instr.indexAt t (.slice ao l.length c) (.int .i64 i)).run Try.prog w = .ok (.pointer (some ⟨b, o + i.toNat * 2, none⟩)) w := by
  obtain ⟨j, rfl⟩ := Int.eq_ofNat_of_zero_le h0
  rw [Int.toNat_natCast]
  exact h.addr t ht hs j (by omega) c

theorem grown_of_below {w w' : World} (h : Below w.heap.size w w') : w.grownBy w' none := ⟨h.os, h.tape, h.output, h.size, fun k hk _ => h.block k hk⟩
theorem OnlyAt.grown {g : Nat} {w w' : World} (h : OnlyAt g w w') : w.grownBy w' (some g) := ⟨h.os, h.tape, h.output, Nat.le_of_eq h.size.symm, fun k _ hn => h.block k (fun e => hn (by rw [e]))⟩
theorem OnlyAt.refl (g : Nat) (w : World) : OnlyAt g w w := ⟨rfl, rfl, rfl, rfl, fun _ _ => rfl⟩
theorem OnlyAt.drewN {g : Nat} {w w' : World} (h : OnlyAt g w w') (q : Nat) : OnlyAt g w (w'.drewN q) := ⟨h.os, h.tape, h.output, h.size, h.block⟩

def vrow (vl : Nat → Int) (i : Nat) : Value := .int .i64 (vl i)
theorem vrow_upd {w : World} {g len i : Nat} {vl : Nat → Int} {x : Int} (h : w.rowIs g 3 len (vrow vl)) : (w.setCell ⟨g, i, none⟩ (.int .i64 x)).rowIs g 3 len (vrow (My.upd vl i x)) :=
  (h.set i _).congr fun j _ => by unfold vrow My.upd; split <;> rfl

/-- The cells of trace. -/
def tcells (G C : Nat → Nat) (len d : Nat) : List Value := (List.range d).map fun i => .slice (some ⟨G i, 0, none⟩) len (C i)
def ext (G : Nat → Nat) (d g : Nat) (i : Nat) : Nat := if i = d then g else G i
def extT (T : Nat → Nat → Int) (d : Nat) (vl : Nat → Int) (i : Nat) : Nat → Int := if i = d then vl else T i
/-- The recorded rows. -/
def RowsOk (w : World) (gv len : Nat) (G : Nat → Nat) (T : Nat → Nat → Int) (d : Nat) : Prop := ∀ i, i < d → G i ≠ gv ∧ RowAt w (G i) 3 len (vrow (T i))

theorem tcells_length (G C : Nat → Nat) (len d : Nat) : (tcells G C len d).length = d := by simp [tcells]
theorem tcells_ext (G C : Nat → Nat) (len d g c : Nat) : tcells (ext G d g) (ext C d c) len (d + 1) = tcells G C len d ++ [.slice (some ⟨g, 0, none⟩) len c] := by
  unfold tcells
  rw [List.range_succ, List.map_append]
  congr 1
  · apply List.map_congr_left
    intro i hi
    have : i < d := List.mem_range.1 hi
    unfold ext
    rw [if_neg (by omega), if_neg (by omega)]
  · simp [ext]

theorem own_tag {w : World} {B : Nat} {e e' : TypeId} {size n : Nat} {v : Value} {xs : List Value} {b : Nat} {c : Array Value} {z : Nat × Nat} (h : w.ownsRow B e size v n xs) (hb : w.heap[b]? = some (.cells c e' z)) (hne : e ≠ e') : some b ≠ v.ownBlock := by
  intro hv
  obtain ⟨_, ⟨rfl, _⟩ | ⟨g, cap, cur, rfl, _, h3, _⟩⟩ := h
  · simp [Value.ownBlock] at hv
  · simp [Value.ownBlock] at hv
    subst hv
    rw [hb] at h3
    simp at h3
    exact hne h3.2.1.symm

/-- Behind 'trace = append(trace, slices.Clone(v))' a block of numbers that was there is there. -/
theorem block_kept {wr w1 w2 : World} {B : Nat} {tv : Value} {d : Nat} {xs : List Value} {o : Obj} {b : Nat} {c : Array Value} (hown : wr.ownsRow B 28 1 tv d xs) (h1 : Below wr.heap.size wr w1) (h2 : (w1.alloc o).grownBy w2 tv.ownBlock) (hb : wr.heap[b]? = some (.cells c 3 (0, 0))) : w2.heap[b]? = wr.heap[b]? := by
  have hlt : b < wr.heap.size := (Array.getElem?_eq_some_iff.1 hb).1
  have hs := h1.size
  rw [h2.block b (by simp; omega) (own_tag hown hb (by decide)), Below.heap_alloc w1 _ _ (by omega), h1.block b hlt]
theorem block_kept_new {wr w1 w2 : World} {B : Nat} {tv : Value} {d : Nat} {xs : List Value} {o : Obj} {b : Nat} {c : Array Value} (hown : wr.ownsRow B 28 1 tv d xs) (h1 : Below wr.heap.size wr w1) (h2 : (w1.alloc o).grownBy w2 tv.ownBlock) (hb : w1.heap[b]? = some (.cells c 3 (0, 0))) : w2.heap[b]? = w1.heap[b]? := by
  have hlt : b < w1.heap.size := (Array.getElem?_eq_some_iff.1 hb).1
  have hown1 : w1.ownsRow B 28 1 tv d xs := hown.kept (grown_of_below h1) (by cases tv.ownBlock <;> simp)
  rw [h2.block b (by simp; omega) (own_tag hown1 hb (by decide)), Below.heap_alloc w1 _ _ hlt]

/-- The shape of trace behind an append. -/
theorem own_trace {w : World} {B : Nat} {v : Value} {d len g c : Nat} {G C : Nat → Nat} (h : w.ownsRow B 28 1 v (d + 1) (tcells G C len d ++ [.slice (some ⟨g, 0, none⟩) len c])) : ∃ tg tcap, v = .slice (some ⟨tg, 0, none⟩) (d + 1) tcap ∧ B ≤ tg ∧ tg < w.heap.size ∧ w.ownsRow B 28 1 (.slice (some ⟨tg, 0, none⟩) (d + 1) tcap) (d + 1) (tcells (ext G d g) (ext C d c) len (d + 1)) := by
  have h' := h
  obtain ⟨_, ⟨_, h1⟩ | ⟨tg, cap, cur, rfl, h2, h3, _⟩⟩ := h
  · omega
  · refine ⟨tg, cap, rfl, h2, (Array.getElem?_eq_some_iff.1 h3).1, ?_⟩
    rw [tcells_ext]
    exact h'

theorem trace_at {w : World} {B tg tcap len d gv : Nat} {G C : Nat → Nat} {T : Nat → Nat → Int} (h : w.ownsRow B 28 1 (.slice (some ⟨tg, 0, none⟩) (d + 1) tcap) (d + 1) (tcells G C len (d + 1))) (hr : RowsOk w gv len G T (d + 1)) : TraceAt w tg d len G C T := by
  intro i hi
  refine ⟨?_, (hr i (by omega)).2.lt, fun j hj => (hr i (by omega)).2.cell hj⟩
  rw [h.cellAt i (by omega)]
  simp [tcells, show i < d + 1 by omega]

/-- A whole 'trace = append(trace, slices.Clone(v))'. -/
theorem after_clone {w wr w1 w2 : World} {B gv len d g : Nat} {tv : Value} {G C : Nat → Nat} {T : Nat → Nat → Int} {vl : Nat → Int} {o : Obj} (hown : wr.ownsRow B 28 1 tv d (tcells G C len d)) (hB : B ≤ w.heap.size) (hbel : Below B w wr)
    (h1 : Below wr.heap.size wr w1) (hg : wr.heap.size ≤ g) (hrow : RowAt w1 g 3 len (vrow vl)) (h2 : (w1.alloc o).grownBy w2 tv.ownBlock) (hv : wr.rowIs gv 3 len (vrow vl)) (hr : RowsOk wr gv len G T d) :
    w2.rowIs gv 3 len (vrow vl) ∧ RowsOk w2 gv len (ext G d g) (extT T d vl) (d + 1) ∧ Below B w w2 := by
  have hlv := hv.lt
  refine ⟨?_, ?_, ?_⟩
  · have hv' := hv
    obtain ⟨cv, hb, _⟩ := hv'
    exact hv.of_block (block_kept hown h1 h2 hb)
  · intro i hi
    unfold ext extT
    by_cases e : i = d
    · simp only [e, if_true]
      refine ⟨by omega, ?_⟩
      obtain ⟨cg, hb, hc⟩ := hrow
      exact ⟨cg, (block_kept_new hown h1 h2 hb).trans hb, hc⟩
    · simp only [e, if_false]
      obtain ⟨hne, cg, hb, hc⟩ := hr i (by omega)
      exact ⟨hne, cg, (block_kept hown h1 h2 hb).trans hb, hc⟩
  · have hb1 : Below B w w1 := hbel.trans (h1.mono (Nat.le_trans hB hbel.size))
    have hown1 : w1.ownsRow B 28 1 tv d (tcells G C len d) := hown.kept (grown_of_below h1) (by cases tv.ownBlock <;> simp)
    exact below_app hb1 hB hown1 h2

theorem RowsOk.only {w w' : World} {gv len d : Nat} {G : Nat → Nat} {T : Nat → Nat → Int} (h : RowsOk w gv len G T d) (k : OnlyAt gv w w') : RowsOk w' gv len G T d := fun i hi => ⟨(h i hi).1, (h i hi).2.of_block (k.block _ (h i hi).1)⟩

theorem one_slice (w : World) (v : Value) : ∀ j u, ([v] : List Value)[j]? = some u → (w.alloc (.cells #[v] 28)).cell? ((⟨w.heap.size, 0, none⟩ : Addr).add j) = some u := by
  intro j u hj
  rw [Addr.add_lit, Nat.zero_add]
  have : (w.alloc (.cells #[v] 28)).cell? ⟨w.heap.size, j, none⟩ = (#[v] : Array Value)[j]? := World.cell?_alloc_mark w _ 28 (0, 0) j
  rw [this]
  simpa using hj

theorem traceOk_ext {M : Nat → Nat → Bool} {off : Int} {d : Nat} {T : Nat → Nat → Int} {vl : Nat → Int} (h : TraceOk M (d - 1) off T) (hv : My.VOk M off d vl) : TraceOk M d off (extT T d vl) := by
  intro d' h1 h2 k k1 k2 k3
  unfold extT
  by_cases e : d' = d
  · subst e
    rw [if_pos rfl]
    exact hv.2 h1 k k1 k2 k3
  · rw [if_neg e]
    exact h d' h1 (by omega) k k1 k2 k3

end Go.Proofs.Qxb6602440a
