/-
  The plain laws of the search's loops (shortestScript): what the array v holds step by step; the sum that bounds the work. No Go in sight.
-/
import Derived.Test.Qxb6602440aScript
namespace Go.Proofs.Qxb6602440a.My

/-- The sum of the first N entries. -/
def S (f : Nat → Int) : Nat → Int
  | 0 => 0
  | N + 1 => S f N + f N
def upd (f : Nat → Int) (i : Nat) (x : Int) (j : Nat) : Int := if j = i then x else f j

theorem S_same {f g : Nat → Int} {N : Nat} (h : ∀ i, i < N → f i = g i) : S f N = S g N := by
  induction N with
  | zero => rfl
  | succ N ih => simp only [S]; rw [ih fun i hi => h i (by omega), h N (by omega)]
theorem S_upd {f : Nat → Int} {i N : Nat} {x : Int} (h : i < N) : S (upd f i x) N = S f N - f i + x := by
  induction N with
  | zero => omega
  | succ N ih =>
    simp only [S]
    by_cases e : i = N
    · subst e
      rw [S_same (f := upd f i x) (g := f) (N := i) fun j hj => by unfold upd; rw [if_neg (by omega)]]
      unfold upd
      rw [if_pos rfl]
      omega
    · rw [ih (by omega)]
      have : upd f i x N = f N := by unfold upd; rw [if_neg (fun h => e h.symm)]
      omega
theorem S_zero (N : Nat) : S (fun _ => 0) N = 0 := by
  induction N with
  | zero => rfl
  | succ N ih => simp [S, ih]
theorem S_bound {f : Nat → Int} {N : Nat} (h : ∀ i, i < N → 0 ≤ f i ∧ f i ≤ 5120) : 0 ≤ S f N ∧ S f N ≤ N * 5120 := by
  induction N with
  | zero => simp [S]
  | succ N ih =>
    have h1 := ih fun i hi => h i (by omega)
    have h2 := h N (by omega)
    simp only [S]
    omega

section
variable (M : Nat → Nat → Bool) (n m : Nat)

/-- Ahead of step d the array holds the furthest points of step d - 1. -/
def VOk (off : Int) (d : Nat) (vl : Nat → Int) : Prop :=
  (d = 0 → vl (off + 0 + 1).toNat = 0) ∧ (1 ≤ d → ∀ k : Int, -((d : Int) - 1) ≤ k → k ≤ (d : Int) - 1 → (k - ((d : Int) - 1)) % 2 = 0 → FR M ((d : Int) - 1) k (vl (off + k).toNat))
/-- The first j diagonals of step d are done, and none has come to the end. -/
def Done (off : Int) (d j : Nat) (vl : Nat → Int) : Prop :=
  ∀ t : Nat, t < j → FR M d (-(d : Int) + 2 * t) (vl (off + (-(d : Int) + 2 * t)).toNat) ∧ ¬ ((n : Int) ≤ vl (off + (-(d : Int) + 2 * t)).toNat ∧ (m : Int) ≤ vl (off + (-(d : Int) + 2 * t)).toNat - (-(d : Int) + 2 * t))
def BOk (len : Nat) (vl : Nat → Int) : Prop := ∀ i, i < len → 0 ≤ vl i ∧ vl i ≤ 5120
/-- The work is what the array holds and a count of the rounds. -/
def WOk (len : Nat) (vl : Nat → Int) (work : Int) (c : Nat) : Prop := ∃ cnt : Int, work = S vl len + cnt ∧ 0 ≤ cnt ∧ cnt ≤ c

theorem wok_bound {len : Nat} {vl : Nat → Int} {work : Int} {c : Nat} (h : WOk len vl work c) (hb : BOk len vl) (hl : len ≤ 2051) (hc : c ≤ 1052000) : 0 ≤ work ∧ work ≤ 12000000 := by
  obtain ⟨cnt, h1, h2, h3⟩ := h
  have := S_bound hb
  omega
theorem wok_step {len i : Nat} {vl : Nat → Int} {work x : Int} {c : Nat} (h : WOk len vl work c) (hi : i < len) : WOk len (upd vl i x) (work + (x - vl i + 1)) (c + 1) := by
  obtain ⟨cnt, h1, h2, h3⟩ := h
  refine ⟨cnt + 1, ?_, by omega, by omega⟩
  rw [S_upd hi]
  omega
theorem wok_mono {len : Nat} {vl : Nat → Int} {work : Int} {c c' : Nat} (h : WOk len vl work c) (hc : c ≤ c') : WOk len vl work c' := by
  obtain ⟨cnt, h1, h2, h3⟩ := h
  exact ⟨cnt, h1, h2, by omega⟩
theorem bok_step {len i : Nat} {vl : Nat → Int} {x : Int} (h : BOk len vl) (hx : 0 ≤ x ∧ x ≤ 5120) : BOk len (upd vl i x) := by
  intro j hj
  unfold upd
  split
  · exact hx
  · exact h j hj

/-- The neighbours that step d reads on diagonal k. -/
theorem near_of_vok {off : Int} {d : Nat} {vl : Nat → Int} {k : Int} (h : VOk M off d vl) (hk1 : -(d : Int) ≤ k) (hk2 : k ≤ d) (hp : (k - d) % 2 = 0) : Near M d k (vl (off + k - 1).toNat) (vl (off + k + 1).toNat) := by
  refine ⟨hk1, hk2, by omega, fun hd => ?_, fun hd => ?_, fun hd => ?_⟩
  · obtain rfl : d = 0 := by omega
    obtain rfl : k = 0 := by omega
    exact h.1 rfl
  · have := h.2 (by omega) (k - 1) (by omega) (by omega) (by omega)
    rw [show off + (k - 1) = off + k - 1 by omega] at this
    exact this
  · have := h.2 (by omega) (k + 1) (by omega) (by omega) (by omega)
    rw [show off + (k + 1) = off + k + 1 by omega] at this
    exact this

/-- One diagonal more. -/
theorem vok_step {off : Int} {d : Nat} {vl : Nat → Int} {k x : Int} (h : VOk M off d vl) (ho : (d : Int) < off) (hk1 : -(d : Int) ≤ k) (hp : (k - d) % 2 = 0) : VOk M off d (upd vl (off + k).toNat x) := by
  refine ⟨fun hd => ?_, fun hd k' h1 h2 h3 => ?_⟩
  · have hne : (off + 0 + 1).toNat ≠ (off + k).toNat := by omega
    unfold upd
    rw [if_neg hne]
    exact h.1 hd
  · have hne : (off + k').toNat ≠ (off + k).toNat := by omega
    unfold upd
    rw [if_neg hne]
    exact h.2 hd k' h1 h2 h3
theorem done_step {off : Int} {d j : Nat} {vl : Nat → Int} {k x : Int} (h : Done M n m off d j vl) (ho : (d : Int) < off) (hk : k = -(d : Int) + 2 * j) (hf : FR M d k x) (hno : ¬ ((n : Int) ≤ x ∧ (m : Int) ≤ x - k)) : Done M n m off d (j + 1) (upd vl (off + k).toNat x) := by
  intro t ht
  by_cases e : t = j
  · subst e
    rw [← hk]
    have : upd vl (off + k).toNat x (off + k).toNat = x := by unfold upd; rw [if_pos rfl]
    rw [this]
    exact ⟨hf, hno⟩
  · have : upd vl (off + k).toNat x (off + (-(d : Int) + 2 * t)).toNat = vl (off + (-(d : Int) + 2 * t)).toNat := by unfold upd; rw [if_neg (by omega)]
    rw [this]
    exact h t (by omega)
/-- A whole step. -/
theorem step_end {off : Int} {d : Nat} {vl : Nat → Int} (h : Done M n m off d (d + 1) vl) (hE : (d : Int) ≤ E M n m) : VOk M off (d + 1) vl ∧ ((d + 1 : Nat) : Int) ≤ E M n m := by
  have key : ∀ k : Int, -(d : Int) ≤ k → k ≤ d → (k - d) % 2 = 0 → FR M d k (vl (off + k).toNat) ∧ ¬ ((n : Int) ≤ vl (off + k).toNat ∧ (m : Int) ≤ vl (off + k).toNat - k) := by
    intro k h1 h2 h3
    have := h ((k + d) / 2).toNat (by omega)
    have e : -(d : Int) + 2 * (((k + d) / 2).toNat : Int) = k := by omega
    rw [e] at this
    exact this
  refine ⟨⟨fun hd => by omega, fun _ k h1 h2 h3 => ?_⟩, ?_⟩
  · have e : ((d + 1 : Nat) : Int) - 1 = d := by omega
    rw [e] at h1 h2 h3 ⊢
    exact (key k h1 h2 h3).1
  · have := nohit M (n := n) (m := m) d hE fun k h1 h2 h3 => ⟨_, key k h1 h2 h3⟩
    omega
theorem vok_start {off : Int} : VOk M off 0 (fun _ => 0) := ⟨fun _ => rfl, fun h => by omega⟩
theorem E_le_sum : E M n m ≤ n + m := (E_abs M (x := (n : Int)) (y := (m : Int)) (by omega) (by omega)).2.2
theorem E_nonneg : 0 ≤ E M n m := by
  have := E_abs M (x := (n : Int)) (y := (m : Int)) (by omega) (by omega)
  omega
end

end Go.Proofs.Qxb6602440a.My
