/-
  Scripts as lists of (op, i, j): walks over two sequences; what the search's end says of the longest common subsequence; common starts and ends. No Go in sight.
-/
import Derived.Test.Qxb6602440aMyers
namespace Go.Proofs.Qxb6602440a.My

/-- Do item i of a and item j of b match? -/
def Mof (a b : List (Int × Int)) (i j : Nat) : Bool :=
  match a[i]?, b[j]? with
  | some p, some q => decide (p = q)
  | _, _ => false

theorem Mof_lt (a b : List (Int × Int)) : ∀ i j, Mof a b i j = true → i < a.length ∧ j < b.length := by
  intro i j h
  unfold Mof at h
  split at h
  · rename_i p q hp hq
    exact ⟨(List.getElem?_eq_some_iff.1 hp).1, (List.getElem?_eq_some_iff.1 hq).1⟩
  · cases h
theorem Mof_at {a b : List (Int × Int)} {i j : Nat} (hi : i < a.length) (hj : j < b.length) : Mof a b i j = decide (a[i] = b[j]) := by
  unfold Mof
  rw [List.getElem?_eq_getElem hi, List.getElem?_eq_getElem hj]
theorem Mof_out {a b : List (Int × Int)} {i j : Nat} (h : ¬ (i < a.length ∧ j < b.length)) : Mof a b i j = false := by
  cases e : Mof a b i j with
  | false => rfl
  | true => exact absurd (Mof_lt a b i j e) h

/-! ### Scripts -/
/-- The script leads from (x, y) to (n, m): 1 keeps, 2 deletes, 3 inserts, each at the place where the walk stands. -/
def Walk (M : Nat → Nat → Bool) (n m : Int) : List (Int × Int × Int) → Int → Int → Prop
  | [], x, y => x = n ∧ y = m
  | (op, i, j) :: r, x, y => i = x ∧ j = y ∧ ((op = 1 ∧ x < n ∧ y < m ∧ M x.toNat y.toNat = true ∧ Walk M n m r (x + 1) (y + 1)) ∨ (op = 2 ∧ x < n ∧ Walk M n m r (x + 1) y) ∨ (op = 3 ∧ y < m ∧ Walk M n m r x (y + 1)))
/-- How many items it keeps. -/
def keeps : List (Int × Int × Int) → Int
  | [] => 0
  | e :: r => (if e.1 = 1 then 1 else 0) + keeps r
/-- How many it deletes or inserts. -/
def costs : List (Int × Int × Int) → Int
  | [] => 0
  | e :: r => (if e.1 = 1 then 0 else 1) + costs r

theorem keeps_append (r s : List (Int × Int × Int)) : keeps (r ++ s) = keeps r + keeps s := by
  induction r with
  | nil => simp [keeps]
  | cons e r ih => simp only [List.cons_append, keeps, ih]; omega
theorem costs_append (r s : List (Int × Int × Int)) : costs (r ++ s) = costs r + costs s := by
  induction r with
  | nil => simp [costs]
  | cons e r ih => simp only [List.cons_append, costs, ih]; omega
theorem costs_reverse (r : List (Int × Int × Int)) : costs r.reverse = costs r := by
  induction r with
  | nil => rfl
  | cons e r ih => simp only [List.reverse_cons, costs_append, ih, costs]; omega
theorem count_nonneg (r : List (Int × Int × Int)) : 0 ≤ keeps r ∧ 0 ≤ costs r ∧ keeps r + costs r = r.length := by
  induction r with
  | nil => simp [keeps, costs]
  | cons e r ih =>
    simp only [keeps, costs, List.length_cons]
    split <;> omega

theorem walk_count {M : Nat → Nat → Bool} {n m : Int} {r : List (Int × Int × Int)} {x y : Int} (h : Walk M n m r x y) : 2 * keeps r + costs r = (n - x) + (m - y) ∧ x ≤ n ∧ y ≤ m := by
  induction r generalizing x y with
  | nil => obtain ⟨rfl, rfl⟩ := h; simp [keeps, costs]
  | cons e r ih =>
    obtain ⟨op, i, j⟩ := e
    obtain ⟨rfl, rfl, h | h | h⟩ := h
    · obtain ⟨rfl, _, _, _, hr⟩ := h
      have := ih hr
      simp only [keeps, costs, if_true]
      omega
    · obtain ⟨rfl, _, hr⟩ := h
      have := ih hr
      simp only [keeps, costs]
      simp
      omega
    · obtain ⟨rfl, _, hr⟩ := h
      have := ih hr
      simp only [keeps, costs]
      simp
      omega

/-- A script of as many edits as the distance keeps a longest common subsequence. -/
theorem walk_keeps {M : Nat → Nat → Bool} {n m : Nat} {r : List (Int × Int × Int)} (h : Walk M n m r 0 0) (hc : costs r = E M n m) : keeps r = L M n m := by
  have := (walk_count h).1
  unfold E at hc
  simp only [Int.toNat_natCast] at hc
  omega

theorem walk_keep {M : Nat → Nat → Bool} {n m : Int} {r : List (Int × Int × Int)} {x y : Int} (h : Walk M n m r (x + 1) (y + 1)) (hx : x < n) (hy : y < m) (hM : M x.toNat y.toNat = true) : Walk M n m ((1, x, y) :: r) x y :=
  ⟨rfl, rfl, .inl ⟨rfl, hx, hy, hM, h⟩⟩
theorem walk_del {M : Nat → Nat → Bool} {n m : Int} {r : List (Int × Int × Int)} {x y : Int} (h : Walk M n m r (x + 1) y) : Walk M n m ((2, x, y) :: r) x y :=
  ⟨rfl, rfl, .inr (.inl ⟨rfl, by have := (walk_count h).2.1; omega, h⟩)⟩
theorem walk_ins {M : Nat → Nat → Bool} {n m : Int} {r : List (Int × Int × Int)} {x y : Int} (h : Walk M n m r x (y + 1)) : Walk M n m ((3, x, y) :: r) x y :=
  ⟨rfl, rfl, .inr (.inr ⟨rfl, by have := (walk_count h).2.2; omega, h⟩)⟩

/-! ### Common starts and ends -/
/-- The table behind a common first item. -/
theorem L_shift1 (M : Nat → Nat → Bool) (h0 : M 0 0 = true) : ∀ i j, L M (i + 1) (j + 1) = L (fun i j => M (i + 1) (j + 1)) i j + 1 := by
  intro i
  induction i with
  | zero =>
    intro j
    induction j with
    | zero => rw [L_hit M h0]; rfl
    | succ j ih =>
      rw [L_zero]
      cases h : M 0 (j + 1) with
      | true => rw [L_hit M h]; simp [L_zero]
      | false => rw [L_miss M h, ih]; simp [L_zero]
  | succ i ih =>
    intro j
    induction j with
    | zero =>
      rw [L_zero']
      cases h : M (i + 1) 0 with
      | true => rw [L_hit M h]; simp [L_zero']
      | false => rw [L_miss M h, ih 0]; simp [L_zero']
    | succ j ihj =>
      cases h : M (i + 1) (j + 1) with
      | true => rw [L_hit M h, L_hit (fun i j => M (i + 1) (j + 1)) (i := i) (j := j) h, ih j]
      | false => rw [L_miss M h, L_miss (fun i j => M (i + 1) (j + 1)) (i := i) (j := j) h, ih (j + 1), ihj]; omega
theorem L_shift (p : Nat) : ∀ (M : Nat → Nat → Bool), (∀ t, t < p → M t t = true) → ∀ i j, L M (i + p) (j + p) = L (fun i j => M (i + p) (j + p)) i j + p := by
  induction p with
  | zero => intro M _ i j; rfl
  | succ p ih =>
    intro M h i j
    have h1 := L_shift1 M (h 0 (by omega)) (i + p) (j + p)
    have h2 := ih (fun i j => M (i + 1) (j + 1)) (fun t ht => h (t + 1) (by omega)) i j
    show L M (i + p + 1) (j + p + 1) = _
    rw [h1, h2]
    rfl
/-- The table over a common end. -/
theorem L_tail (M : Nat → Nat → Bool) (i j : Nat) : ∀ p, (∀ t, t < p → M (i + t) (j + t) = true) → L M (i + p) (j + p) = L M i j + p := by
  intro p
  induction p with
  | zero => intro _; rfl
  | succ p ih =>
    intro h
    show L M (i + p + 1) (j + p + 1) = _
    rw [L_hit M (h p (by omega)), ih fun t ht => h t (by omega)]
    rfl
/-- The table looks only at what lies before. -/
theorem L_congr (M M' : Nat → Nat → Bool) (n m : Nat) (h : ∀ i j, i < n → j < m → M i j = M' i j) : ∀ i j, i ≤ n → j ≤ m → L M i j = L M' i j := by
  intro i
  induction i with
  | zero => intro j _ _; rfl
  | succ i ih =>
    intro j
    induction j with
    | zero => intro _ _; rw [L_zero', L_zero']
    | succ j ihj =>
      intro hi hj
      have hij := h i j (by omega) (by omega)
      cases e : M i j with
      | true => rw [L_hit M e, L_hit M' (by rw [← hij]; exact e), ih j (by omega) (by omega)]
      | false => rw [L_miss M e, L_miss M' (by rw [← hij]; exact e), ih (j + 1) (by omega) hj, ihj hi (by omega)]

end Go.Proofs.Qxb6602440a.My
