/-
  The plain law of 'FnPlainNameOneByteMore': letters, digits, plain names; no Go in sight.
-/
namespace Go.Proofs.Qxb6602431a.Pl

def letter (c : Int) : Bool := c == 95 || (decide (97 ≤ c) && decide (c ≤ 122)) || (decide (65 ≤ c) && decide (c ≤ 90))
def digit (c : Int) : Bool := decide (48 ≤ c) && decide (c ≤ 57)
/-- What zzByteClass answers. -/
def cls (c : Int) : Int := if digit c = true then 1 else if letter c = true then 2 else 0
/-- May the byte stand at place i of a name? -/
def okAt (i : Nat) (c : Int) : Bool := letter c || (decide (0 < i) && digit c)
def okFrom (i : Nat) : List UInt8 → Bool
  | [] => true
  | b :: r => okAt i b.toNat && okFrom (i + 1) r
/-- What plainName answers. -/
def plain (l : List UInt8) : Bool := okFrom 0 l && !l.isEmpty

theorem okFrom_append (l r : List UInt8) (i : Nat) : okFrom i (l ++ r) = (okFrom i l && okFrom (i + l.length) r) := by
  induction l generalizing i with
  | nil => simp [okFrom]
  | cons b l ih => simp [okFrom, ih, Bool.and_assoc, Nat.add_assoc, Nat.add_comm 1]

theorem okFrom_at (l : List UInt8) (i j : Nat) (hj : j < l.length) (h : okFrom i l = true) : okAt (i + j) (l[j].toNat : Int) = true := by
  induction l generalizing i j with
  | nil => simp at hj
  | cons b l ih =>
    simp only [okFrom, Bool.and_eq_true] at h
    cases j with
    | zero => simpa using h.1
    | succ j =>
      have := ih (i + 1) j (by simpa using hj) h.2
      simpa [Nat.add_assoc, Nat.add_comm 1] using this

theorem okFrom_bad (l : List UInt8) (i j : Nat) (hj : j < l.length) (h : okAt (i + j) (l[j].toNat : Int) = false) : okFrom i l = false := by
  cases e : okFrom i l with
  | false => rfl
  | true => rw [okFrom_at l i j hj e] at h; cases h

theorem okFrom_all (l : List UInt8) (i : Nat) (h : ∀ j (hj : j < l.length), okAt (i + j) (l[j].toNat : Int) = true) : okFrom i l = true := by
  induction l generalizing i with
  | nil => rfl
  | cons b l ih =>
    simp only [okFrom, Bool.and_eq_true]
    refine ⟨h 0 (Nat.zero_lt_succ _), ih (i + 1) fun j hj => ?_⟩
    have := h (j + 1) (by simpa using hj)
    simpa [Nat.add_assoc, Nat.add_comm 1] using this

theorem cls_cases (c : Int) : (cls c = 1 ∧ digit c = true ∧ letter c = false) ∨ (cls c = 2 ∧ digit c = false ∧ letter c = true) ∨ (cls c = 0 ∧ digit c = false ∧ letter c = false) := by
  unfold cls
  cases hd : digit c with
  | true =>
    have : letter c = false := by
      simp [digit] at hd
      simp [letter]
      omega
    simp [this]
  | false => cases hl : letter c <;> simp

/-- One byte more at the end. -/
theorem plain_snoc (l : List UInt8) (b : UInt8) : plain (l ++ [b]) = ((plain l && decide (1 ≤ cls b.toNat)) || (l.isEmpty && (cls b.toNat == 2))) := by
  unfold plain
  rw [okFrom_append]
  cases l with
  | nil =>
    rcases cls_cases (b.toNat : Int) with ⟨h, hd, hl⟩ | ⟨h, hd, hl⟩ | ⟨h, hd, hl⟩ <;> simp [h, hd, hl, okFrom, okAt]
  | cons a l =>
    rcases cls_cases (b.toNat : Int) with ⟨h, hd, hl⟩ | ⟨h, hd, hl⟩ | ⟨h, hd, hl⟩ <;> simp [h, hd, hl, okFrom, okAt]

/-- One byte more at the start: it must be a letter or an underscore. -/
theorem plain_cons (l : List UInt8) (b : UInt8) (h : cls b.toNat ≠ 2) : plain (b :: l) = false := by
  unfold plain
  rcases cls_cases (b.toNat : Int) with ⟨h', hd, hl⟩ | ⟨h', hd, hl⟩ | ⟨h', hd, hl⟩
  · simp [okFrom, okAt, hl]
  · exact absurd h' h
  · simp [okFrom, okAt, hl]

end Go.Proofs.Qxb6602431a.Pl
