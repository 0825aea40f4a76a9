/-
  The plain laws under the two statements of this seat: longest common subsequences, edit distance, Myers's furthest reaching points, scripts. No Go in sight.
-/
namespace Go.Proofs.Qxb6602440a.My

theorem ltge (a b : Int) : a < b ∨ b ≤ a := by omega

/-- One row of the textbook's table out of the row before it. -/
def rowStep (Mi : Nat → Bool) (prev : Nat → Nat) : Nat → Nat
  | 0 => 0
  | j + 1 => if Mi j = true then prev j + 1 else max (prev (j + 1)) (rowStep Mi prev j)
/-- The length of a longest common subsequence of the first i and the first j items; 'M i j': do items i and j match? -/
def L (M : Nat → Nat → Bool) : Nat → Nat → Nat
  | 0 => fun _ => 0
  | i + 1 => rowStep (M i) (L M i)

section
variable (M : Nat → Nat → Bool)

theorem L_zero (j : Nat) : L M 0 j = 0 := rfl
theorem L_zero' (i : Nat) : L M i 0 = 0 := by cases i <;> rfl
theorem L_hit {i j : Nat} (h : M i j = true) : L M (i + 1) (j + 1) = L M i j + 1 := by
  show (if M i j = true then _ else _) = _
  rw [if_pos h]
theorem L_miss {i j : Nat} (h : M i j = false) : L M (i + 1) (j + 1) = max (L M i (j + 1)) (L M (i + 1) j) := by
  show (if M i j = true then _ else _) = _
  rw [if_neg (by simp [h])]
  rfl

theorem L_row (i : Nat) (hm : ∀ j, L M i j ≤ L M i (j + 1) ∧ L M i (j + 1) ≤ L M i j + 1) : ∀ j, (L M i j ≤ L M (i + 1) j ∧ L M (i + 1) j ≤ L M i j + 1) ∧ (L M (i + 1) j ≤ L M (i + 1) (j + 1) ∧ L M (i + 1) (j + 1) ≤ L M (i + 1) j + 1) := by
  have hV : ∀ j, (L M i j ≤ L M (i + 1) j ∧ L M (i + 1) j ≤ L M i j + 1) := by
    intro j
    induction j with
    | zero => simp [L_zero']
    | succ j ih =>
      have := hm j
      cases h : M i j with
      | true => rw [L_hit M h]; omega
      | false => rw [L_miss M h]; omega
  intro j
  refine ⟨hV j, ?_⟩
  have := hm j
  have := hV j
  cases h : M i j with
  | true => rw [L_hit M h]; omega
  | false => rw [L_miss M h]; omega

theorem L_mono (i : Nat) : ∀ j, L M i j ≤ L M i (j + 1) ∧ L M i (j + 1) ≤ L M i j + 1 := by
  induction i with
  | zero => intro j; simp [L_zero]
  | succ i ih => exact fun j => (L_row M i ih j).2
theorem L_down (i j : Nat) : L M i j ≤ L M (i + 1) j ∧ L M (i + 1) j ≤ L M i j + 1 := (L_row M i (L_mono M i) j).1
theorem L_le (i j : Nat) : L M i j ≤ i ∧ L M i j ≤ j := by
  constructor
  · induction i with
    | zero => simp [L_zero]
    | succ i ih => have := L_down M i j; omega
  · induction j with
    | zero => simp [L_zero']
    | succ j ih => have := L_mono M i j; omega
theorem L_diag (i j : Nat) : L M (i + 1) (j + 1) ≤ L M i j + 1 := by
  cases h : M i j with
  | true => rw [L_hit M h]; omega
  | false =>
    rw [L_miss M h]
    have := L_mono M i j
    have := L_down M i j
    omega

/-- Where nothing matches any more the table stands still. -/
theorem L_past {n m : Nat} (hM : ∀ i j, M i j = true → i < n ∧ j < m) (x y : Nat) (hx : n ≤ x) (hy : m ≤ y) : L M x y = L M n m := by
  have h1 : ∀ d y, L M (n + d) y = L M n y := by
    intro d
    induction d with
    | zero => intro y; rfl
    | succ d ih =>
      intro y
      induction y with
      | zero => rw [L_zero', L_zero']
      | succ y ihy =>
        have hf : M (n + d) y = false := by
          cases h : M (n + d) y with
          | false => rfl
          | true => have := hM _ _ h; omega
        show L M (n + d + 1) (y + 1) = _
        rw [L_miss M hf, ih (y + 1), show n + d + 1 = n + (d + 1) from rfl, ihy]
        have := L_mono M n y
        omega
  have h2 : ∀ d x, L M x (m + d) = L M x m := by
    intro d
    induction d with
    | zero => intro x; rfl
    | succ d ih =>
      intro x
      induction x with
      | zero => rfl
      | succ x ihx =>
        have hf : M x (m + d) = false := by
          cases h : M x (m + d) with
          | false => rfl
          | true => have := hM _ _ h; omega
        show L M (x + 1) (m + d + 1) = _
        rw [L_miss M hf, show m + d + 1 = m + (d + 1) from rfl, ihx, ih (x + 1)]
        have := L_down M x m
        omega
  obtain ⟨d, rfl⟩ : ∃ d, x = n + d := ⟨x - n, by omega⟩
  obtain ⟨e, rfl⟩ : ∃ e, y = m + e := ⟨y - m, by omega⟩
  rw [h1, h2]
theorem L_le_n {n m : Nat} (hM : ∀ i j, M i j = true → i < n ∧ j < m) (x y : Nat) : L M x y ≤ n := by
  by_cases hx : x ≤ n
  · have := L_le M x y; omega
  · have h1 : ∀ d y, L M (n + d) y ≤ n := by
      intro d
      induction d with
      | zero => intro y; exact (L_le M n y).1
      | succ d ih =>
        intro y
        induction y with
        | zero => rw [L_zero']; omega
        | succ y ihy =>
          have hf : M (n + d) y = false := by
            cases h : M (n + d) y with
            | false => rfl
            | true => have := hM _ _ h; omega
          show L M (n + d + 1) (y + 1) ≤ _
          rw [L_miss M hf]
          have := ih (y + 1)
          have : L M (n + d + 1) y ≤ n := ihy
          omega
    obtain ⟨d, rfl⟩ : ∃ d, x = n + d := ⟨x - n, by omega⟩
    exact h1 d y

/-! ### Edit distance -/
/-- The number of deletions and insertions between the first x and the first y items. -/
def E (x y : Int) : Int := x + y - 2 * (L M x.toNat y.toNat : Int)

theorem E_abs {x y : Int} (hx : 0 ≤ x) (hy : 0 ≤ y) : x - y ≤ E M x y ∧ y - x ≤ E M x y ∧ E M x y ≤ x + y := by
  unfold E
  have := L_le M x.toNat y.toNat
  omega
theorem E_right {x y : Int} (hx : 0 ≤ x) (hy : 0 ≤ y) : E M (x + 1) y ≤ E M x y + 1 := by
  unfold E
  obtain ⟨i, rfl⟩ := Int.eq_ofNat_of_zero_le hx
  obtain ⟨j, rfl⟩ := Int.eq_ofNat_of_zero_le hy
  have := L_down M i j
  have e : ((i : Int) + 1).toNat = i + 1 := by omega
  rw [e]
  simp only [Int.toNat_natCast]
  omega
theorem E_down {x y : Int} (hx : 0 ≤ x) (hy : 0 ≤ y) : E M x (y + 1) ≤ E M x y + 1 := by
  unfold E
  obtain ⟨i, rfl⟩ := Int.eq_ofNat_of_zero_le hx
  obtain ⟨j, rfl⟩ := Int.eq_ofNat_of_zero_le hy
  have := L_mono M i j
  have e : ((j : Int) + 1).toNat = j + 1 := by omega
  rw [e]
  simp only [Int.toNat_natCast]
  omega
theorem E_hit {x y : Int} (hx : 0 ≤ x) (hy : 0 ≤ y) (h : M x.toNat y.toNat = true) : E M (x + 1) (y + 1) = E M x y := by
  unfold E
  obtain ⟨i, rfl⟩ := Int.eq_ofNat_of_zero_le hx
  obtain ⟨j, rfl⟩ := Int.eq_ofNat_of_zero_le hy
  have e : ((i : Int) + 1).toNat = i + 1 := by omega
  have e' : ((j : Int) + 1).toNat = j + 1 := by omega
  simp only [Int.toNat_natCast] at h
  rw [e, e', L_hit M h]
  simp only [Int.toNat_natCast]
  omega
/-- No match: one edit more than from the left or from above. -/
theorem E_miss {x y c : Int} (hx : 0 ≤ x) (hy : 0 ≤ y) (h : M x.toNat y.toNat = false) (h1 : c ≤ E M x (y + 1)) (h2 : c ≤ E M (x + 1) y) : c + 1 ≤ E M (x + 1) (y + 1) := by
  unfold E at h1 h2 ⊢
  obtain ⟨i, rfl⟩ := Int.eq_ofNat_of_zero_le hx
  obtain ⟨j, rfl⟩ := Int.eq_ofNat_of_zero_le hy
  have e : ((i : Int) + 1).toNat = i + 1 := by omega
  have e' : ((j : Int) + 1).toNat = j + 1 := by omega
  simp only [Int.toNat_natCast] at h h1 h2
  rw [e, e', L_miss M h]
  rw [e'] at h1
  rw [e] at h2
  omega
theorem E_diag {x y : Int} (hx : 0 ≤ x) (hy : 0 ≤ y) : E M x y ≤ E M (x + 1) (y + 1) := by
  unfold E
  obtain ⟨i, rfl⟩ := Int.eq_ofNat_of_zero_le hx
  obtain ⟨j, rfl⟩ := Int.eq_ofNat_of_zero_le hy
  have e : ((i : Int) + 1).toNat = i + 1 := by omega
  have e' : ((j : Int) + 1).toNat = j + 1 := by omega
  have := L_diag M i j
  rw [e, e']
  simp only [Int.toNat_natCast]
  omega
/-- Along a diagonal the distance does not fall. -/
theorem E_along {k x x' : Int} (hx : 0 ≤ x) (hy : 0 ≤ x - k) (h : x ≤ x') : E M x (x - k) ≤ E M x' (x' - k) := by
  obtain ⟨t, rfl⟩ : ∃ t : Nat, x' = x + t := ⟨(x' - x).toNat, by omega⟩
  clear h
  induction t with
  | zero => simp
  | succ t ih =>
    have := E_diag M (x := x + t) (y := x + t - k) (by omega) (by omega)
    have e1 : x + ((t + 1 : Nat) : Int) = x + t + 1 := by omega
    have e2 : x + ((t + 1 : Nat) : Int) - k = x + t - k + 1 := by omega
    rw [e2, e1]
    omega
/-- Over matches alone it stands still. -/
theorem E_snake {k x x' : Int} (hx : 0 ≤ x) (hy : 0 ≤ x - k) (h : x ≤ x') (hm : ∀ i, x ≤ i → i < x' → M i.toNat (i - k).toNat = true) : E M x' (x' - k) = E M x (x - k) := by
  obtain ⟨t, rfl⟩ : ∃ t : Nat, x' = x + t := ⟨(x' - x).toNat, by omega⟩
  clear h
  induction t with
  | zero => simp
  | succ t ih =>
    have ih' := ih fun i h1 h2 => hm i h1 (by omega)
    have := E_hit M (x := x + t) (y := x + t - k) (by omega) (by omega) (hm _ (by omega) (by omega))
    have e1 : x + ((t + 1 : Nat) : Int) = x + t + 1 := by omega
    have e2 : x + ((t + 1 : Nat) : Int) - k = x + t - k + 1 := by omega
    rw [e2, e1]
    omega

/-! ### The furthest reaching point of d edits on diagonal k -/
def FR (d k x : Int) : Prop := 0 ≤ x ∧ 0 ≤ x - k ∧ E M x (x - k) ≤ d ∧ d < E M (x + 1) (x + 1 - k)

/-- What shortestScript and backtrack take for the start of the snake of step d on diagonal k. -/
def start (d k vm vp : Int) : Int := if k = -d ∨ (k ≠ d ∧ vm < vp) then vp else vm + 1

/-- What is known ahead of step d on diagonal k: the two neighbours of step d - 1; at step 0 a zero. -/
def Near (d k vm vp : Int) : Prop := -d ≤ k ∧ k ≤ d ∧ 0 ≤ d ∧ (d = 0 → vp = 0) ∧ (-d < k → FR M (d - 1) (k - 1) vm) ∧ (k < d → FR M (d - 1) (k + 1) vp)

theorem start_ok {d k vm vp : Int} (h : Near M d k vm vp) : 0 ≤ start d k vm vp ∧ 0 ≤ start d k vm vp - k ∧ E M (start d k vm vp) (start d k vm vp - k) ≤ d := by
  obtain ⟨h1, h2, h3, h0, hm, hp⟩ := h
  by_cases hd : d = 0
  · subst hd
    obtain rfl : k = 0 := by omega
    have e : start 0 0 vm vp = 0 := by simp [start, h0]
    rw [e]
    refine ⟨by omega, by omega, ?_⟩
    have := (E_abs M (x := 0) (y := 0 - 0) (by omega) (by omega)).2.2
    omega
  · by_cases hc : k = -d ∨ (k ≠ d ∧ vm < vp)
    · have e : start d k vm vp = vp := by simp [start, hc]
      rw [e]
      obtain ⟨a1, a2, a3, _⟩ := hp (by omega)
      have := E_down M (x := vp) (y := vp - (k + 1)) (by omega) (by omega)
      have e2 : vp - k = vp - (k + 1) + 1 := by omega
      rw [e2]
      omega
    · have e : start d k vm vp = vm + 1 := by simp only [start, if_neg hc]
      rw [e]
      obtain ⟨a1, a2, a3, _⟩ := hm (by omega)
      have := E_right M (x := vm) (y := vm - (k - 1)) (by omega) (by omega)
      have e2 : vm + 1 - k = vm - (k - 1) := by omega
      rw [e2]
      omega

/-- Behind the start whoever does not match is past d edits. -/
theorem start_far {d k vm vp i : Int} (h : Near M d k vm vp) (hi : start d k vm vp ≤ i) (hf : M i.toNat (i - k).toNat = false) : d < E M (i + 1) (i + 1 - k) := by
  have hok := start_ok M h
  obtain ⟨h1, h2, h3, h0, hm, hp⟩ := h
  have e : i + 1 - k = i - k + 1 := by omega
  rw [e]
  have key : d + 1 ≤ E M (i + 1) (i - k + 1) := by
    apply E_miss M (by omega) (by omega) hf
    · by_cases hk : -d < k
      · obtain ⟨a1, a2, _, a4⟩ := hm hk
        have hvm : vm + 1 ≤ i := by
          unfold start at hi
          split at hi <;> omega
        have := E_along M (k := k - 1) (x := vm + 1) (x' := i) (by omega) (by omega) hvm
        have e2 : i - k + 1 = i - (k - 1) := by omega
        rw [e2]
        omega
      · have := E_abs M (x := i) (y := i - k + 1) (by omega) (by omega)
        omega
    · by_cases hk : k < d
      · obtain ⟨a1, a2, _, a4⟩ := hp hk
        have hvp : vp + 1 ≤ i + 1 := by
          unfold start at hi
          split at hi <;> omega
        have := E_along M (k := k + 1) (x := vp + 1) (x' := i + 1) (by omega) (by omega) hvp
        have e2 : i - k = i + 1 - (k + 1) := by omega
        rw [e2]
        omega
      · have := E_abs M (x := i + 1) (y := i - k) (by omega) (by omega)
        omega
  omega

/-- The search: from the start along matches to a place that does not match. -/
theorem FR_of_snake {d k vm vp x : Int} (h : Near M d k vm vp) (hx : start d k vm vp ≤ x) (hm : ∀ i, start d k vm vp ≤ i → i < x → M i.toNat (i - k).toNat = true) (hf : M x.toNat (x - k).toNat = false) : FR M d k x := by
  obtain ⟨a, b, c⟩ := start_ok M h
  refine ⟨by omega, by omega, ?_, start_far M h hx hf⟩
  rw [E_snake M a b hx hm]
  exact c

/-- The way back: what lies between the start and the furthest point matches. -/
theorem snake_of_FR {d k vm vp x : Int} (h : Near M d k vm vp) (hx : FR M d k x) : start d k vm vp ≤ x ∧ ∀ i, start d k vm vp ≤ i → i < x → M i.toNat (i - k).toNat = true := by
  obtain ⟨a, b, c⟩ := start_ok M h
  obtain ⟨x1, x2, x3, x4⟩ := hx
  refine ⟨?_, fun i h1 h2 => ?_⟩
  · rcases ltge x (start d k vm vp) with hlt | hge
    · have := E_along M (k := k) (x := x + 1) (x' := start d k vm vp) (by omega) (by omega) (by omega)
      omega
    · exact hge
  · cases hf : M i.toNat (i - k).toNat with
    | true => rfl
    | false =>
      have h3 := start_far M h h1 hf
      have h4 := E_along M (k := k) (x := i + 1) (x' := x) (by omega) (by omega) (by omega)
      omega

theorem FR_zero {k x : Int} (hx : FR M 0 k x) : k = 0 ∧ ∀ i, 0 ≤ i → i < x → M i.toNat i.toNat = true := by
  obtain ⟨x1, x2, x3, x4⟩ := hx
  have := E_abs M x1 x2
  obtain rfl : k = 0 := by omega
  have hn : Near M 0 0 0 0 := ⟨by omega, by omega, by omega, fun _ => rfl, fun h => absurd h (by omega), fun h => absurd h (by omega)⟩
  have hs := snake_of_FR M hn ⟨x1, x2, x3, x4⟩
  refine ⟨rfl, fun i h1 h2 => ?_⟩
  have := hs.2 i (by simp [start]; omega) h2
  simpa using this

variable {n m : Nat}
theorem E_past (x y : Int) (hx : (n : Int) ≤ x) (hy : (m : Int) ≤ y) (hM : ∀ i j, M i j = true → i < n ∧ j < m) : E M x y = E M n m + (x - n) + (y - m) := by
  unfold E
  rw [L_past M hM x.toNat y.toNat (by omega) (by omega), Int.toNat_natCast, Int.toNat_natCast]
  omega

theorem FR_le (hM : ∀ i j, M i j = true → i < n ∧ j < m) {d k x : Int} (h : FR M d k x) : x ≤ n + d := by
  obtain ⟨x1, x2, x3, _⟩ := h
  unfold E at x3
  have := L_le_n M hM x.toNat (x - k).toNat
  have := L_le M x.toNat (x - k).toNat
  omega

/-- The search ends where both ends are reached: nowhere else. -/
theorem hit_is_end (hM : ∀ i j, M i j = true → i < n ∧ j < m) {d k x : Int} (h : FR M d k x) (hx : (n : Int) ≤ x) (hy : (m : Int) ≤ x - k) (hd : d ≤ E M n m) : x = n ∧ x - k = m ∧ E M n m = d := by
  obtain ⟨_, _, x3, _⟩ := h
  rw [E_past M x (x - k) hx hy hM] at x3
  omega

/-- A step that ends nowhere: the distance is greater. -/
theorem nohit (d : Int) (hd : d ≤ E M n m) (h : ∀ k, -d ≤ k → k ≤ d → (k - d) % 2 = 0 → ∃ x, FR M d k x ∧ ¬ ((n : Int) ≤ x ∧ (m : Int) ≤ x - k)) : d + 1 ≤ E M n m := by
  rcases ltge d (E M n m) with h1 | h1
  · omega
  · exfalso
    have he : E M n m = d := by omega
    have hab := E_abs M (x := (n : Int)) (y := (m : Int)) (by omega) (by omega)
    have hpar : ((n : Int) - m - d) % 2 = 0 := by
      rw [← he]
      unfold E
      omega
    obtain ⟨x, ⟨x1, x2, x3, x4⟩, hno⟩ := h ((n : Int) - m) (by omega) (by omega) hpar
    apply hno
    have hge : (n : Int) ≤ x := by
      rcases ltge x n with hlt | hge
      · have := E_along M (k := (n : Int) - m) (x := x + 1) (x' := (n : Int)) (by omega) (by omega) (by omega)
        have e : (n : Int) - ((n : Int) - m) = m := by omega
        rw [e] at this
        omega
      · exact hge
    omega
end

end Go.Proofs.Qxb6602440a.My
