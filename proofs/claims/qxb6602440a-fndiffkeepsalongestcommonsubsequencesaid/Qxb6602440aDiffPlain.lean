/-
  The plain laws of diff: common starts and ends, the scripts that it puts together. No Go in sight.
-/
import Derived.Test.Qxb6602440aSearch
namespace Go.Proofs.Qxb6602440a.My

/-- The first k of a family. -/
def upTo (f : Nat → Int × Int × Int) (k : Nat) : List (Int × Int × Int) := (List.range k).map f
theorem upTo_succ (f : Nat → Int × Int × Int) (k : Nat) : upTo f (k + 1) = upTo f k ++ [f k] := by
  unfold upTo
  rw [List.range_succ, List.map_append]
  rfl
theorem upTo_length (f : Nat → Int × Int × Int) (k : Nat) : (upTo f k).length = k := by simp [upTo]
theorem upTo_zero (f : Nat → Int × Int × Int) : upTo f 0 = [] := rfl

def keepUp (t : Nat) : Int × Int × Int := (1, t, t)
def delAt (p t : Nat) : Int × Int × Int := (2, p + t, p)
def insAt (p t : Nat) : Int × Int × Int := (3, p, p + t)
def keepEnd (n m q t : Nat) : Int × Int × Int := (1, (n : Int) - ((q : Int) - t), (m : Int) - ((q : Int) - t))
def shift1 (p : Nat) (e : Int × Int × Int) : Int × Int × Int := (e.1, e.2.1 + p, e.2.2 + p)
def shift (p : Nat) (es : List (Int × Int × Int)) : List (Int × Int × Int) := es.map (shift1 p)

/-- p is the length of the common start. -/
def IsPre (M : Nat → Nat → Bool) (p : Nat) : Prop := (∀ t, t < p → M t t = true) ∧ M p p = false
/-- q is the length of the common end behind a start of length p. -/
def IsPost (M : Nat → Nat → Bool) (n m p q : Nat) : Prop := q ≤ n - p ∧ q ≤ m - p ∧ (∀ t, t < q → M (n - 1 - t) (m - 1 - t) = true) ∧ (q < n - p → q < m - p → M (n - 1 - q) (m - 1 - q) = false)

theorem pre_unique {M : Nat → Nat → Bool} {p p' : Nat} (h : IsPre M p) (h' : IsPre M p') : p = p' := by
  rcases Nat.lt_trichotomy p p' with c | c | c
  · have := h'.1 p c; rw [h.2] at this; cases this
  · exact c
  · have := h.1 p' c; rw [h'.2] at this; cases this
theorem post_unique {M : Nat → Nat → Bool} {n m p q q' : Nat} (h : IsPost M n m p q) (h' : IsPost M n m p q') : q = q' := by
  obtain ⟨a1, a2, a3, a4⟩ := h
  obtain ⟨b1, b2, b3, b4⟩ := h'
  rcases Nat.lt_trichotomy q q' with c | c | c
  · have := b3 q c; rw [a4 (by omega) (by omega)] at this; cases this
  · exact c
  · have := a3 q' c; rw [b4 (by omega) (by omega)] at this; cases this
theorem pre_le {M : Nat → Nat → Bool} {n m p : Nat} (hM : ∀ i j, M i j = true → i < n ∧ j < m) (h : ∀ t, t < p → M t t = true) : p ≤ n ∧ p ≤ m := by
  cases p with
  | zero => omega
  | succ p => have := hM p p (h p (by omega)); omega

/-- The middle parts have the same distance as the whole. -/
theorem L_middle {M M' : Nat → Nat → Bool} {n m p q n' m' : Nat} (hn : n = n' + p + q) (hm : m = m' + p + q) (hp : ∀ t, t < p → M t t = true) (hq : ∀ t, t < q → M (n - 1 - t) (m - 1 - t) = true) (hM : ∀ i j, i < n' → j < m' → M' i j = M (i + p) (j + p)) : L M n m = L M' n' m' + p + q := by
  have h1 := L_tail M (n' + p) (m' + p) q (fun t ht => by
    have := hq (q - 1 - t) (by omega)
    have e1 : n - 1 - (q - 1 - t) = n' + p + t := by omega
    have e2 : m - 1 - (q - 1 - t) = m' + p + t := by omega
    rw [e1, e2] at this
    exact this)
  have h2 := L_shift p M hp n' m'
  have h3 := L_congr (fun i j => M (i + p) (j + p)) M' n' m' (fun i j hi hj => (hM i j hi hj).symm) n' m' (Nat.le_refl _) (Nat.le_refl _)
  rw [hn, hm, h1, h2, h3]
theorem E_middle {M M' : Nat → Nat → Bool} {n m p q n' m' : Nat} (hn : n = n' + p + q) (hm : m = m' + p + q) (hp : ∀ t, t < p → M t t = true) (hq : ∀ t, t < q → M (n - 1 - t) (m - 1 - t) = true) (hM : ∀ i j, i < n' → j < m' → M' i j = M (i + p) (j + p)) : E M n m = E M' n' m' := by
  have := L_middle hn hm hp hq hM
  unfold E
  simp only [Int.toNat_natCast]
  omega

/-! ### The script where the search has found one -/
theorem walk_up {M : Nat → Nat → Bool} {n m : Int} (p : Nat) : ∀ {r : List (Int × Int × Int)}, Walk M n m r p p → (∀ t, t < p → M t t = true) → Walk M n m (upTo keepUp p ++ r) 0 0 := by
  induction p with
  | zero => intro r h _; exact h
  | succ p ih =>
    intro r h hm
    rw [upTo_succ, List.append_assoc]
    apply ih _ (fun t ht => hm t (by omega))
    have hc := walk_count h
    have h' : Walk M n m r ((p : Int) + 1) ((p : Int) + 1) := by
      have e : ((p + 1 : Nat) : Int) = (p : Int) + 1 := by omega
      rw [e] at h; exact h
    exact walk_keep h' (by omega) (by omega) (by simpa using hm p (by omega))
theorem walk_shift {M M' : Nat → Nat → Bool} {n m : Int} {n' m' p : Nat} {tail : List (Int × Int × Int)} (ht : Walk M n m tail ((n' : Int) + p) ((m' : Int) + p)) (hM : ∀ i j, i < n' → j < m' → M' i j = M (i + p) (j + p)) :
    ∀ (es : List (Int × Int × Int)) (x y : Int), 0 ≤ x → 0 ≤ y → Walk M' n' m' es x y → Walk M n m (shift p es ++ tail) (x + p) (y + p) := by
  intro es
  induction es with
  | nil =>
    intro x y _ _ h
    obtain ⟨rfl, rfl⟩ := h
    exact ht
  | cons e r ih =>
    intro x y hx hy h
    obtain ⟨op, i, j⟩ := e
    obtain ⟨rfl, rfl, h⟩ := h
    have hc := walk_count ht
    show Walk M n m ((op, i + p, j + p) :: (shift p r ++ tail)) (i + p) (j + p)
    refine ⟨rfl, rfl, ?_⟩
    rcases h with ⟨rfl, h1, h2, h3, h4⟩ | ⟨rfl, h1, h4⟩ | ⟨rfl, h1, h4⟩
    · refine .inl ⟨rfl, by omega, by omega, ?_, ?_⟩
      · have e1 : (i + (p : Int)).toNat = i.toNat + p := by omega
        have e2 : (j + (p : Int)).toNat = j.toNat + p := by omega
        rw [e1, e2, ← hM _ _ (by omega) (by omega)]
        exact h3
      · have := ih (i + 1) (j + 1) (by omega) (by omega) h4
        have e1 : i + (p : Int) + 1 = i + 1 + p := by omega
        have e2 : j + (p : Int) + 1 = j + 1 + p := by omega
        rw [e1, e2]; exact this
    · refine .inr (.inl ⟨rfl, by omega, ?_⟩)
      have := ih (i + 1) j (by omega) hy h4
      have e1 : i + (p : Int) + 1 = i + 1 + p := by omega
      rw [e1]; exact this
    · refine .inr (.inr ⟨rfl, by omega, ?_⟩)
      have := ih i (j + 1) hx (by omega) h4
      have e2 : j + (p : Int) + 1 = j + 1 + p := by omega
      rw [e2]; exact this
theorem walk_end {M : Nat → Nat → Bool} {n m q : Nat} (hqn : q ≤ n) (hqm : q ≤ m) (hq : ∀ t, t < q → M (n - 1 - t) (m - 1 - t) = true) : Walk M n m (upTo (keepEnd n m q) q) ((n : Int) - q) ((m : Int) - q) := by
  have key : ∀ (k : Nat) (r : List (Int × Int × Int)), k ≤ q → Walk M n m r ((n : Int) - q + k) ((m : Int) - q + k) → Walk M n m (upTo (keepEnd n m q) k ++ r) ((n : Int) - q) ((m : Int) - q) := by
    intro k
    induction k with
    | zero => intro r _ h; simpa [upTo] using h
    | succ k ih =>
      intro r hk h
      rw [upTo_succ, List.append_assoc]
      apply ih _ (by omega)
      have hm := hq (q - 1 - k) (by omega)
      have e1 : n - 1 - (q - 1 - k) = ((n : Int) - q + k).toNat := by omega
      have e2 : m - 1 - (q - 1 - k) = ((m : Int) - q + k).toNat := by omega
      rw [e1, e2] at hm
      have e3 : ((n : Int) - q + ((k + 1 : Nat) : Int)) = (n : Int) - q + k + 1 := by omega
      have e4 : ((m : Int) - q + ((k + 1 : Nat) : Int)) = (m : Int) - q + k + 1 := by omega
      rw [e3, e4] at h
      have := walk_keep h (by omega) (by omega) hm
      have e5 : keepEnd n m q k = (1, (n : Int) - q + k, (m : Int) - q + k) := by
        unfold keepEnd
        congr 2 <;> omega
      show Walk M n m (keepEnd n m q k :: r) _ _
      rw [e5]; exact this
  have := key q [] (Nat.le_refl _) ⟨by omega, by omega⟩
  rw [List.append_nil] at this
  exact this

theorem costs_upTo {f : Nat → Int × Int × Int} {k : Nat} (h : ∀ t, (f t).1 = 1) : costs (upTo f k) = 0 ∧ keeps (upTo f k) = k := by
  induction k with
  | zero => simp [upTo, costs, keeps]
  | succ k ih =>
    rw [upTo_succ, costs_append, keeps_append]
    simp only [costs, keeps, h, if_true]
    omega
theorem keeps_upTo {f : Nat → Int × Int × Int} {k : Nat} (h : ∀ t, (f t).1 ≠ 1) : keeps (upTo f k) = 0 := by
  induction k with
  | zero => simp [upTo, keeps]
  | succ k ih =>
    rw [upTo_succ, keeps_append]
    simp only [keeps, h, if_false]
    omega
theorem costs_shift (p : Nat) (es : List (Int × Int × Int)) : costs (shift p es) = costs es := by
  induction es with
  | nil => rfl
  | cons e r ih =>
    show (if (shift1 p e).1 = 1 then 0 else 1) + costs (shift p r) = _
    rw [ih]
    rfl

/-- diff's script where the search has found one for the middle. -/
theorem found_script {M M' : Nat → Nat → Bool} {n m p q n' m' : Nat} {mid : List (Int × Int × Int)} (hn : n = n' + p + q) (hm : m = m' + p + q) (hp : ∀ t, t < p → M t t = true) (hq : ∀ t, t < q → M (n - 1 - t) (m - 1 - t) = true) (hM : ∀ i j, i < n' → j < m' → M' i j = M (i + p) (j + p))
    (hw : Walk M' n' m' mid 0 0) (hc : costs mid = E M' n' m') :
    Walk M n m (upTo keepUp p ++ shift p mid ++ upTo (keepEnd n m q) q) 0 0 ∧ costs (upTo keepUp p ++ shift p mid ++ upTo (keepEnd n m q) q) = E M n m := by
  constructor
  · rw [List.append_assoc]
    refine walk_up p ?_ hp
    have h1 := walk_end (M := M) (n := n) (m := m) (q := q) (by omega) (by omega) hq
    have e1 : (n : Int) - q = (n' : Int) + p := by omega
    have e2 : (m : Int) - q = (m' : Int) + p := by omega
    rw [e1, e2] at h1
    have := walk_shift h1 hM mid 0 0 (Int.le_refl _) (Int.le_refl _) hw
    simpa using this
  · rw [costs_append, costs_append, costs_shift, (costs_upTo (f := keepUp) (k := p) fun _ => rfl).1, (costs_upTo (f := keepEnd n m q) (k := q) fun _ => rfl).1, hc, E_middle hn hm hp hq hM]
    omega

/-! ### The script where the search has given up -/
/-- What FnDiff asks of such a script, from edit t on, at (x, y); 'saw': an insertion has been seen. -/
def Walk2 (M : Nat → Nat → Bool) (n m : Int) (pre post total : Nat) : List (Int × Int × Int) → Nat → Int → Int → Bool → Prop
  | [], _, x, y, _ => x = n ∧ y = m
  | (op, i, j) :: r, t, x, y, saw =>
    (op = 1 ∧ i = x ∧ j = y ∧ x < n ∧ y < m ∧ M x.toNat y.toNat = true ∧ ¬ (pre ≤ t ∧ t < total - post) ∧ Walk2 M n m pre post total r (t + 1) (x + 1) (y + 1) saw) ∨
    (op = 2 ∧ i = x ∧ j = y ∧ x < n ∧ saw = false ∧ Walk2 M n m pre post total r (t + 1) (x + 1) y saw) ∨
    (op = 3 ∧ i = pre ∧ j = y ∧ y < m ∧ Walk2 M n m pre post total r (t + 1) x (y + 1) true)

section
variable {M : Nat → Nat → Bool} {n m p q total : Nat}
theorem walk2_up (k : Nat) : ∀ {r : List (Int × Int × Int)}, k ≤ p → k ≤ n → k ≤ m → Walk2 M n m p q total r k k k false → (∀ t, t < k → M t t = true) → Walk2 M n m p q total (upTo keepUp k ++ r) 0 0 0 false := by
  induction k with
  | zero => intro r _ _ _ h _; exact h
  | succ k ih =>
    intro r hk hn hm h hmt
    rw [upTo_succ, List.append_assoc]
    refine ih (by omega) (by omega) (by omega) ?_ (fun t ht => hmt t (by omega))
    refine .inl ⟨rfl, rfl, rfl, by omega, by omega, by simpa using hmt k (by omega), by omega, ?_⟩
    have e : ((k + 1 : Nat) : Int) = (k : Int) + 1 := by omega
    rw [e] at h; exact h
theorem walk2_del (k : Nat) : ∀ {r : List (Int × Int × Int)}, p + k ≤ n → Walk2 M n m p q total r (p + k) ((p : Int) + k) p false → Walk2 M n m p q total (upTo (delAt p) k ++ r) p p p false := by
  induction k with
  | zero => intro r _ h; simpa [upTo] using h
  | succ k ih =>
    intro r hk h
    rw [upTo_succ, List.append_assoc]
    refine ih (by omega) ?_
    refine .inr (.inl ⟨rfl, rfl, rfl, by omega, rfl, ?_⟩)
    have e : (p : Int) + ((k + 1 : Nat) : Int) = (p : Int) + k + 1 := by omega
    rw [e] at h; exact h
theorem walk2_ins (a : Nat) (x : Int) (k : Nat) : ∀ {r : List (Int × Int × Int)}, p + k ≤ m → (∀ b, Walk2 M n m p q total r (a + k) x ((p : Int) + k) b) → Walk2 M n m p q total (upTo (insAt p) k ++ r) a x p false := by
  have key : ∀ (k : Nat) (r : List (Int × Int × Int)) (b : Bool), p + k ≤ m → (∀ b, Walk2 M n m p q total r (a + k) x ((p : Int) + k) b) → Walk2 M n m p q total (upTo (insAt p) k ++ r) a x p b := by
    intro k
    induction k with
    | zero => intro r b _ h; simpa [upTo] using h b
    | succ k ih =>
      intro r b hk h
      rw [upTo_succ, List.append_assoc]
      refine ih _ b (by omega) fun b' => ?_
      refine .inr (.inr ⟨rfl, rfl, rfl, by omega, ?_⟩)
      have e : (p : Int) + ((k + 1 : Nat) : Int) = (p : Int) + k + 1 := by omega
      have := h true
      rw [e] at this; exact this
  intro r h1 h2
  exact key k r false h1 h2
theorem walk2_end {a : Nat} (ha : total - q ≤ a) (hqn : q ≤ n) (hqm : q ≤ m) (hq : ∀ t, t < q → M (n - 1 - t) (m - 1 - t) = true) (b : Bool) : Walk2 M n m p q total (upTo (keepEnd n m q) q) a ((n : Int) - q) ((m : Int) - q) b := by
  have key : ∀ (k : Nat) (r : List (Int × Int × Int)), k ≤ q → Walk2 M n m p q total r (a + k) ((n : Int) - q + k) ((m : Int) - q + k) b → Walk2 M n m p q total (upTo (keepEnd n m q) k ++ r) a ((n : Int) - q) ((m : Int) - q) b := by
    intro k
    induction k with
    | zero => intro r _ h; simpa [upTo] using h
    | succ k ih =>
      intro r hk h
      rw [upTo_succ, List.append_assoc]
      apply ih _ (by omega)
      have hm := hq (q - 1 - k) (by omega)
      have e1 : n - 1 - (q - 1 - k) = ((n : Int) - q + k).toNat := by omega
      have e2 : m - 1 - (q - 1 - k) = ((m : Int) - q + k).toNat := by omega
      rw [e1, e2] at hm
      have e3 : ((n : Int) - q + ((k + 1 : Nat) : Int)) = (n : Int) - q + k + 1 := by omega
      have e4 : ((m : Int) - q + ((k + 1 : Nat) : Int)) = (m : Int) - q + k + 1 := by omega
      rw [e3, e4] at h
      have e5 : keepEnd n m q k = (1, (n : Int) - q + k, (m : Int) - q + k) := by
        unfold keepEnd
        congr 2 <;> omega
      show Walk2 M n m p q total (keepEnd n m q k :: r) _ _ _ _
      rw [e5]
      exact .inl ⟨rfl, rfl, rfl, by omega, by omega, hm, by omega, h⟩
  have := key q [] (Nat.le_refl _) ⟨by omega, by omega⟩
  rw [List.append_nil] at this
  exact this
end

/-- diff's script where the search has given up. -/
theorem refused_script {M : Nat → Nat → Bool} {n m p q n' m' : Nat} (hn : n = n' + p + q) (hm : m = m' + p + q) (hp : ∀ t, t < p → M t t = true) (hq : ∀ t, t < q → M (n - 1 - t) (m - 1 - t) = true) :
    Walk2 M n m p q (p + n' + m' + q) (upTo keepUp p ++ upTo (delAt p) n' ++ upTo (insAt p) m' ++ upTo (keepEnd n m q) q) 0 0 0 false ∧ keeps (upTo keepUp p ++ upTo (delAt p) n' ++ upTo (insAt p) m' ++ upTo (keepEnd n m q) q) = p + q := by
  constructor
  · rw [List.append_assoc, List.append_assoc]
    refine walk2_up p (Nat.le_refl _) (by omega) (by omega) ?_ hp
    refine walk2_del n' (by omega) ?_
    refine walk2_ins (p + n') ((p : Int) + n') m' (by omega) fun b => ?_
    have h1 := walk2_end (M := M) (n := n) (m := m) (p := p) (q := q) (total := p + n' + m' + q) (a := p + n' + m') (by omega) (by omega) (by omega) hq b
    have e1 : (n : Int) - q = (p : Int) + n' := by omega
    have e2 : (m : Int) - q = (p : Int) + m' := by omega
    rw [e1, e2] at h1
    exact h1
  · rw [keeps_append, keeps_append, keeps_append, (costs_upTo (f := keepUp) (k := p) fun _ => rfl).2, (costs_upTo (f := keepEnd n m q) (k := q) fun _ => rfl).2, keeps_upTo (f := delAt p) (k := n') (fun t => by simp [delAt]), keeps_upTo (f := insAt p) (k := m') (fun t => by simp [insAt])]
    omega

end Go.Proofs.Qxb6602440a.My
