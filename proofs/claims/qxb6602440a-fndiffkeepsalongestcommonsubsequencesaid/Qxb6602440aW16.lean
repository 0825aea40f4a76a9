/-
  backtrack (16).
-/
import Derived.Test.Qxb6602440aW16a
import Derived.Deep.QuietTactic
import Derived.BigQuiet
namespace Go.Proofs.Qxb6602440a
open Go.RowKit

/-- The recorded search as it lies in memory: entry d is the row T d, in block G d. -/
def TraceAt (w : World) (tg D len : Nat) (G C : Nat → Nat) (T : Nat → Nat → Int) : Prop :=
  ∀ d, d ≤ D → w.cell? ⟨tg, d, none⟩ = some (.slice (some ⟨G d, 0, none⟩) len (C d)) ∧ G d < w.heap.size ∧ ∀ i, i < len → w.cell? ⟨G d, i, none⟩ = some (.int .i64 (T d i))

/-- What the search has recorded: ahead of step d the furthest points of step d - 1. -/
def TraceOk (M : Nat → Nat → Bool) (D : Nat) (off : Int) (T : Nat → Nat → Int) : Prop :=
  ∀ d : Nat, 1 ≤ d → d ≤ D → ∀ k : Int, -((d : Int) - 1) ≤ k → k ≤ (d : Int) - 1 → (k - ((d : Int) - 1)) % 2 = 0 → My.FR M ((d : Int) - 1) k (T d (off + k).toNat)

/-- What holds of the way back at (x, y), d edits to go. -/
def Back (M : Nat → Nat → Bool) (n m : Nat) (D d : Nat) (x y : Int) (es : List (Int × Int × Int)) : Prop :=
  My.Walk M n m es.reverse x y ∧ My.costs es = (D : Int) - d

theorem back_len {M : Nat → Nat → Bool} {n m D d : Nat} {x y : Int} {es : List (Int × Int × Int)} (h : Back M n m D d x y es) (hx : 0 ≤ x) (hy : 0 ≤ y) (hn : n ≤ 4096) (hm : m ≤ 4096) : es.length ≤ 8192 ∧ x ≤ n ∧ y ≤ m := by
  have h1 := My.walk_count h.1
  have h2 := My.count_nonneg es.reverse
  rw [List.length_reverse] at h2
  omega
theorem back_keep {M : Nat → Nat → Bool} {n m D d : Nat} {x y : Int} {es : List (Int × Int × Int)} (hM : ∀ i j, M i j = true → i < n ∧ j < m) (h : Back M n m D d x y es) (hx : 0 < x) (hy : 0 < y) (hm : M (x - 1).toNat (y - 1).toNat = true) : Back M n m D d (x - 1) (y - 1) (es ++ [(1, x - 1, y - 1)]) := by
  refine ⟨?_, ?_⟩
  · rw [List.reverse_append]
    have h1 : My.Walk M n m es.reverse (x - 1 + 1) (y - 1 + 1) := by
      have e1 : x - 1 + 1 = x := by omega
      have e2 : y - 1 + 1 = y := by omega
      rw [e1, e2]; exact h.1
    have h2 := hM _ _ hm
    exact My.walk_keep h1 (by omega) (by omega) hm
  · rw [My.costs_append, h.2]; simp [My.costs]

theorem snoc_nil {es : List (Int × Int × Int)} {e : Int × Int × Int} {v : Value} : Hid (es ++ [e] = [] → v = .slice none 0 0) := fun h => absurd h (by simp)
theorem back_ins {M : Nat → Nat → Bool} {n m D d : Nat} {x y y' : Int} {es : List (Int × Int × Int)} (h : Back M n m D d x y' es) (hy : y' = y + 1) (hd : 0 < d) : Back M n m D (d - 1) x y (es ++ [(3, x, y)]) := by
  subst hy
  refine ⟨?_, ?_⟩
  · rw [List.reverse_append]; exact My.walk_ins h.1
  · rw [My.costs_append, h.2]; simp [My.costs]; omega
theorem back_del {M : Nat → Nat → Bool} {n m D d : Nat} {x y x' : Int} {es : List (Int × Int × Int)} (h : Back M n m D d x' y es) (hx : x' = x + 1) (hd : 0 < d) : Back M n m D (d - 1) x y (es ++ [(2, x, y)]) := by
  subst hx
  refine ⟨?_, ?_⟩
  · rw [List.reverse_append]; exact My.walk_del h.1
  · rw [My.costs_append, h.2]; simp [My.costs]; omega
theorem fr_pred {M : Nat → Nat → Bool} {d : Nat} {k k' x : Int} (hd : 0 < d) (hk : k = k') (h : My.FR M ((d : Int) - 1) k x) : My.FR M ((d - 1 : Nat) : Int) k' x := by
  subst hk
  have e : ((d - 1 : Nat) : Int) = (d : Int) - 1 := by omega
  rw [e]; exact h

theorem near_of {M : Nat → Nat → Bool} {D : Nat} {off : Int} {T : Nat → Nat → Int} (hok : TraceOk M D off T) {d : Nat} {k : Int} (h1 : 0 < d) (h2 : d ≤ D) (hk1 : -(d : Int) ≤ k) (hk2 : k ≤ d) (hp : (k - d) % 2 = 0) : My.Near M d k (T d (off + k - 1).toNat) (T d (off + k + 1).toNat) := by
  refine ⟨hk1, hk2, by omega, fun h => by omega, fun h => ?_, fun h => ?_⟩
  · have := hok d (by omega) h2 (k - 1) (by omega) (by omega) (by omega)
    rw [show off + (k - 1) = off + k - 1 by omega] at this
    exact this
  · have := hok d (by omega) h2 (k + 1) (by omega) (by omega) (by omega)
    rw [show off + (k + 1) = off + k + 1 by omega] at this
    exact this

set_option maxRecDepth 100000 in
set_option maxHeartbeats 4000000 in
theorem back_any (M : Nat → Nat → Bool) (n m D lim : Nat) (hM : ∀ i j, M i j = true → i < n ∧ j < m) (hn : n ≤ 4096) (hm : m ≤ 4096) (hD : D ≤ lim) (hlim : lim ≤ 1024)
    (tg tcap : Nat) (G C : Nat → Nat) (T : Nat → Nat → Int) (off : Int) (hoff : off = lim + 1) (w : World) (hT : TraceAt w tg D (2 * lim + 3) G C T) (htg : tg < w.heap.size) (hok : TraceOk M D off T) (hend : My.FR M D ((n : Int) - m) n) (hpar : ((n : Int) - m - D) % 2 = 0) :
    Calls Try.prog 16 #[.slice (some ⟨tg, 0, none⟩) (D + 1) tcap, .int .i64 off, .int .i64 n, .int .i64 m] w fun e w' => ∃ (es : List (Int × Int × Int)) (v : Value), e = .returned v ∧ My.Walk M n m es 0 0 ∧ My.costs es = D ∧
      ((es = [] ∧ v = .slice none 0 0) ∨ ∃ g cap, v = .slice (some ⟨g, 0, none⟩) es.length cap ∧ g < w'.heap.size ∧ EditsAt w' g es) ∧ Below w.heap.size w w' := by
  obtain ⟨i0, hi, hz0, hz1, hz2⟩ := info_parts info52
  have hof1 : 1 ≤ off := by omega
  have hof2 : off ≤ 1025 := by omega
  have HO : Hid (off = lim + 1) := hoff
  clear hoff
  go_enter Try.func16, Try.ntmps16
  go_wp2
  go_loopw [9, 10, 11, 12] (fun rv a b dv wr => ∃ (d : Nat) (x y : Int) (es : List (Int × Int × Int)), d ≤ D ∧ dv = .int .i64 d ∧ a = .int .i64 x ∧ b = .int .i64 y ∧ wr.ownsRow w.heap.size 52 3 rv es.length (ecells es) ∧ Hid (es = [] → rv = .slice none 0 0) ∧
      Hid (Back M n m D d x y es) ∧ Hid (My.FR M d (x - y) x) ∧ Hid ((x - y - d) % 2 = 0) ∧ Below w.heap.size w wr) (fun _ _ _ dv _ => (intOf dv).toNat)
  case atStart =>
    refine ⟨D, n, m, [], Nat.le_refl _, by go_num, rfl, rfl, World.ownsRow_nil _ _ _ _, fun _ => rfl, ⟨⟨rfl, rfl⟩, by simp [My.costs]⟩, hend, hpar, Below.refl _ _⟩
  case round =>
    obtain ⟨d, x, y, es, hd, rfl, rfl, rfl, hown, hnil, hback, hfr, hpr, hbel⟩ := hrel
    by_cases hd0 : 0 < d
    · obtain ⟨wo, rfl⟩ : ∃ wo : World, wo = wr := ⟨_, rfl⟩
      obtain ⟨hx0, hy0, hE, _⟩ := hfr.out
      have hy0' : 0 ≤ y := by omega
      have hab := My.E_abs M hx0 hy0
      have hk1 : -(d : Int) ≤ x - y := by omega
      have hk2 : x - y ≤ d := by omega
      obtain ⟨hln, hxn, hym⟩ := back_len hback.out hx0 hy0' hn hm
      have hnear := near_of hok hd0 hd hk1 hk2 hpr.out
      obtain ⟨hst, hsn⟩ := My.snake_of_FR M hnear hfr.out
      obtain ⟨ct, hGd, hrow⟩ := hT d hd
      have hL := HO.out
      have hdb : (d : Int) ≤ 1024 := by omega
      have hwr : IntKind.i64.wrap (-(d : Int)) = -(d : Int) := by rw [IntKind.wrap_i64]; omega
      have hw1 : IntKind.i64.wrap (off + (x - y)) = off + (x - y) := by rw [IntKind.wrap_i64]; omega
      have hw2 : IntKind.i64.wrap (off + (x - y) - 1) = off + (x - y) - 1 := by rw [IntKind.wrap_i64]; omega
      have hw3 : IntKind.i64.wrap (off + (x - y) + 1) = off + (x - y) + 1 := by rw [IntKind.wrap_i64]; omega
      have hGr : G d < wo.heap.size := Nat.lt_of_lt_of_le hGd hbel.size
      have ct' : wo.cell? ⟨tg, d, none⟩ = some (.slice (some ⟨G d, 0, none⟩) (2 * lim + 3) (C d)) := by rw [hbel.cell (p := ⟨tg, d, none⟩) htg]; exact ct
      have cm : wo.cell? ⟨G d, (off + (x - y) - 1).toNat, none⟩ = some (.int .i64 (T d (off + (x - y) - 1).toNat)) := by rw [hbel.cell (p := ⟨G d, _, none⟩) hGd]; exact hrow _ (by omega)
      have cp : wo.cell? ⟨G d, (off + (x - y) + 1).toNat, none⟩ = some (.int .i64 (T d (off + (x - y) + 1).toNat)) := by rw [hbel.cell (p := ⟨G d, _, none⟩) hGd]; exact hrow _ (by omega)
      have cm2 : wo.cell? ⟨G d, (off + (x - y)).toNat - 1, none⟩ = some (.int .i64 (T d (off + (x - y) - 1).toNat)) := by rw [show (off + (x - y)).toNat - 1 = (off + (x - y) - 1).toNat by omega]; exact cm
      have bm1 : 0 ≤ off + (x - y) - 1 := by omega
      have bm0 : 1 ≤ off + (x - y) := by omega
      have bm2 : off + (x - y) - 1 < ((2 * lim + 3 : Nat) : Int) := by omega
      have bp1 : 0 ≤ off + (x - y) + 1 := by omega
      have bp2 : off + (x - y) + 1 < ((2 * lim + 3 : Nat) : Int) := by omega
      have hmM := fun h => My.FR_le M hM (hnear.2.2.2.2.1 h)
      have hpM := fun h => My.FR_le M hM (hnear.2.2.2.2.2 h)
      have hm0 := fun h => (hnear.2.2.2.2.1 h).1
      have hp0 := fun h => (hnear.2.2.2.2.2 h).1
      generalize T d (off + (x - y) - 1).toNat = vm at *
      generalize T d (off + (x - y) + 1).toNat = vp at *
      generalize hln2 : 2 * lim + 3 = len at *
      have Hst : Hid (My.start d (x - y) vm vp ≤ x ∧ (∀ i, My.start d (x - y) vm vp ≤ i → i < x → M i.toNat (i - (x - y)).toNat = true) ∧ My.Near M d (x - y) vm vp) := ⟨hst, hsn, hnear⟩
      clear hst hsn hnear hL hln2 hE hab hy0 hok hT hend hpar hrow ct hfr HO
      have hcases : (((x - y == -(d : Int)) = true ∨ ((x - y == -(d : Int)) = false ∧ (x - y != (d : Int)) = true ∧ vm < vp)) ∧ My.start d (x - y) vm vp = vp ∧ x - y < d) ∨
          (((x - y == -(d : Int)) = false ∧ ((x - y != (d : Int)) = false ∨ ((x - y != (d : Int)) = true ∧ decide (vm < vp) = false))) ∧ My.start d (x - y) vm vp = vm + 1 ∧ -(d : Int) < x - y) := by
        by_cases h1 : x - y = -(d : Int)
        · refine .inl ⟨.inl (by simpa using h1), ?_, by omega⟩
          unfold My.start; rw [if_pos (.inl h1)]
        · by_cases h2 : x - y = (d : Int)
          · refine .inr ⟨⟨by simpa using h1, .inl (by simpa using h2)⟩, ?_, by omega⟩
            unfold My.start; rw [if_neg (by omega)]
          · by_cases h3 : vm < vp
            · refine .inl ⟨.inr ⟨by simpa using h1, by simpa using h2, h3⟩, ?_, by omega⟩
              unfold My.start; rw [if_pos (.inr ⟨h2, h3⟩)]
            · refine .inr ⟨⟨by simpa using h1, .inr ⟨by simpa using h2, decide_eq_false h3⟩⟩, ?_, by omega⟩
              unfold My.start; rw [if_neg (by omega)]
      rcases hcases with ⟨hcs, hst, hkd⟩ | ⟨⟨hq, hcs⟩, hst, hkd⟩
      · have b1 := hpM hkd
        have b2 := hp0 hkd
        rw [hst] at Hst
        clear hst hmM hpM hm0 hp0
        rcases hcs with q1 | ⟨q1, q2, q3⟩
        all_goals
          go_wp2
          go_quiet (fail)
          go_wp2
          go_loopw [9, 10, 11] (fun rv a b wi => ∃ (t : Nat) (es : List (Int × Int × Int)), a = .int .i64 (vp + t) ∧ b = .int .i64 (vp - (x - y) + t) ∧ Hid (vp + t ≤ x) ∧ wi.ownsRow w.heap.size 52 3 rv es.length (ecells es) ∧ Hid (es = [] → rv = .slice none 0 0) ∧ Hid (Back M n m D d (vp + t) (vp - (x - y) + t) es) ∧
              Hid (rv.ownBlock ≠ some wo.heap.size) ∧ Hid (wi.heap[wo.heap.size]? = some (.cells #[.int .u8 3, .int .i64 vp, .int .i64 (vp - (x - y + 1))] 52 (0, 0))) ∧ Below w.heap.size w wi) (fun _ a _ _ => (intOf a - vp).toNat)
          case atStart =>
            refine ⟨(x - vp).toNat, es, by congr 1; have := Hst.out.1; omega, by congr 1; have := Hst.out.1; omega, by have := Hst.out.1; unfold Hid; omega, hown.kept (eWorld_grown wo nq 3 vp (vp - (x - y + 1))) (by cases u9.ownBlock <;> simp), hnil, ?_, ?_, eWorld_block wo nq 3 vp (vp - (x - y + 1)), hbel.grown (eWorld_grown wo nq 3 vp (vp - (x - y + 1))) hbel.size (fun k hk => by cases hk)⟩
            · have h1 := Hst.out.1
              have e1 : vp + (((x - vp).toNat : Nat) : Int) = x := by omega
              have e2 : vp - (x - y) + (((x - vp).toNat : Nat) : Int) = y := by omega
              unfold Hid; rw [e1, e2]; exact hback.out
            · intro h; have := (hown.lt _ h).2; omega
          case round =>
            clear hown hnil hback hbel ct' cm cm2 cp hln hxn hym
            obtain ⟨t, es, rfl, rfl, htx, hown, hnil, hback, hne, heb, hbel⟩ := hrel
            have hbl := Hst.out.2.2.2.2.2.2.2 hkd
            have hpy : 0 ≤ vp - (x - y + 1) := hbl.2.1
            obtain ⟨hln, hxn, hym⟩ := back_len hback.out (by omega) (by omega) hn hm
            clear hbl
            by_cases ht : 0 < t
            · go_wp2_with (at_builtin; refine wpList_append_own _ rfl _ _ 37 rfl w.heap.size 52 i0 (.agg #[.int .u8 0, .int .i64 0, .int .i64 0]) 3 24 Try.underlying37 hi hz0 hz1 hz2 rfl (by decide) _ _ _ rfl (hown.alloc _) ⟨wr.heap.size, 0, none⟩ 1 1 [.int .u8 1, .int .i64 (vp + t - 1), .int .i64 (vp - (x - y) + t - 1)] rfl rfl ?c1 ?c2 ?c3 ?c4 ?c5 ?_)
              case c1 => exact one_edit wr (1, vp + t - 1, vp - (x - y) + t - 1)
              case c2 => exact one_edit_one (1, vp + t - 1, vp - (x - y) + t - 1)
              case c3 => unfold maxLen; omega
              case c4 => omega
              case c5 => have := hbel.size; simp; omega
              intro v' w1 hown1 hgrow hnn
              have R1 := own_snoc (1, vp + t - 1, vp - (x - y) + t - 1) hown1
              have R2 := below_app hbel (Nat.le_refl _) hown hgrow
              have hlo : wo.heap.size < wr.heap.size := (Array.getElem?_eq_some_iff.1 heb.out).1
              have R4 : Hid (w1.heap[wo.heap.size]? = some (.cells #[.int .u8 3, .int .i64 vp, .int .i64 (vp - (x - y + 1))] 52 (0, 0))) := by
                unfold Hid
                rw [hgrow.block _ (by simp; omega) (fun e => hne.out e.symm), Below.heap_alloc wr _ _ hlo]
                exact heb.out
              have R5 : Hid (v'.ownBlock ≠ some wo.heap.size) := own_ne R1 (by decide) R4.out
              have R3 : Hid (Back M n m D d (vp + ((t - 1 : Nat) : Int)) (vp - (x - y) + ((t - 1 : Nat) : Int)) (es ++ [(1, vp + t - 1, vp - (x - y) + t - 1)])) := by
                have e1 : vp + ((t - 1 : Nat) : Int) = vp + t - 1 := by omega
                have e2 : vp - (x - y) + ((t - 1 : Nat) : Int) = vp - (x - y) + t - 1 := by omega
                unfold Hid; rw [e1, e2]
                refine back_keep hM hback.out (by omega) (by omega) ?_
                have := Hst.out.2.1 (vp + t - 1) (by omega) (by have := htx.out; omega)
                have e3 : vp - (x - y) + t - 1 = vp + t - 1 - (x - y) := by omega
                rw [e3]; exact this
              clear hown1 hgrow hnn hown hbel hback hnil hne heb hlo
              go_wp2
              go_roundw
              case rel =>
                have e1 : (Value.int .i64 (vp + t - 1)) = .int .i64 (vp + ((t - 1 : Nat) : Int)) := by congr 1; omega
                have e2 : (Value.int .i64 (vp - (x - y) + t - 1)) = .int .i64 (vp - (x - y) + ((t - 1 : Nat) : Int)) := by congr 1; omega
                have e3 : Hid (vp + ((t - 1 : Nat) : Int) ≤ x) := by have := htx.out; unfold Hid; omega
                first
                  | exact ⟨t - 1, es ++ [(1, vp + t - 1, vp - (x - y) + t - 1)], e1, e2, e3, R1, snoc_nil, R3, R5, R4, R2⟩
                  | ((repeat apply Exists.intro); exact ⟨⟨t - 1, es ++ [(1, vp + t - 1, vp - (x - y) + t - 1)], e1, e2, e3, R1, snoc_nil, R3, R5, R4, R2⟩, rfl⟩)
              case measure => simp [intOf]; omega
            · obtain rfl : t = 0 := by omega
              obtain ⟨ce0, ce1, ce2⟩ := cells_of_e heb.out
              have hlo : wo.heap.size < wr.heap.size := (Array.getElem?_eq_some_iff.1 heb.out).1
              go_wp2_with (at_builtin; refine wpList_append_own _ rfl _ _ 37 rfl w.heap.size 52 i0 (.agg #[.int .u8 0, .int .i64 0, .int .i64 0]) 3 24 Try.underlying37 hi hz0 hz1 hz2 rfl (by decide) _ _ _ rfl (hown.alloc _) ⟨wr.heap.size, 0, none⟩ 1 1 [.int .u8 3, .int .i64 vp, .int .i64 (vp - (x - y + 1))] rfl rfl ?d1 ?d2 ?d3 ?d4 ?d5 ?_)
              case d1 => exact one_edit wr (3, vp, vp - (x - y + 1))
              case d2 => exact one_edit_one (3, vp, vp - (x - y + 1))
              case d3 => unfold maxLen; omega
              case d4 => omega
              case d5 => have := hbel.size; simp; omega
              intro v' w1 hown1 hgrow hnn
              have R1 := own_snoc (3, vp, vp - (x - y + 1)) hown1
              have R2 := below_app hbel (Nat.le_refl _) hown hgrow
              have R3 : Hid (Back M n m D (d - 1) vp (vp - (x - y + 1)) (es ++ [(3, vp, vp - (x - y + 1))])) := by
                have h1 := hback.out
                have e1 : vp + ((0 : Nat) : Int) = vp := by omega
                rw [e1] at h1
                exact back_ins h1 (by omega) hd0
              have R4 : Hid (My.FR M ((d - 1 : Nat) : Int) (vp - (vp - (x - y + 1))) vp) := fr_pred hd0 (by omega) (Hst.out.2.2.2.2.2.2.2 hkd)
              have R5 : Hid ((vp - (vp - (x - y + 1)) - ((d - 1 : Nat) : Int)) % 2 = 0) := by have := hpr.out; unfold Hid; omega
              clear hown1 hgrow hnn hown hbel hback hnil hne heb hlo ce0 ce1 ce2
              go_wp2
              go_roundw
              case rel =>
                have e0 : d - 1 ≤ D := by omega
                have e1 : (Value.int .i64 ((d : Int) - 1)) = .int .i64 ((d - 1 : Nat) : Int) := by congr 1; omega
                first
                  | exact ⟨d - 1, vp, vp - (x - y + 1), es ++ [(3, vp, vp - (x - y + 1))], e0, e1, rfl, rfl, R1, snoc_nil, R3, R4, R5, R2⟩
                  | ((repeat apply Exists.intro); exact ⟨⟨d - 1, vp, vp - (x - y + 1), es ++ [(3, vp, vp - (x - y + 1))], e0, e1, rfl, rfl, R1, snoc_nil, R3, R4, R5, R2⟩, rfl⟩)
              case measure => simp [intOf]; omega
      · have b1 := hmM hkd
        have b2 := hm0 hkd
        rw [hst] at Hst
        clear hst hmM hpM hm0 hp0
        obtain ⟨p1, hp1⟩ : ∃ p1 : Int, p1 = vm + 1 := ⟨_, rfl⟩
        rw [← hp1] at Hst
        have hp1a : p1 ≤ vm + 1 := by omega
        have hp1b : vm + 1 ≤ p1 := by omega
        clear hp1
        rcases hcs with q2 | ⟨q2, q3⟩
        all_goals
          go_wp2
          go_quiet (fail)
          go_wp2
          go_loopw [9, 10, 11] (fun rv a b wi => ∃ (t : Nat) (es : List (Int × Int × Int)), a = .int .i64 (p1 + t) ∧ b = .int .i64 (vm - (x - y - 1) + t) ∧ Hid (p1 + t ≤ x) ∧ wi.ownsRow w.heap.size 52 3 rv es.length (ecells es) ∧ Hid (es = [] → rv = .slice none 0 0) ∧ Hid (Back M n m D d (p1 + t) (vm - (x - y - 1) + t) es) ∧
              Hid (rv.ownBlock ≠ some wo.heap.size) ∧ Hid (wi.heap[wo.heap.size]? = some (.cells #[.int .u8 2, .int .i64 vm, .int .i64 (vm - (x - y - 1))] 52 (0, 0))) ∧ Below w.heap.size w wi) (fun _ a _ _ => (intOf a - p1).toNat)
          case atStart =>
            refine ⟨(x - p1).toNat, es, by congr 1; have := Hst.out.1; omega, by congr 1; have := Hst.out.1; omega, by have := Hst.out.1; unfold Hid; omega, hown.kept (eWorld_grown wo nq 2 vm (vm - (x - y - 1))) (by cases u9.ownBlock <;> simp), hnil, ?_, ?_, eWorld_block wo nq 2 vm (vm - (x - y - 1)), hbel.grown (eWorld_grown wo nq 2 vm (vm - (x - y - 1))) hbel.size (fun k hk => by cases hk)⟩
            · have h1 := Hst.out.1
              have e1 : p1 + (((x - p1).toNat : Nat) : Int) = x := by omega
              have e2 : vm - (x - y - 1) + (((x - p1).toNat : Nat) : Int) = y := by omega
              unfold Hid; rw [e1, e2]; exact hback.out
            · intro h; have := (hown.lt _ h).2; omega
          case round =>
            clear hown hnil hback hbel ct' cm cm2 cp hln hxn hym
            obtain ⟨t, es, rfl, rfl, htx, hown, hnil, hback, hne, heb, hbel⟩ := hrel
            have hbl := Hst.out.2.2.2.2.2.2.1 hkd
            have hpy : 0 ≤ vm - (x - y - 1) := hbl.2.1
            obtain ⟨hln, hxn, hym⟩ := back_len hback.out (by omega) (by omega) hn hm
            clear hbl
            by_cases ht : 0 < t
            · go_wp2_with (at_builtin; refine wpList_append_own _ rfl _ _ 37 rfl w.heap.size 52 i0 (.agg #[.int .u8 0, .int .i64 0, .int .i64 0]) 3 24 Try.underlying37 hi hz0 hz1 hz2 rfl (by decide) _ _ _ rfl (hown.alloc _) ⟨wr.heap.size, 0, none⟩ 1 1 [.int .u8 1, .int .i64 (p1 + t - 1), .int .i64 (vm - (x - y - 1) + t - 1)] rfl rfl ?c1 ?c2 ?c3 ?c4 ?c5 ?_)
              case c1 => exact one_edit wr (1, p1 + t - 1, vm - (x - y - 1) + t - 1)
              case c2 => exact one_edit_one (1, p1 + t - 1, vm - (x - y - 1) + t - 1)
              case c3 => unfold maxLen; omega
              case c4 => omega
              case c5 => have := hbel.size; simp; omega
              intro v' w1 hown1 hgrow hnn
              have R1 := own_snoc (1, p1 + t - 1, vm - (x - y - 1) + t - 1) hown1
              have R2 := below_app hbel (Nat.le_refl _) hown hgrow
              have hlo : wo.heap.size < wr.heap.size := (Array.getElem?_eq_some_iff.1 heb.out).1
              have R4 : Hid (w1.heap[wo.heap.size]? = some (.cells #[.int .u8 2, .int .i64 vm, .int .i64 (vm - (x - y - 1))] 52 (0, 0))) := by
                unfold Hid
                rw [hgrow.block _ (by simp; omega) (fun e => hne.out e.symm), Below.heap_alloc wr _ _ hlo]
                exact heb.out
              have R5 : Hid (v'.ownBlock ≠ some wo.heap.size) := own_ne R1 (by decide) R4.out
              have R3 : Hid (Back M n m D d (p1 + ((t - 1 : Nat) : Int)) (vm - (x - y - 1) + ((t - 1 : Nat) : Int)) (es ++ [(1, p1 + t - 1, vm - (x - y - 1) + t - 1)])) := by
                have e1 : p1 + ((t - 1 : Nat) : Int) = p1 + t - 1 := by omega
                have e2 : vm - (x - y - 1) + ((t - 1 : Nat) : Int) = vm - (x - y - 1) + t - 1 := by omega
                unfold Hid; rw [e1, e2]
                refine back_keep hM hback.out (by omega) (by omega) ?_
                have := Hst.out.2.1 (p1 + t - 1) (by omega) (by have := htx.out; omega)
                have e3 : vm - (x - y - 1) + t - 1 = p1 + t - 1 - (x - y) := by omega
                rw [e3]; exact this
              clear hown1 hgrow hnn hown hbel hback hnil hne heb hlo
              go_wp2
              go_roundw
              case rel =>
                have e1 : (Value.int .i64 (p1 + t - 1)) = .int .i64 (p1 + ((t - 1 : Nat) : Int)) := by congr 1; omega
                have e2 : (Value.int .i64 (vm - (x - y - 1) + t - 1)) = .int .i64 (vm - (x - y - 1) + ((t - 1 : Nat) : Int)) := by congr 1; omega
                have e3 : Hid (p1 + ((t - 1 : Nat) : Int) ≤ x) := by have := htx.out; unfold Hid; omega
                first
                  | exact ⟨t - 1, es ++ [(1, p1 + t - 1, vm - (x - y - 1) + t - 1)], e1, e2, e3, R1, snoc_nil, R3, R5, R4, R2⟩
                  | ((repeat apply Exists.intro); exact ⟨⟨t - 1, es ++ [(1, p1 + t - 1, vm - (x - y - 1) + t - 1)], e1, e2, e3, R1, snoc_nil, R3, R5, R4, R2⟩, rfl⟩)
              case measure => simp [intOf]; omega
            · obtain rfl : t = 0 := by omega
              obtain ⟨ce0, ce1, ce2⟩ := cells_of_e heb.out
              have hT0 : decide (vm + 1 < p1 + ((0 : Nat) : Int)) = false := decide_eq_false (by omega)
              have hT1 : decide (vm + 1 < p1) = false := decide_eq_false (by omega)
              have hlo : wo.heap.size < wr.heap.size := (Array.getElem?_eq_some_iff.1 heb.out).1
              go_wp2_with (at_builtin; refine wpList_append_own _ rfl _ _ 37 rfl w.heap.size 52 i0 (.agg #[.int .u8 0, .int .i64 0, .int .i64 0]) 3 24 Try.underlying37 hi hz0 hz1 hz2 rfl (by decide) _ _ _ rfl (hown.alloc _) ⟨wr.heap.size, 0, none⟩ 1 1 [.int .u8 2, .int .i64 vm, .int .i64 (vm - (x - y - 1))] rfl rfl ?d1 ?d2 ?d3 ?d4 ?d5 ?_)
              case d1 => exact one_edit wr (2, vm, vm - (x - y - 1))
              case d2 => exact one_edit_one (2, vm, vm - (x - y - 1))
              case d3 => unfold maxLen; omega
              case d4 => omega
              case d5 => have := hbel.size; simp; omega
              intro v' w1 hown1 hgrow hnn
              have R1 := own_snoc (2, vm, vm - (x - y - 1)) hown1
              have R2 := below_app hbel (Nat.le_refl _) hown hgrow
              have R3 : Hid (Back M n m D (d - 1) vm (vm - (x - y - 1)) (es ++ [(2, vm, vm - (x - y - 1))])) := by
                have h1 := hback.out
                have e1 : vm - (x - y - 1) + ((0 : Nat) : Int) = vm - (x - y - 1) := by omega
                rw [e1] at h1
                exact back_del h1 (by omega) hd0
              have R4 : Hid (My.FR M ((d - 1 : Nat) : Int) (vm - (vm - (x - y - 1))) vm) := fr_pred hd0 (by omega) (Hst.out.2.2.2.2.2.2.1 hkd)
              have R5 : Hid ((vm - (vm - (x - y - 1)) - ((d - 1 : Nat) : Int)) % 2 = 0) := by have := hpr.out; unfold Hid; omega
              clear hown1 hgrow hnn hown hbel hback hnil hne heb hlo ce0 ce1 ce2
              go_wp2
              go_roundw
              case rel =>
                have e0 : d - 1 ≤ D := by omega
                have e1 : (Value.int .i64 ((d : Int) - 1)) = .int .i64 ((d - 1 : Nat) : Int) := by congr 1; omega
                first
                  | exact ⟨d - 1, vm, vm - (x - y - 1), es ++ [(2, vm, vm - (x - y - 1))], e0, e1, rfl, rfl, R1, snoc_nil, R3, R4, R5, R2⟩
                  | ((repeat apply Exists.intro); exact ⟨⟨d - 1, vm, vm - (x - y - 1), es ++ [(2, vm, vm - (x - y - 1))], e0, e1, rfl, rfl, R1, snoc_nil, R3, R4, R5, R2⟩, rfl⟩)
              case measure => simp [intOf]; omega
    · obtain rfl : d = 0 := by omega
      obtain ⟨hxy, hmt⟩ := My.FR_zero M hfr.out
      have hx0 : 0 ≤ x := hfr.out.1
      have hy0 : y = x := by omega
      have hml : ∀ t : Nat, (t : Int) < x → M t t = true := fun t ht => by simpa using hmt t (by omega) ht
      have HM : Hid (∀ t : Nat, (t : Int) < x → M t t = true) := hml
      have hb0 : Hid (Back M n m D 0 x.toNat x.toNat es) := by
        have e : ((x.toNat : Nat) : Int) = x := by omega
        unfold Hid; rw [e]; have := hback.out; rw [hy0] at this; exact this
      have ex : Hid (x = ((x.toNat : Nat) : Int) ∧ y = ((x.toNat : Nat) : Int)) := by unfold Hid; omega
      clear hxy hmt hml hfr hpr hback hok hend hpar hT hy0 hD hlim
      go_wp2
      go_loopw [9, 10, 11] (fun rv a b wi => ∃ (t : Nat) (es : List (Int × Int × Int)), Hid ((t : Int) ≤ x) ∧ a = .int .i64 t ∧ b = .int .i64 t ∧ wi.ownsRow w.heap.size 52 3 rv es.length (ecells es) ∧ Hid (es = [] → rv = .slice none 0 0) ∧ Hid (Back M n m D 0 t t es) ∧ Below w.heap.size w wi) (fun _ a _ _ => (intOf a).toNat)
      case atStart => exact ⟨x.toNat, es, by unfold Hid; omega, by rw [← ex.out.1], by rw [← ex.out.2], hown, hnil, hb0, hbel⟩
      case round =>
        clear hown hnil hb0 hbel ex
        obtain ⟨t, es, htx, rfl, rfl, hown, hnil, hback, hbel⟩ := hrel
        by_cases ht : 0 < t
        · have hln := (back_len hback.out (by omega) (by omega) hn hm).1
          have ht4 := (back_len hback.out (by omega) (by omega) hn hm).2.1
          go_wp2_with (at_builtin; refine wpList_append_own _ rfl _ _ 37 rfl w.heap.size 52 i0 (.agg #[.int .u8 0, .int .i64 0, .int .i64 0]) 3 24 Try.underlying37 hi hz0 hz1 hz2 rfl (by decide) _ _ _ rfl (hown.alloc _) ⟨wr.heap.size, 0, none⟩ 1 1 [.int .u8 1, .int .i64 ((t : Int) - 1), .int .i64 ((t : Int) - 1)] rfl rfl ?c1 ?c2 ?c3 ?c4 ?c5 ?_)
          case c1 => exact one_edit wr (1, (t : Int) - 1, (t : Int) - 1)
          case c2 => exact one_edit_one (1, (t : Int) - 1, (t : Int) - 1)
          case c3 => unfold maxLen; omega
          case c4 => omega
          case c5 => have := hbel.size; simp; omega
          intro v' w1 hown1 hgrow hnn
          have R1 := own_snoc (1, (t : Int) - 1, (t : Int) - 1) hown1
          have R2 := below_app hbel (Nat.le_refl _) hown hgrow
          have R3 : Hid (Back M n m D 0 ((t - 1 : Nat) : Int) ((t - 1 : Nat) : Int) (es ++ [(1, (t : Int) - 1, (t : Int) - 1)])) := by
            have e : ((t - 1 : Nat) : Int) = (t : Int) - 1 := by omega
            unfold Hid; rw [e]
            refine back_keep hM hback.out (by omega) (by omega) ?_
            have := HM.out (t - 1) (by have := htx.out; omega)
            rw [← e]; simpa using this
          clear hown1 hgrow hnn hown hbel hback hnil
          go_wp2
          go_roundw
          case rel =>
            (repeat apply Exists.intro)
            exact ⟨⟨t - 1, _, by have := htx.out; unfold Hid; omega, by go_num, by go_num, R1, fun h => absurd h (by simp), R3, R2⟩, rfl⟩
          case measure => simp [intOf]; omega
        · obtain rfl : t = 0 := by omega
          by_cases he : es = []
          · have hv := hnil.out he
            subst hv
            subst he
            go_wp2_with (go_at_call 17; refine (reverse_nil _).mono ?_; rintro e w' ⟨rfl, rfl⟩)
            go_ret
            exact ⟨[], _, rfl, hback.out.1, by have := hback.out.2; omega, .inl ⟨rfl, rfl⟩, hbel⟩
          · obtain ⟨g, cap, hv, hg1, hg2, hrow⟩ := own_row hown he
            subst hv
            have hln := (back_len hback.out (by omega) (by omega) hn hm).1
            have hpos : 0 < es.length := by
              rcases Nat.eq_zero_or_pos es.length with h | h
              · exact absurd (List.eq_nil_of_length_eq_zero h) he
              · exact h
            go_wp2_with (go_at_call 17; refine (reverse_some es g cap _ (by omega) hpos hrow).mono ?_; rintro e w1 ⟨rfl, hrow1, hon⟩)
            go_ret
            refine ⟨es.reverse, _, rfl, hback.out.1, ?_, .inr ⟨g, cap, ?_, ?_, edits_reversed hrow1⟩, hbel.trans (hon.below hg1)⟩
            · have := hback.out.2; rw [My.costs_reverse]; omega
            · rw [List.length_reverse]; rfl
            · rw [hon.size]; exact hg2

end Go.Proofs.Qxb6602440a
