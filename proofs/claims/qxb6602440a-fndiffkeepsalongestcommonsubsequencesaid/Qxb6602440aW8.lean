/-
  zzLCS (8): the textbook's table.
-/
import Derived.Test.Qxb6602440aMem
import Derived.RegionTactic
import Derived.Deep.QuietTactic
import Derived.BigQuiet
namespace Go.Proofs.Qxb6602440a
open Go.RowKit

/-- A row of the table. -/
def tab (M : Nat → Nat → Bool) (i : Nat) (j : Nat) : Value := .int .i64 (My.L M i j)
/-- The next row, reckoned as far as j. -/
def tabTo (M : Nat → Nat → Bool) (i j : Nat) (f : Nat → Value) (t : Nat) : Value := if t ≤ j then tab M i t else f t

theorem tabTo_zero {w : World} {g m : Nat} {M : Nat → Nat → Bool} {i : Nat} {f : Nat → Value} (h : w.rowIs g 3 (m + 1) f) : (w.setCell ⟨g, 0, none⟩ (.int .i64 0)).rowIs g 3 (m + 1) (tabTo M (i + 1) 0 f) := by
  refine (h.set 0 _).congr fun t _ => ?_
  unfold tabTo tab
  by_cases e : t = 0
  · subst e; simp [My.L_zero']
  · simp [e]
theorem tabTo_step {w : World} {g m : Nat} {M : Nat → Nat → Bool} {i j : Nat} {f : Nat → Value} {x : Int} (h : w.rowIs g 3 (m + 1) (tabTo M (i + 1) j f)) (hx : x = My.L M (i + 1) (j + 1)) : (w.setCell ⟨g, j + 1, none⟩ (.int .i64 x)).rowIs g 3 (m + 1) (tabTo M (i + 1) (j + 1) f) := by
  refine (h.set (j + 1) _).congr fun t _ => ?_
  unfold tabTo tab
  by_cases e : t = j + 1
  · subst e; simp [hx]
  · have : t ≤ j ↔ t ≤ j + 1 := by omega
    simp [e, this]
theorem tabTo_end {w : World} {g m : Nat} {M : Nat → Nat → Bool} {i : Nat} {f : Nat → Value} (h : w.rowIs g 3 (m + 1) (tabTo M (i + 1) m f)) : w.rowIs g 3 (m + 1) (tab M (i + 1)) :=
  h.congr fun t ht => by unfold tabTo; rw [if_pos (by omega)]

set_option maxHeartbeats 2000000 in
theorem lcs_any (la lb : List (Int × Int)) (ba oa bb ob : Nat) (ao bo : Option Addr) (ca cb : Nat) (w : World) (hla : la.length ≤ 4096) (hlb : lb.length ≤ 4096)
    (hA : SymsAt w ba oa ao la) (hB : SymsAt w bb ob bo lb) (hba : 0 < la.length → ba < w.heap.size) (hbb : 0 < lb.length → bb < w.heap.size) :
    Calls Try.prog 8 #[.slice ao la.length ca, .slice bo lb.length cb] w fun e w' => e = .returned (.int .i64 (My.L (My.Mof la lb) la.length lb.length)) ∧ Below w.heap.size w w' := by
  have hmk := run_make_row' (P := Try.prog) 28 3 (.int .i64 0) 8 Try.underlying28 info3 rfl .i64 .i64 (lb.length + 1) (by omega) (by omega)
  have ec : ((lb.length + 1 : Nat) : Int) = (lb.length : Int) + 1 := by omega
  rw [ec] at hmk
  clear ec
  go_enter Try.func8, Try.ntmps8
  go_wp2
  go_loopw [5, 6, 7] (fun p c i wr => ∃ (k gp gc : Nat) (f : Nat → Value), k ≤ la.length ∧ i = .int .i64 k ∧ p = .slice (some ⟨gp, 0, none⟩) (lb.length + 1) (lb.length + 1) ∧ c = .slice (some ⟨gc, 0, none⟩) (lb.length + 1) (lb.length + 1) ∧
      gp ≠ gc ∧ w.heap.size ≤ gp ∧ w.heap.size ≤ gc ∧ wr.rowIs gp 3 (lb.length + 1) (tab (My.Mof la lb) k) ∧ wr.rowIs gc 3 (lb.length + 1) f ∧ Below w.heap.size w wr) (fun _ _ i _ => la.length - (intOf i).toNat)
  case atStart =>
    refine ⟨0, w.heap.size, w.heap.size + 1, fun _ => .int .i64 0, Nat.zero_le _, rfl, rfl, rfl, by omega, by omega, by omega, ?_, ?_, ?_⟩
    · exact ((World.rowIs_made w (.int .i64 0) (lb.length + 1) 3).alloc _).congr fun i _ => by simp [tab, My.L_zero]
    · have := World.rowIs_made (w.alloc (.cells (madeCells #[.int .i64 0] (lb.length + 1)) 3)) (.int .i64 0) (lb.length + 1) 3
      simp only [World.size_alloc] at this
      exact this
    · exact ((Below.refl _ _).alloc (Nat.le_refl _) _).alloc (by simp) _
  case round =>
    obtain ⟨k, gp, gc, f, hk, rfl, rfl, rfl, hne, hgp, hgc, hp, hc, hbel⟩ := hrel
    clear hmk
    by_cases hlt : k < la.length
    · have c0 := hc.cell (i := 0) (by omega)
      have f0 := hc.frozen 0
      have l0 : (0 : Int) < (lb.length : Int) + 1 := by omega
      have S1 := tabTo_zero (M := My.Mof la lb) (i := k) hc
      have S2 := hp.setOther (a := ⟨gc, 0, none⟩) hne (.int .i64 0)
      have S3 : Below w.heap.size w (wr.setCell ⟨gc, 0, none⟩ (.int .i64 0)) := hbel.setCell hgc _
      have SS := And.intro S1 (And.intro S2 S3)
      have HS : Hid _ := SS
      clear S1 S2 S3 SS hp hc hbel
      go_wp2
      go_loopw [8] (fun j wi => ∃ t : Nat, t ≤ lb.length ∧ j = .int .i64 t ∧ wi.rowIs gc 3 (lb.length + 1) (tabTo (My.Mof la lb) (k + 1) t f) ∧ wi.rowIs gp 3 (lb.length + 1) (tab (My.Mof la lb) k) ∧ Below w.heap.size w wi) (fun j _ => lb.length - (intOf j).toNat)
      case atStart => exact ⟨0, Nat.zero_le _, rfl, HS.out⟩
      case round =>
        clear HS c0 f0
        obtain ⟨t, ht, rfl, hc, hp, hbel⟩ := hrel
        by_cases hlb' : t < lb.length
        · obtain ⟨p, hpa⟩ : ∃ p, la[k]? = some p := ⟨_, List.getElem?_eq_getElem hlt⟩
          obtain ⟨q, hqb⟩ : ∃ q, lb[t]? = some q := ⟨_, List.getElem?_eq_getElem hlb'⟩
          obtain ⟨k1, n1⟩ := p
          obtain ⟨k2, n2⟩ := q
          have hixa := hA.addr 22 slice22 size34 k hlt ca
          have hixb := hB.addr 22 slice22 size34 t hlb' cb
          obtain ⟨a1, a2⟩ := ((hA.below (hba (by omega)) hbel) (by omega)).2 k _ hpa
          obtain ⟨b1, b2⟩ := ((hB.below (hbb (by omega)) hbel) (by omega)).2 t _ hqb
          have hM : My.Mof la lb k t = decide ((k1, n1) = (k2, n2)) := by unfold My.Mof; rw [hpa, hqb]
          obtain ⟨x0, hx0⟩ : ∃ x : Int, x = My.L (My.Mof la lb) k t := ⟨_, rfl⟩
          obtain ⟨x1, hx1⟩ : ∃ x : Int, x = My.L (My.Mof la lb) k (t + 1) := ⟨_, rfl⟩
          obtain ⟨x2, hx2⟩ : ∃ x : Int, x = My.L (My.Mof la lb) (k + 1) t := ⟨_, rfl⟩
          have p0 : wr.cell? ⟨gp, t, none⟩ = some (.int .i64 x0) := by rw [hp.cell (by omega), hx0]; rfl
          have p1 : wr.cell? ⟨gp, t + 1, none⟩ = some (.int .i64 x1) := by rw [hp.cell (by omega), hx1]; rfl
          have p2 : wr.cell? ⟨gc, t, none⟩ = some (.int .i64 x2) := by rw [hc.cell (by omega), hx2]; unfold tabTo; rw [if_pos (Nat.le_refl _)]; rfl
          have p3 := hc.cell (i := t + 1) (by omega)
          have p4 := hc.frozen (t + 1)
          have bd0 : 0 ≤ x0 ∧ x0 ≤ 4096 := by have := My.L_le (My.Mof la lb) k t; omega
          obtain ⟨bd1, bd2⟩ := bd0
          have hl1 : (t : Int) + 1 < (lb.length : Int) + 1 := by omega
          have hl2 : (t : Int) < (lb.length : Int) + 1 := by omega
          have ST : Hid (∀ x : Int, x = My.L (My.Mof la lb) (k + 1) (t + 1) → ∀ q, ((wr.setCell ⟨gc, t + 1, none⟩ (.int .i64 x)).drewN q).rowIs gc 3 (lb.length + 1) (tabTo (My.Mof la lb) (k + 1) (t + 1) f) ∧ ((wr.setCell ⟨gc, t + 1, none⟩ (.int .i64 x)).drewN q).rowIs gp 3 (lb.length + 1) (tab (My.Mof la lb) k) ∧ Below w.heap.size w ((wr.setCell ⟨gc, t + 1, none⟩ (.int .i64 x)).drewN q)) := fun x hx q =>
            ⟨tabTo_step hc hx, hp.setOther hne _, (hbel.setCell hgc _).trans ⟨rfl, rfl, rfl, Nat.le_refl _, fun _ _ => rfl⟩⟩
          have HM : Hid (My.Mof la lb k t = decide ((k1, n1) = (k2, n2))) := hM
          have HX : Hid (x0 = My.L (My.Mof la lb) k t ∧ x1 = My.L (My.Mof la lb) k (t + 1) ∧ x2 = My.L (My.Mof la lb) (k + 1) t) := ⟨hx0, hx1, hx2⟩
          clear hM hx0 hx1 hx2 hc hp hbel hpa hqb hA hB
          by_cases heq : k1 = k2 ∧ n1 = n2
          · obtain ⟨rfl, rfl⟩ := heq
            have HV : Hid (x0 + 1 = My.L (My.Mof la lb) (k + 1) (t + 1)) := by
              unfold Hid; rw [My.L_hit _ (by rw [HM.out]; simp), HX.out.1]; omega
            clear HM HX
            go_wp2
            go_quiet (fail)
            go_wp2
            go_roundw
            case rel => exact ⟨t + 1, by omega, by go_num, ST.out _ HV.out _⟩
            case measure => simp [intOf]; omega
          · have HV : Hid (max x1 x2 = My.L (My.Mof la lb) (k + 1) (t + 1)) := by
              unfold Hid
              rw [My.L_miss _ (by rw [HM.out]; simp only [Prod.mk.injEq, heq, decide_false]), HX.out.2.1, HX.out.2.2]
              omega
            have hcs : (k1 == k2) = false ∨ ((k1 == k2) = true ∧ (n1 == n2) = false) := by
              by_cases e : k1 = k2
              · exact .inr ⟨by simpa using e, by simpa using fun h => heq ⟨e, h⟩⟩
              · exact .inl (by simpa using e)
            clear HM HX heq
            have hmx : (x2 ≤ x1 ∧ max x1 x2 = x1) ∨ (x1 < x2 ∧ max x1 x2 = x2) := by omega
            rcases hmx with ⟨hge, hm⟩ | ⟨hge, hm⟩
            all_goals
              rw [hm] at HV
              clear hm
              rcases hcs with e1 | ⟨e1, e2⟩
              all_goals
                go_wp2
                go_quiet (fail)
                go_wp2
                go_quiet (fail)
                go_wp2
                go_roundw
                case rel => exact ⟨t + 1, by omega, by go_num, ST.out _ HV.out _⟩
                case measure => simp [intOf]; omega
        · obtain rfl : t = lb.length := by omega
          go_wp2
          go_roundw
          case rel => exact ⟨k + 1, gc, gp, _, by omega, by go_num, rfl, rfl, fun e => hne e.symm, hgc, hgp, tabTo_end hc, hp, hbel⟩
          case measure => simp [intOf]; omega
    · obtain rfl : k = la.length := by omega
      have hcm := hp.cell (i := lb.length) (by omega)
      go_wp2
      go_ret
      exact ⟨rfl, hbel⟩

end Go.Proofs.Qxb6602440a
