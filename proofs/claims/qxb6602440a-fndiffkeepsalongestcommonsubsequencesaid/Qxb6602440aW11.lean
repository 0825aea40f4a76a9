/-
  shortestScript (11).
-/
import Derived.Test.Qxb6602440aW11a
namespace Go.Proofs.Qxb6602440a
open Go.RowKit

/-- A script as a value: nil where it is empty, else a slice over its edits. -/
def IsScript (w : World) (v : Value) (es : List (Int × Int × Int)) : Prop := (es = [] ∧ v = .slice none 0 0) ∨ ∃ g cap, v = .slice (some ⟨g, 0, none⟩) es.length cap ∧ g < w.heap.size ∧ EditsAt w g es

/-- What is known at the head of step d. -/
def Head (M : Nat → Nat → Bool) (n m len : Nat) (off : Int) (d : Nat) (vl : Nat → Int) (work : Int) (T : Nat → Nat → Int) : Prop :=
  My.VOk M off d vl ∧ TraceOk M (d - 1) off T ∧ My.BOk len vl ∧ My.WOk len vl work (1025 * d) ∧ (d : Int) ≤ My.E M n m
/-- What is known inside step d, j diagonals done. -/
def Mid (M : Nat → Nat → Bool) (n m len : Nat) (off : Int) (d j : Nat) (k : Int) (vl : Nat → Int) (work : Int) : Prop :=
  My.VOk M off d vl ∧ My.Done M n m off d j vl ∧ My.BOk len vl ∧ My.WOk len vl work (1025 * d + j) ∧ k = -(d : Int) + 2 * j

theorem mid_step {M : Nat → Nat → Bool} {n m len : Nat} {off : Int} {d j lim : Nat} {k work x : Int} {ul : Nat → Int} (hM : ∀ i j, M i j = true → i < n ∧ j < m) (hn : n ≤ 4096) (h : Mid M n m len off d j k ul work) (ho : (d : Int) < off) (hd : d ≤ lim) (hl : lim ≤ 1024) (hi : (off + k).toNat < len)
    (hf : My.FR M d k x) (hno : ¬ ((n : Int) ≤ x ∧ (m : Int) ≤ x - k)) : Mid M n m len off d (j + 1) (k + 2) (My.upd ul (off + k).toNat x) (work + (x - ul (off + k).toNat + 1)) := by
  obtain ⟨h1, h2, h3, h4, h5⟩ := h
  have hx := My.FR_le M hM hf
  refine ⟨My.vok_step M h1 ho (by omega) (by omega), My.done_step M n m h2 ho h5 hf hno, My.bok_step h3 ⟨hf.1, by omega⟩, My.wok_step h4 hi, by omega⟩

set_option maxRecDepth 100000 in
set_option maxHeartbeats 8000000 in
theorem script_any (la lb : List (Int × Int)) (ba oa bb ob : Nat) (ao bo : Option Addr) (ca cb lim : Nat) (w : World) (hla : la.length ≤ 4096) (hlb : lb.length ≤ 4096) (hlim : min ((la.length : Int) + lb.length) 1024 = lim)
    (hA : SymsAt w ba oa ao la) (hB : SymsAt w bb ob bo lb) (hba : 0 < la.length → ba < w.heap.size) (hbb : 0 < lb.length → bb < w.heap.size) :
    Calls Try.prog 11 #[.slice ao la.length ca, .slice bo lb.length cb] w fun e w' => Below w.heap.size w w' ∧
      ((My.E (My.Mof la lb) la.length lb.length ≤ 1024 ∧ ∃ es v, e = .returned (.tuple #[v, .bool true]) ∧ My.Walk (My.Mof la lb) la.length lb.length es 0 0 ∧ My.costs es = My.E (My.Mof la lb) la.length lb.length ∧ IsScript w' v es) ∨
       (1024 < My.E (My.Mof la lb) la.length lb.length ∧ e = .returned (.tuple #[.slice none 0 0, .bool false]))) := by
  have hl1 : lim ≤ 1024 := by omega
  obtain ⟨off, hoff⟩ : ∃ off : Int, (lim : Int) + 1 = off := ⟨_, rfl⟩
  obtain ⟨len, hlen⟩ : ∃ len : Nat, 2 * lim + 3 = len := ⟨_, rfl⟩
  have hmk := run_make_row' (P := Try.prog) 28 3 (.int .i64 0) 8 Try.underlying28 info3 rfl .i64 .i64 (2 * lim + 3) (by omega) (by omega)
  have ec : ((2 * lim + 3 : Nat) : Int) = 2 * (lim : Int) + 3 := by omega
  rw [ec, hlen] at hmk
  clear ec
  have HL : Hid (min ((la.length : Int) + lb.length) 1024 = lim ∧ (lim : Int) + 1 = off ∧ 2 * lim + 3 = len) := ⟨hlim, hoff, hlen⟩
  have hit : (if (1024 : Int) < (la.length : Int) + lb.length then (1024 : Int) else (la.length : Int) + lb.length) = lim := by rw [← hlim]; split <;> omega
  clear hlim
  obtain ⟨i0, hi, hz0, hz1, hz2⟩ := info_parts info28
  obtain ⟨M, hMdef⟩ : ∃ M, M = My.Mof la lb := ⟨_, rfl⟩
  rw [← hMdef]
  have hM : ∀ i j, M i j = true → i < la.length ∧ j < lb.length := by rw [hMdef]; exact My.Mof_lt la lb
  have HMD : Hid (M = My.Mof la lb) := hMdef
  clear hMdef
  go_enter Try.func11, Try.ntmps11
  go_wp2
  have bof1 : (lim : Int) < off := by omega
  have bof2 : off ≤ 1025 := by omega
  have bln1 : len ≤ 2051 := by omega
  have bln2 : 3 ≤ len := by omega
  clear hit hmk hoff hlen
  go_loopw [11, 12, 13] (fun tv wk dv wr => ∃ (d : Nat) (vl : Nat → Int) (work : Int) (G C : Nat → Nat) (T : Nat → Nat → Int), d ≤ lim + 1 ∧ dv = .int .i64 d ∧ wk = .int .i64 work ∧ wr.rowIs w.heap.size 3 len (vrow vl) ∧ wr.ownsRow w.heap.size 28 1 tv d (tcells G C len d) ∧
      Hid (RowsOk wr w.heap.size len G T d) ∧ Hid (Head M la.length lb.length len off d vl work T) ∧ Below w.heap.size w wr) (fun _ _ dv _ => lim + 1 - (intOf dv).toNat)
  case atStart =>
    refine ⟨0, fun _ => 0, 0, fun _ => 0, fun _ => 0, fun _ _ => 0, by omega, rfl, rfl, World.rowIs_made w (.int .i64 0) len 3, World.ownsRow_nil _ _ _ _, fun i hi => by omega, ⟨My.vok_start M, fun d h1 h2 => by omega, fun i _ => by simp, ⟨0, by rw [My.S_zero]; simp, by omega, by omega⟩, My.E_nonneg M _ _⟩, (Below.refl _ _).alloc (Nat.le_refl _) _⟩
  case round =>
    obtain ⟨d, vl, work, G, C, T, hd, rfl, rfl, hv, hown, hrows, hhead, hbel⟩ := hrel
    by_cases hdl : d ≤ lim
    · obtain ⟨wo, rfl⟩ : ∃ wo : World, wo = wr := ⟨_, rfl⟩
      go_wp2_with fail
      refine (clone_any w.heap.size len (vrow vl) (fun _ => rfl) _ (by omega) (by omega) hv).mono ?_
      rintro e w1 ⟨g, cap, rfl, hg, hrow, hb1⟩
      have hown1 : w1.ownsRow w.heap.size 28 1 u11 d (tcells G C len d) := hown.kept (grown_of_below hb1) (by cases u11.ownBlock <;> simp)
      go_wp2_with (at_builtin; refine wpList_append_own _ rfl _ _ 44 rfl w.heap.size 28 i0 (.slice none 0 0) 1 24 Try.underlying44 hi hz0 hz1 hz2 rfl (by decide) _ _ _ rfl (hown1.alloc _) ⟨w1.heap.size, 0, none⟩ 1 1 [.slice (some ⟨g, 0, none⟩) len cap] rfl rfl ?c1 ?c2 ?c3 ?c4 ?c5 ?_)
      case c1 => exact one_slice w1 _
      case c2 => intro u hu; simp at hu; subst hu; rfl
      case c3 => unfold maxLen; omega
      case c4 => omega
      case c5 => have := hbel.size; have := hb1.size; simp; omega
      intro v' w2 hownA hgrow hnn
      obtain ⟨tg, tcap, rfl, htg1, htg2, hown2⟩ := own_trace hownA
      obtain ⟨hv2, hrows2, hbel2⟩ := after_clone hown (Nat.le_refl _) hbel hb1 hg hrow hgrow hv hrows.out
      have htk : Hid (TraceOk M d off (extT T d vl)) := traceOk_ext hhead.out.2.1 hhead.out.1
      have hne : tg ≠ w.heap.size := by
        obtain ⟨cv, hcv, _⟩ := hv2
        exact fun e => own_tag hown2 hcv (by decide) (by rw [e]; rfl)
      have H2 : Hid (w2.ownsRow w.heap.size 28 1 (.slice (some ⟨tg, 0, none⟩) (d + 1) tcap) (d + 1) (tcells (ext G d g) (ext C d cap) len (d + 1)) ∧ RowsOk w2 w.heap.size len (ext G d g) (extT T d vl) (d + 1) ∧ Below w.heap.size w w2) := ⟨hown2, hrows2, hbel2⟩
      have hms : Hid (Mid M la.length lb.length len off d 0 (-(d : Int)) vl work) := ⟨hhead.out.1, fun t ht => by omega, hhead.out.2.2.1, My.wok_mono hhead.out.2.2.2.1 (by omega), by omega⟩
      have hEd : Hid ((d : Int) ≤ My.E M la.length lb.length) := hhead.out.2.2.2.2
      clear hown2 hrows2 hbel2 hnn hgrow hownA hown1 hrow hb1 hg hhead hrows hown hbel hv
      go_wp2
      go_loopw [12, 14] (fun wk kv wi => ∃ (j : Nat) (k work : Int) (vl' : Nat → Int), j ≤ d + 1 ∧ kv = .int .i64 k ∧ wk = .int .i64 work ∧ wi.rowIs w.heap.size 3 len (vrow vl') ∧ Hid (OnlyAt w.heap.size w2 wi) ∧ Hid (Mid M la.length lb.length len off d j k vl' work)) (fun _ kv _ => ((d : Int) + 2 - intOf kv).toNat)
      case atStart => exact ⟨0, -(d : Int), work, vl, by omega, rfl, rfl, hv2, OnlyAt.refl _ _, hms⟩
      case round =>
        clear hms hv2
        obtain ⟨j, k, work, ul, hj, rfl, rfl, hv, hon, hmid⟩ := hrel
        by_cases hjd : j ≤ d
        · obtain ⟨wi, rfl⟩ : ∃ wi : World, wi = wr := ⟨_, rfl⟩
          obtain ⟨hoff, hlen⟩ := HL.out.2
          have hkd := hmid.out.2.2.2.2
          have hk1 : -(d : Int) ≤ k := by omega
          have hk2 : k ≤ d := by omega
          have hpar : (k - d) % 2 = 0 := by omega
          have hnear := My.near_of_vok M hmid.out.1 hk1 hk2 hpar
          have hbk := hmid.out.2.2.1
          have im : (off + k - 1).toNat < len := by omega
          have ip : (off + k + 1).toNat < len := by omega
          have io : (off + k).toNat < len := by omega
          have cm : wi.cell? ⟨w.heap.size, (off + k - 1).toNat, none⟩ = some (.int .i64 (ul (off + k - 1).toNat)) := hv.cell im
          have cm2 : wi.cell? ⟨w.heap.size, (off + k).toNat - 1, none⟩ = some (.int .i64 (ul (off + k - 1).toNat)) := by rw [show (off + k).toNat - 1 = (off + k - 1).toNat by omega]; exact cm
          have cp : wi.cell? ⟨w.heap.size, (off + k + 1).toNat, none⟩ = some (.int .i64 (ul (off + k + 1).toNat)) := hv.cell ip
          have co : wi.cell? ⟨w.heap.size, (off + k).toNat, none⟩ = some (.int .i64 (ul (off + k).toNat)) := hv.cell io
          have fo := hv.frozen (off + k).toNat
          have hwb := My.wok_bound hmid.out.2.2.2.1 hbk bln1 (by omega)
          obtain ⟨hw0, hw1⟩ := hwb
          obtain ⟨vm0, vm1⟩ := hbk _ im
          obtain ⟨vp0, vp1⟩ := hbk _ ip
          obtain ⟨vo0, vo1⟩ := hbk _ io
          have HV : Hid (∀ x q, OnlyAt w.heap.size w2 ((wi.drewN q).setCell ⟨w.heap.size, (off + k).toNat, none⟩ (.int .i64 x)) ∧ ((wi.drewN q).setCell ⟨w.heap.size, (off + k).toNat, none⟩ (.int .i64 x)).rowIs w.heap.size 3 len (vrow (My.upd ul (off + k).toNat x))) := fun x q => ⟨(hon.out.drewN q).setCell _ _, vrow_upd (w := wi.drewN q) hv⟩
          have HM : Hid (∀ x, My.FR M d k x → ¬ ((la.length : Int) ≤ x ∧ (lb.length : Int) ≤ x - k) → Mid M la.length lb.length len off d (j + 1) (k + 2) (My.upd ul (off + k).toNat x) (work + (x - ul (off + k).toNat + 1))) := fun x h1 h2 => mid_step hM hla hmid.out (by omega) hdl hl1 io h1 h2
          have HB : Hid (Below w.heap.size w wi) := H2.out.2.2.trans (hon.out.below (Nat.le_refl _))
          have hwr : IntKind.i64.wrap (-(d : Int)) = -(d : Int) := by rw [IntKind.wrap_i64]; omega
          have hwo1 : IntKind.i64.wrap (off + k) = off + k := by rw [IntKind.wrap_i64]; omega
          have hwo2 : IntKind.i64.wrap (off + k - 1) = off + k - 1 := by rw [IntKind.wrap_i64]; omega
          have hwo3 : IntKind.i64.wrap (off + k + 1) = off + k + 1 := by rw [IntKind.wrap_i64]; omega
          have bm0 : 1 ≤ off + k := by omega
          have bm1 : 0 ≤ off + k - 1 := by omega
          have bm2 : off + k - 1 < (len : Int) := by omega
          have bp1 : 0 ≤ off + k + 1 := by omega
          have bp2 : off + k + 1 < (len : Int) := by omega
          have bo1 : 0 ≤ off + k := by omega
          have bo2 : off + k < (len : Int) := by omega
          generalize ul (off + k - 1).toNat = vm at *
          generalize ul (off + k + 1).toNat = vp at *
          generalize ul (off + k).toNat = vo at *
          have hcases : (((k == -(d : Int)) = true ∨ ((k == -(d : Int)) = false ∧ (k != (d : Int)) = true ∧ vm < vp)) ∧ My.start d k vm vp = vp) ∨
              (((k == -(d : Int)) = false ∧ ((k != (d : Int)) = false ∨ ((k != (d : Int)) = true ∧ decide (vm < vp) = false))) ∧ My.start d k vm vp = vm + 1) := by
            by_cases h1 : k = -(d : Int)
            · refine .inl ⟨.inl (by simpa using h1), ?_⟩
              unfold My.start; rw [if_pos (.inl h1)]
            · by_cases h2 : k = (d : Int)
              · refine .inr ⟨⟨by simpa using h1, .inl (by simpa using h2)⟩, ?_⟩
                unfold My.start; rw [if_neg (by omega)]
              · by_cases h3 : vm < vp
                · refine .inl ⟨.inr ⟨by simpa using h1, by simpa using h2, h3⟩, ?_⟩
                  unfold My.start; rw [if_pos (.inr ⟨h2, h3⟩)]
                · refine .inr ⟨⟨by simpa using h1, .inr ⟨by simpa using h2, decide_eq_false h3⟩⟩, ?_⟩
                  unfold My.start; rw [if_neg (by omega)]
          obtain ⟨x0, hx0⟩ : ∃ x0, My.start d k vm vp = x0 := ⟨_, rfl⟩
          have hst := My.start_ok M hnear
          rw [hx0] at hst
          obtain ⟨hs0, hs1, _⟩ := hst
          have HN : Hid (My.Near M d k vm vp ∧ My.start d k vm vp = x0 ∧ (k - d) % 2 = 0 ∧ k = -(d : Int) + 2 * j) := ⟨hnear, hx0, hpar, hkd⟩
          rw [hx0] at hcases
          clear hnear hx0 hpar hkd hoff hlen hbk im ip io hmid hv hon
          have hways : (((k == -(d : Int)) = true ∧ vp = x0) ∨ ((k == -(d : Int)) = false ∧ (k != (d : Int)) = true ∧ vm < vp ∧ vm < x0 ∧ vp = x0)) ∨
              (((k == -(d : Int)) = false ∧ (k != (d : Int)) = false ∧ vm + 1 = x0) ∨ ((k == -(d : Int)) = false ∧ (k != (d : Int)) = true ∧ decide (vm < vp) = false ∧ vm + 1 = x0)) := by
            rcases hcases with ⟨q1 | ⟨q1, q2, q3⟩, hst⟩ | ⟨⟨q1, q2 | ⟨q2, q3⟩⟩, hst⟩
            · exact .inl (.inl ⟨q1, hst.symm⟩)
            · exact .inl (.inr ⟨q1, q2, q3, by omega, hst.symm⟩)
            · exact .inr (.inl ⟨q1, q2, hst.symm⟩)
            · exact .inr (.inr ⟨q1, q2, q3, hst.symm⟩)
          clear hcases
          have hsb : x0 ≤ 5121 := by omega
          rcases hways with (⟨q1, hst⟩ | ⟨q1, q2, q3, q4, hst⟩) | (⟨q1, q2, hst⟩ | ⟨q1, q2, q3, hst⟩)
          all_goals
            go_wp2
            go_quiet (fail)
            go_wp2
            clear hst
            have hA' : SymsAt wi ba oa ao la := fun h => (hA.below (hba h) HB.out) h
            have hB' : SymsAt wi bb ob bo lb := fun h => (hB.below (hbb h) HB.out) h
            have HAB : Hid (SymsAt wi ba oa ao la ∧ SymsAt wi bb ob bo lb) := ⟨hA', hB'⟩
            clear hA' hB' cm cm2 cp
            go_loopw [15, 16] (fun xv yv ws => ∃ (x y : Int) (q : Nat), xv = .int .i64 x ∧ yv = .int .i64 y ∧ 0 ≤ x ∧ x ≤ 5121 ∧ 0 ≤ y ∧ y ≤ 7000 ∧ ws = wi.drewN q ∧ Hid (y = x - k ∧ x0 ≤ x ∧ ∀ i, x0 ≤ i → i < x → M i.toNat (i - k).toNat = true)) (fun xv _ _ => ((la.length : Int) - intOf xv).toNat)
            case atStart => exact ⟨x0, x0 - k, nq, rfl, rfl, hs0, hsb, hs1, by omega, rfl, rfl, Int.le_refl _, fun i h1 h2 => by omega⟩
            case round =>
              obtain ⟨x, y, q, rfl, rfl, hx0, hx1, hy0, hy1, rfl, hsn⟩ := hrel
              have hexit : (∃ k1 n1 k2 n2 : Int, x < la.length ∧ y < lb.length ∧ la[x.toNat]? = some (k1, n1) ∧ lb[y.toNat]? = some (k2, n2)) ∨ (x < la.length ∧ ¬ y < lb.length) ∨ ¬ x < la.length := by
                by_cases h1 : x < la.length
                · by_cases h2 : y < lb.length
                  · exact .inl ⟨_, _, _, _, h1, h2, List.getElem?_eq_getElem (by omega), List.getElem?_eq_getElem (by omega)⟩
                  · exact .inr (.inl ⟨h1, h2⟩)
                · exact .inr (.inr h1)
              have HF : Hid (M x.toNat y.toNat = false → My.FR M d k x ∧ x ≤ 5120) := fun hf => by
                have hfr := My.FR_of_snake M HN.out.1 (x := x) (by rw [HN.out.2.1]; exact hsn.out.2.1) (by rw [HN.out.2.1]; exact hsn.out.2.2) (by rw [← hsn.out.1]; exact hf)
                exact ⟨hfr, by have := My.FR_le M hM hfr; omega⟩
              rcases hexit with ⟨k1, n1, k2, n2, hxn, hym, hpa, hqb⟩ | ⟨hxn, hym⟩ | hxn
              · have hixa := HAB.out.1.addrI 40 slice40 size48 x hx0 hxn ca
                have hixb := HAB.out.2.addrI 40 slice40 size48 y hy0 hym cb
                obtain ⟨a1, a2⟩ := (HAB.out.1 (by omega)).2 x.toNat _ hpa
                obtain ⟨b1, b2⟩ := (HAB.out.2 (by omega)).2 y.toNat _ hqb
                have HMd : Hid (M x.toNat y.toNat = decide ((k1, n1) = (k2, n2))) := by unfold Hid; rw [HMD.out]; unfold My.Mof; rw [hpa, hqb]
                clear hpa hqb
                by_cases heq : k1 = k2 ∧ n1 = n2
                · obtain ⟨rfl, rfl⟩ := heq
                  have HS : Hid (y + 1 = x + 1 - k ∧ x0 ≤ x + 1 ∧ ∀ i, x0 ≤ i → i < x + 1 → M i.toNat (i - k).toNat = true) := by
                    obtain ⟨h1, h2, h3⟩ := hsn.out
                    refine ⟨by omega, by omega, fun i h4 h5 => ?_⟩
                    by_cases e : i = x
                    · subst e; rw [← h1, HMd.out]; simp
                    · exact h3 i h4 (by omega)
                  clear HMd HF hsn
                  go_wp2
                  go_quiet (fail)
                  go_wp2
                  go_roundw
                  case rel => exact ⟨x + 1, y + 1, _, rfl, rfl, by omega, by omega, by omega, by omega, rfl, HS⟩
                  case measure => simp [intOf]; omega
                · have hcs : (k1 == k2) = false ∨ ((k1 == k2) = true ∧ (n1 == n2) = false) := by
                    by_cases e : k1 = k2
                    · exact .inr ⟨by simpa using e, by simpa using fun h => heq ⟨e, h⟩⟩
                    · exact .inl (by simpa using e)
                  obtain ⟨hfr, hx2⟩ := HF.out (by rw [HMd.out]; simp only [Prod.mk.injEq, heq, decide_false])
                  have RM : Hid (Mid M la.length lb.length len off d (j + 1) (k + 2) (My.upd ul (off + k).toNat x) (work + (x - vo + 1))) := HM.out x hfr (by omega)
                  clear HMd HF hsn heq hfr
                  rcases hcs with e1 | ⟨e1, e2⟩
                  all_goals
                    go_wp2
                    go_quiet (fail)
                    go_wp2
                    go_roundw
                    case rel => exact ⟨j + 1, k + 2, work + (x - vo + 1), _, by omega, rfl, rfl, (HV.out x _).2, (HV.out x _).1, RM⟩
                    case measure => simp [intOf]; omega
              · obtain ⟨hfr, hx2⟩ := HF.out (by rw [HMD.out]; exact My.Mof_out (by omega))
                have RM : Hid (Mid M la.length lb.length len off d (j + 1) (k + 2) (My.upd ul (off + k).toNat x) (work + (x - vo + 1))) := HM.out x hfr (by omega)
                have dy : decide (y < (lb.length : Int)) = false := decide_eq_false hym
                clear HF hsn hfr
                go_wp2
                go_quiet (fail)
                go_wp2
                go_roundw
                case rel => exact ⟨j + 1, k + 2, work + (x - vo + 1), _, by omega, rfl, rfl, (HV.out x _).2, (HV.out x _).1, RM⟩
                case measure => simp [intOf]; omega
              · obtain ⟨hfr, hx2⟩ := HF.out (by rw [HMD.out]; exact My.Mof_out (by omega))
                have dx : decide (x < (la.length : Int)) = false := decide_eq_false hxn
                have hxn' : (la.length : Int) ≤ x := by omega
                have hyk := hsn.out.1
                by_cases hym : (lb.length : Int) ≤ y
                · obtain ⟨e1, e2, e3⟩ := My.hit_is_end M hM hfr hxn' (by omega) hEd.out
                  have HT : Hid (∀ W, OnlyAt w.heap.size w2 W → TraceAt W tg d (2 * lim + 3) (ext G d g) (ext C d cap) (extT T d vl) ∧ tg < W.heap.size ∧ Below w.heap.size w W) := fun W hW => by
                    have r3 := H2.out.1.kept hW.grown (.inr (by simp [Value.ownBlock]; exact hne))
                    have r4 := H2.out.2.1.only hW
                    rw [HL.out.2.2]
                    exact ⟨trace_at r3 r4, (r3.lt tg rfl).2, H2.out.2.2.trans (hW.below (Nat.le_refl _))⟩
                  have HE : Hid (My.FR M d ((la.length : Int) - lb.length) la.length ∧ ((la.length : Int) - lb.length - d) % 2 = 0) := by
                    have e4 : k = (la.length : Int) - lb.length := by omega
                    refine ⟨?_, ?_⟩
                    · rw [← e4, ← e1]; exact hfr
                    · rw [← e4]; exact HN.out.2.2.1
                  have HEd : Hid (My.E M la.length lb.length = d) := e3
                  clear HF hsn hfr e1 e2 e3 hyk
                  go_wp2
                  go_quiet (fail)
                  go_wp2_with fail
                  obtain ⟨t1, t2, t3⟩ := HT.out _ (HV.out x _).1
                  refine (back_any M la.length lb.length d lim hM hla hlb hdl hl1 tg tcap (ext G d g) (ext C d cap) (extT T d vl) off HL.out.2.1.symm _ t1 t2 htk.out HE.out.1 HE.out.2).mono ?_
                  rintro e w3 ⟨es, v, rfl, hwk, hco, hsc, hb3⟩
                  clear t1 t2
                  go_wp2
                  go_ret2
                  refine ⟨t3.trans (hb3.mono t3.size), .inl ⟨?_, es, v, rfl, hwk, ?_, hsc⟩⟩
                  · rw [HEd.out]; omega
                  · rw [HEd.out]; exact hco
                · have RM : Hid (Mid M la.length lb.length len off d (j + 1) (k + 2) (My.upd ul (off + k).toNat x) (work + (x - vo + 1))) := HM.out x hfr (by omega)
                  clear HF hsn hfr hyk
                  go_wp2
                  go_quiet (fail)
                  go_wp2
                  go_roundw
                  case rel => exact ⟨j + 1, k + 2, work + (x - vo + 1), _, by omega, rfl, rfl, (HV.out x _).2, (HV.out x _).1, RM⟩
                  case measure => simp [intOf]; omega
        · obtain rfl : j = d + 1 := by omega
          have hkd := hmid.out.2.2.2.2
          have hkd' : (d : Int) < k := by omega
          have hwb := My.wok_bound hmid.out.2.2.2.1 hmid.out.2.2.1 bln1 (by omega)
          obtain ⟨hw0, hw1⟩ := hwb
          have R1 := My.step_end M _ _ hmid.out.2.1 hEd.out
          have R2 : Hid (Head M la.length lb.length len off (d + 1) ul work (extT T d vl)) := ⟨R1.1, htk.out, hmid.out.2.2.1, My.wok_mono hmid.out.2.2.2.1 (by omega), R1.2⟩
          have R3 := H2.out.1.kept hon.out.grown (.inr (by simp [Value.ownBlock]; exact hne))
          have R4 : Hid (RowsOk wr w.heap.size len (ext G d g) (extT T d vl) (d + 1)) := H2.out.2.1.only hon.out
          have R5 := H2.out.2.2.trans (hon.out.below (Nat.le_refl _))
          clear R1 hkd hmid hon H2 hEd htk
          go_wp2
          go_roundw
          case rel =>
            first
              | exact ⟨d + 1, ul, work, ext G d g, ext C d cap, extT T d vl, by omega, by go_num, rfl, hv, R3, R4, R2, R5⟩
              | ((repeat apply Exists.intro); exact ⟨⟨d + 1, ul, work, ext G d g, ext C d cap, extT T d vl, by omega, by go_num, rfl, hv, R3, R4, R2, R5⟩, rfl⟩)
          case measure => simp [intOf]; omega
    · obtain rfl : d = lim + 1 := by omega
      have hE := hhead.out.2.2.2.2
      have hS := My.E_le_sum M la.length lb.length
      have hml := HL.out.1
      clear hhead
      go_wp2
      go_ret2
      exact ⟨hbel, .inr ⟨by omega, rfl⟩⟩

end Go.Proofs.Qxb6602440a
