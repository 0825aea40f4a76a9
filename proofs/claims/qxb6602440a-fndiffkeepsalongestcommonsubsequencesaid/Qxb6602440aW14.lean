/-
  diff (14).
-/
import Derived.Test.Qxb6602440aW14a
import Derived.Deep.CutBlock
namespace Go.Proofs.Qxb6602440a
open Go.RowKit

/-- What diff hands back. -/
def DiffSays (la lb : List (Int × Int)) (es : List (Int × Int × Int)) : Prop :=
  ∃ pre post : Nat, My.IsPre (My.Mof la lb) pre ∧ My.IsPost (My.Mof la lb) la.length lb.length pre post ∧ es.length ≤ 8192 ∧
    ((My.E (My.Mof la lb) la.length lb.length ≤ 1024 ∧ My.Walk (My.Mof la lb) la.length lb.length es 0 0 ∧ My.costs es = My.E (My.Mof la lb) la.length lb.length) ∨
     (1024 < My.E (My.Mof la lb) la.length lb.length ∧ My.Walk2 (My.Mof la lb) la.length lb.length pre post es.length es 0 0 0 false ∧ My.keeps es = pre + post))

set_option maxRecDepth 100000 in
set_option maxHeartbeats 8000000 in
theorem diff_any (la lb : List (Int × Int)) (ba oa bb ob : Nat) (ao bo : Option Addr) (ca cb : Nat) (w : World) (hla : la.length ≤ 4096) (hlb : lb.length ≤ 4096) (hca : la.length ≤ ca) (hcb : lb.length ≤ cb)
    (hA : SymsAt w ba oa ao la) (hB : SymsAt w bb ob bo lb) (hba : 0 < la.length → ba < w.heap.size) (hbb : 0 < lb.length → bb < w.heap.size) :
    Calls Try.prog 14 #[.slice ao la.length ca, .slice bo lb.length cb] w fun e w' => Below w.heap.size w w' ∧ ∃ es v, e = .returned v ∧ IsScript w' v es ∧ DiffSays la lb es := by
  obtain ⟨M, hMdef⟩ : ∃ M, M = My.Mof la lb := ⟨_, rfl⟩
  have hM : ∀ i j, M i j = true → i < la.length ∧ j < lb.length := by rw [hMdef]; exact My.Mof_lt la lb
  have HMD : Hid (M = My.Mof la lb) := hMdef
  have HAB : Hid (SymsAt w ba oa ao la ∧ SymsAt w bb ob bo lb) := ⟨hA, hB⟩
  clear hMdef hA hB
  go_enter Try.func14, Try.ntmps14
  go_upto_block 0 with fail
  go_cut [5] from 18 to 40 (fun pv wc => ∃ (p q : Nat), pv = .int .i64 p ∧ p ≤ la.length ∧ p ≤ lb.length ∧ wc = w.drewN q ∧ Hid (My.IsPre M p))
  case first =>
    go_wp2
    go_loopw [5] (fun pv ws => ∃ (p q : Nat), pv = .int .i64 p ∧ p ≤ la.length ∧ p ≤ lb.length ∧ ws = w.drewN q ∧ Hid (∀ t, t < p → M t t = true)) (fun pv _ => la.length - (intOf pv).toNat)
    case atStart => exact ⟨0, 0, rfl, by omega, by omega, rfl, fun t ht => by omega⟩
    case round =>
      obtain ⟨p, q, rfl, hp1, hp2, rfl, hmt⟩ := hrel
      have hexit : (∃ k1 n1 k2 n2 : Int, p < la.length ∧ p < lb.length ∧ la[p]? = some (k1, n1) ∧ lb[p]? = some (k2, n2)) ∨ (p < la.length ∧ ¬ p < lb.length) ∨ ¬ p < la.length := by
        by_cases h1 : p < la.length
        · by_cases h2 : p < lb.length
          · exact .inl ⟨_, _, _, _, h1, h2, List.getElem?_eq_getElem h1, List.getElem?_eq_getElem h2⟩
          · exact .inr (.inl ⟨h1, h2⟩)
        · exact .inr (.inr h1)
      rcases hexit with ⟨k1, n1, k2, n2, hxn, hym, hpa, hqb⟩ | ⟨hxn, hym⟩ | hxn
      · have hixa := HAB.out.1.addr 40 slice40 size48 p hxn ca
        have hixb := HAB.out.2.addr 40 slice40 size48 p hym cb
        obtain ⟨a1, a2⟩ := (HAB.out.1 (by omega)).2 p _ hpa
        obtain ⟨b1, b2⟩ := (HAB.out.2 (by omega)).2 p _ hqb
        have HMd : Hid (M p p = decide ((k1, n1) = (k2, n2))) := by unfold Hid; rw [HMD.out]; unfold My.Mof; rw [hpa, hqb]
        clear hpa hqb
        have ix : (p : Int) < la.length := by omega
        have iy : (p : Int) < lb.length := by omega
        by_cases heq : k1 = k2 ∧ n1 = n2
        · obtain ⟨rfl, rfl⟩ := heq
          have HS : Hid (∀ t, t < p + 1 → M t t = true) := fun t ht => by
            by_cases e : t = p
            · subst e; rw [HMd.out]; simp
            · exact hmt.out t (by omega)
          clear HMd hmt
          go_wp2
          go_quiet (fail)
          go_wp2
          go_roundw
          case rel => exact ⟨p + 1, _, by go_num, by omega, by omega, rfl, HS⟩
          case measure => simp [intOf]; omega
        · have hcs : (k1 == k2) = false ∨ ((k1 == k2) = true ∧ (n1 == n2) = false) := by
            by_cases e : k1 = k2
            · exact .inr ⟨by simpa using e, by simpa using fun h => heq ⟨e, h⟩⟩
            · exact .inl (by simpa using e)
          have HF : Hid (My.IsPre M p) := ⟨hmt.out, by rw [HMd.out]; simp only [Prod.mk.injEq, heq, decide_false]⟩
          clear HMd hmt heq
          rcases hcs with e1 | ⟨e1, e2⟩
          all_goals
            go_wp2
            go_quiet (fail)
            go_wp2
            go_meet
            case rel => exact ⟨p, _, rfl, hp1, hp2, World.drewN_drewN w q nq, HF⟩
      · have HF : Hid (My.IsPre M p) := ⟨hmt.out, by rw [HMD.out]; exact My.Mof_out (by omega)⟩
        have ix : (p : Int) < la.length := by omega
        have dy : decide ((p : Int) < (lb.length : Int)) = false := decide_eq_false (by omega)
        clear hmt
        go_wp2
        go_quiet (fail)
        go_wp2
        go_meet
        case rel => exact ⟨p, _, rfl, hp1, hp2, World.drewN_drewN w q nq, HF⟩
      · have HF : Hid (My.IsPre M p) := ⟨hmt.out, by rw [HMD.out]; exact My.Mof_out (by omega)⟩
        have dx : decide ((p : Int) < (la.length : Int)) = false := decide_eq_false (by omega)
        clear hmt
        go_wp2
        go_quiet (fail)
        go_wp2
        go_meet
        case rel => exact ⟨p, _, rfl, hp1, hp2, World.drewN_drewN w q nq, HF⟩
  case rest =>
    obtain ⟨p, q, rfl, hp1, hp2, rfl, hpre⟩ := hcut
    go_upto_block 2 with fail
    go_cut [6] from 41 to 75 (fun sv wc => ∃ (s q : Nat), sv = .int .i64 s ∧ s ≤ la.length - p ∧ s ≤ lb.length - p ∧ wc = w.drewN q ∧ Hid (My.IsPost M la.length lb.length p s))
    case first =>
      go_wp2
      go_loopw [6] (fun sv ws => ∃ (s q : Nat), sv = .int .i64 s ∧ s ≤ la.length - p ∧ s ≤ lb.length - p ∧ ws = w.drewN q ∧ Hid (∀ t, t < s → M (la.length - 1 - t) (lb.length - 1 - t) = true)) (fun sv _ => la.length - (intOf sv).toNat)
      case atStart => exact ⟨0, q, rfl, by omega, by omega, rfl, fun t ht => by omega⟩
      case round =>
        obtain ⟨s, q', rfl, hs1, hs2, rfl, hmt⟩ := hrel
        obtain ⟨ia, hia⟩ : ∃ ia : Nat, ia = la.length - 1 - s := ⟨_, rfl⟩
        obtain ⟨ib, hib⟩ : ∃ ib : Nat, ib = lb.length - 1 - s := ⟨_, rfl⟩
        have hexit : (∃ k1 n1 k2 n2 : Int, s < la.length - p ∧ s < lb.length - p ∧ la[ia]? = some (k1, n1) ∧ lb[ib]? = some (k2, n2)) ∨ (s < la.length - p ∧ ¬ s < lb.length - p) ∨ ¬ s < la.length - p := by
          by_cases h1 : s < la.length - p
          · by_cases h2 : s < lb.length - p
            · exact .inl ⟨_, _, _, _, h1, h2, List.getElem?_eq_getElem (by omega), List.getElem?_eq_getElem (by omega)⟩
            · exact .inr (.inl ⟨h1, h2⟩)
          · exact .inr (.inr h1)
        rcases hexit with ⟨k1, n1, k2, n2, hxn, hym, hpa, hqb⟩ | ⟨hxn, hym⟩ | hxn
        · have hixa : ∀ w, (Instr.indexAt 40 (.slice ao la.length ca) (.int .i64 ((la.length : Int) - 1 - s))).run Try.prog w = .ok (.pointer (some ⟨ba, oa + ia * 2, none⟩)) w := by
            have e : (la.length : Int) - 1 - s = (ia : Int) := by omega
            rw [e]; exact HAB.out.1.addr 40 slice40 size48 ia (by omega) ca
          have hixb : ∀ w, (Instr.indexAt 40 (.slice bo lb.length cb) (.int .i64 ((lb.length : Int) - 1 - s))).run Try.prog w = .ok (.pointer (some ⟨bb, ob + ib * 2, none⟩)) w := by
            have e : (lb.length : Int) - 1 - s = (ib : Int) := by omega
            rw [e]; exact HAB.out.2.addr 40 slice40 size48 ib (by omega) cb
          obtain ⟨a1, a2⟩ := (HAB.out.1 (by omega)).2 ia _ hpa
          obtain ⟨b1, b2⟩ := (HAB.out.2 (by omega)).2 ib _ hqb
          have HMd : Hid (M (la.length - 1 - s) (lb.length - 1 - s) = decide ((k1, n1) = (k2, n2))) := by unfold Hid; rw [HMD.out, ← hia, ← hib]; unfold My.Mof; rw [hpa, hqb]
          clear hpa hqb hia hib
          have ix : (s : Int) < (la.length : Int) - p := by omega
          have iy : (s : Int) < (lb.length : Int) - p := by omega
          by_cases heq : k1 = k2 ∧ n1 = n2
          · obtain ⟨rfl, rfl⟩ := heq
            have HS : Hid (∀ t, t < s + 1 → M (la.length - 1 - t) (lb.length - 1 - t) = true) := fun t ht => by
              by_cases e : t = s
              · subst e; rw [HMd.out]; simp
              · exact hmt.out t (by omega)
            clear HMd hmt
            go_wp2
            go_quiet (fail)
            go_wp2
            go_roundw
            case rel => exact ⟨s + 1, _, by go_num, by omega, by omega, rfl, HS⟩
            case measure => simp [intOf]; omega
          · have hcs : (k1 == k2) = false ∨ ((k1 == k2) = true ∧ (n1 == n2) = false) := by
              by_cases e : k1 = k2
              · exact .inr ⟨by simpa using e, by simpa using fun h => heq ⟨e, h⟩⟩
              · exact .inl (by simpa using e)
            have HF : Hid (My.IsPost M la.length lb.length p s) := ⟨hs1, hs2, hmt.out, fun _ _ => by rw [HMd.out]; simp only [Prod.mk.injEq, heq, decide_false]⟩
            clear HMd hmt heq
            rcases hcs with e1 | ⟨e1, e2⟩
            all_goals
              go_wp2
              go_quiet (fail)
              go_wp2
              go_meet
              case rel => exact ⟨s, _, rfl, hs1, hs2, World.drewN_drewN w q' nq, HF⟩
        · have HF : Hid (My.IsPost M la.length lb.length p s) := ⟨hs1, hs2, hmt.out, fun _ h => by omega⟩
          have ix : (s : Int) < (la.length : Int) - p := by omega
          have dy : decide ((s : Int) < (lb.length : Int) - p) = false := decide_eq_false (by omega)
          clear hmt hia hib
          go_wp2
          go_quiet (fail)
          go_wp2
          go_meet
          case rel => exact ⟨s, _, rfl, hs1, hs2, World.drewN_drewN w q' nq, HF⟩
        · have HF : Hid (My.IsPost M la.length lb.length p s) := ⟨hs1, hs2, hmt.out, fun h => by omega⟩
          have dx : decide ((s : Int) < (la.length : Int) - p) = false := decide_eq_false (by omega)
          clear hmt hia hib
          go_wp2
          go_quiet (fail)
          go_wp2
          go_meet
          case rel => exact ⟨s, _, rfl, hs1, hs2, World.drewN_drewN w q' nq, HF⟩
    case rest =>
      obtain ⟨s, q', rfl, hs1, hs2, rfl, hpost⟩ := hcut
      have hps1 : p + s ≤ la.length := by omega
      have hps2 : p + s ≤ lb.length := by omega
      obtain ⟨n', hn'⟩ : ∃ n' : Nat, la.length - p - s = n' := ⟨_, rfl⟩
      obtain ⟨m', hm'⟩ : ∃ m' : Nat, lb.length - p - s = m' := ⟨_, rfl⟩
      have hcta := run_cut ao la.length ca p s hps1 hca
      have hctb := run_cut bo lb.length cb p s hps2 hcb
      rw [hn'] at hcta
      rw [hm'] at hctb
      have hS := fun k => script_any (cut la p s) (cut lb p s) ba (oa + p * 2) bb (ob + p * 2) (cutAddr ao ca p) (cutAddr bo cb p) (ca - p) (cb - p) (min (n' + m') 1024) (w.drewN k) (by rw [cut_length]; omega) (by rw [cut_length]; omega) (by rw [cut_length, cut_length]; omega)
        ((symsAt_cut HAB.out.1 hca).drewN k) ((symsAt_cut HAB.out.2 hcb).drewN k) (fun h => hba (by rw [cut_length] at h; omega)) (fun h => hbb (by rw [cut_length] at h; omega))
      simp only [cut_length, hn', hm'] at hS
      have HEM : Hid (My.E M la.length lb.length = My.E (My.Mof (cut la p s) (cut lb p s)) n' m') := My.E_middle (p := p) (q := s) (by omega) (by omega) hpre.out.1 hpost.out.2.2.1 (fun i j hi hj => by rw [mof_cut i j (by omega) (by omega), HMD.out])
      have HNN : Hid (la.length = n' + p + s ∧ lb.length = m' + p + s) := by unfold Hid; omega
      have hnm1 : n' + p + s ≤ 4096 := by omega
      have hnm2 : m' + p + s ≤ 4096 := by omega
      generalize cutAddr ao ca p = ao' at hcta hS
      generalize cutAddr bo cb p = bo' at hctb hS
      have bq1 : 0 ≤ (la.length : Int) - s := by omega
      have bq2 : (la.length : Int) - s ≤ ca := by omega
      have bq3 : (p : Int) ≤ (la.length : Int) - s := by omega
      have br2 : (lb.length : Int) - s ≤ cb := by omega
      have br3 : (p : Int) ≤ (lb.length : Int) - s := by omega
      have HS : Hid _ := hS
      clear hS
      go_wp2
      go_quiet (fail)
      go_wp2_with fail
      refine (HS.out _).mono ?_
      clear HS hcta hctb bq1 bq2 bq3 br2 br3 hn' hm'
      obtain ⟨i0, hi, hz0, hz1, hz2⟩ := info_parts info52
      obtain ⟨N, hNN⟩ : ∃ N : Nat, N = p + (n' + m') + s := ⟨_, rfl⟩
      have hN1 : N ≤ p + (n' + m') + s := by omega
      have hN2 : p + (n' + m') + s ≤ N := by omega
      clear hNN
      rintro e w2 ⟨hb2', ⟨hE, mid, v, rfl, hwk, hco, hsc⟩ | ⟨hE, rfl⟩⟩
      · have hb2 : Below w.heap.size w w2 := ⟨hb2'.os, hb2'.tape, hb2'.output, hb2'.size, hb2'.block⟩
        clear hb2'
        obtain ⟨om, gm, cm, rfl, hom⟩ := script_shape hsc
        have hlm : mid.length ≤ n' + m' := by have h1 := My.walk_count hwk; have h2 := My.count_nonneg mid; omega
        have hmx : (if (mid.length : Int) < (n' : Int) + m' then (n' : Int) + m' else (mid.length : Int)) = (n' : Int) + m' := by split <;> omega
        have HMid : Hid (My.Walk (My.Mof (cut la p s) (cut lb p s)) n' m' mid 0 0 ∧ My.costs mid = My.E (My.Mof (cut la p s) (cut lb p s)) n' m' ∧ My.E (My.Mof (cut la p s) (cut lb p s)) n' m' ≤ 1024) := ⟨hwk, hco, hE⟩
        have HOM : Hid (0 < mid.length → om = some ⟨gm, 0, none⟩ ∧ gm < w2.heap.size ∧ EditsAt w2 gm mid) := hom
        clear hwk hco hE hsc hom
        go_wp2_with (at_make; refine wpList_make_own _ rfl _ _ 37 rfl w.heap.size 52 i0 (.agg #[.int .u8 0, .int .i64 0, .int .i64 0]) 3 Try.underlying37 hi hz0 hz1 _ _ _ N rfl rfl ?hC ?b2 ?b3 ?b4 ?_)
        case hC => omega
        case b2 => rw [hz2]; omega
        case b3 => unfold maxLen; omega
        case b4 => exact hb2.size
        intro w3 hown0 hgrow0
        have hgr0 : Hid (w2.grownBy w3 (some w2.heap.size)) := ⟨hgrow0.os, hgrow0.tape, hgrow0.output, hgrow0.size, fun k hk _ => hgrow0.block k hk (by simp)⟩
        clear hgrow0
        go_wp2
        go_loopw [11, 112] (fun rv cv wr => ∃ (k : Nat) (es : List (Int × Int × Int)), k ≤ p ∧ cv = .int .i64 k ∧ rv = .slice (some ⟨w2.heap.size, 0, none⟩) es.length N ∧ wr.ownsRow w.heap.size 52 3 (.slice (some ⟨w2.heap.size, 0, none⟩) es.length N) es.length (ecells es) ∧ Hid (es = My.upTo My.keepUp k) ∧ Hid (w2.grownBy wr (some w2.heap.size))) (fun _ cv _ => p - (intOf cv).toNat)
        case atStart => exact ⟨0, [], by omega, rfl, rfl, hown0, rfl, hgr0⟩
        case round =>
          obtain ⟨k, es, hk, rfl, rfl, hown, hes, hgr⟩ := hrel
          have hel : es.length ≤ k := by rw [hes.out, My.upTo_length]; exact Nat.le_refl _
          by_cases hkl : k < p
          · have hN : es.length + 1 ≤ N := by omega
            clear hel
            go_wp2_with (at_builtin; refine wpList_append_fits _ rfl _ _ 37 rfl w.heap.size 52 i0 3 Try.underlying37 hi hz1 w2.heap.size es.length N (ecells es) rfl (hown.alloc _) ⟨wr.heap.size, 0, none⟩ 1 1 [.int .u8 1, .int .i64 ((k : Int)), .int .i64 ((k : Int))] rfl rfl ?c1 ?c2 ?c3 ?_)
            case c1 => exact one_edit wr (1, (k : Int), (k : Int))
            case c2 => exact one_edit_one (1, (k : Int), (k : Int))
            case c3 => exact hN
            intro w4 hown1 hg1
            have R1 := own_snoc' (1, (k : Int), (k : Int)) hown1
            have R2 : Hid (w2.grownBy w4 (some w2.heap.size)) := grown_trans (grown_alloc hgr.out _) hg1
            have R3 : Hid (es ++ [(1, (k : Int), (k : Int))] = My.upTo My.keepUp (k + 1)) := by unfold Hid; rw [My.upTo_succ, ← hes.out]; rfl
            clear hown1 hg1 hown hgr hes
            go_wp2
            go_roundw
            case rel =>
              first
                | exact ⟨k + 1, es ++ [(1, (k : Int), (k : Int))], by omega, by go_num, len_snoc, R1, R3, R2⟩
                | ((repeat apply Exists.intro); exact ⟨⟨k + 1, es ++ [(1, (k : Int), (k : Int))], by omega, by go_num, len_snoc, R1, R3, R2⟩, rfl⟩)
            case measure => simp [intOf]; omega
          · obtain rfl : p = k := by omega
            clear hel hkl hk
            go_wp2
            go_loopw [11, 124] (fun rv cv wr => ∃ (k : Nat) (es : List (Int × Int × Int)), k ≤ mid.length ∧ cv = .int .i64 k ∧ rv = .slice (some ⟨w2.heap.size, 0, none⟩) es.length N ∧ wr.ownsRow w.heap.size 52 3 (.slice (some ⟨w2.heap.size, 0, none⟩) es.length N) es.length (ecells es) ∧ Hid (es = My.upTo My.keepUp p ++ My.shift p (mid.take k)) ∧ Hid (w2.grownBy wr (some w2.heap.size))) (fun _ cv _ => mid.length - (intOf cv).toNat)
            case atStart => exact ⟨0, es, by omega, rfl, rfl, hown, by unfold Hid; rw [List.take_zero]; simpa [My.shift] using hes.out, hgr⟩
            case round =>
              clear hown hes hgr
              obtain ⟨k, es, hk, rfl, rfl, hown, hes, hgr⟩ := hrel
              have hel : es.length ≤ p + k := by rw [hes.out, List.length_append, My.upTo_length]; simp [My.shift]; omega
              by_cases hkl : k < mid.length
              · have hN : es.length + 1 ≤ N := by omega
                clear hel
                obtain ⟨⟨op, i, j⟩, he⟩ : ∃ e, mid[k]? = some e := ⟨_, List.getElem?_eq_getElem hkl⟩
                obtain ⟨ho1, ho2, ho3⟩ := HOM.out (by omega)
                obtain ⟨ce1, ce2, ce3⟩ := edits_grown ho3 ho2 (by omega) hgr.out k _ he
                have hix := edit_addr om gm mid.length cm k (fun _ => ho1) hkl
                have hgl : gm < wr.heap.size := Nat.lt_of_lt_of_le ho2 hgr.out.size
                obtain ⟨we1, we2, we3, we4⟩ : 0 ≤ i ∧ i ≤ (n' : Int) ∧ 0 ≤ j ∧ j ≤ (m' : Int) := walk_bounds HMid.out.1 (Int.le_refl _) (Int.le_refl _) k _ he
                have HE : Hid (mid[k]? = some (op, i, j)) := he
                clear he ho1 ho2 ho3
                go_wp2_with (at_builtin; refine wpList_append_fits _ rfl _ _ 37 rfl w.heap.size 52 i0 3 Try.underlying37 hi hz1 w2.heap.size es.length N (ecells es) rfl ((hown.alloc _).alloc _) ⟨wr.heap.size + 1, 0, none⟩ 1 1 [.int .u8 op, .int .i64 (i + p), .int .i64 (j + p)] rfl rfl ?d1 ?d2 ?d3 ?_)
                case d2 => exact ⟨rfl, rfl, rfl⟩
                intro w4 hown1 hg1
                have R1 := own_snoc' (op, i + p, j + p) hown1
                have R2 : Hid (w2.grownBy w4 (some w2.heap.size)) := grown_trans (grown_alloc (grown_alloc hgr.out _) _) hg1
                have R3 : Hid (es ++ [(op, i + p, j + p)] = My.upTo My.keepUp p ++ My.shift p (mid.take (k + 1))) := by unfold Hid; rw [shift_snoc HE.out, ← List.append_assoc, ← hes.out]
                clear hown1 hg1 hown hgr hes
                go_wp2
                go_roundw
                case rel =>
                  first
                    | exact ⟨k + 1, es ++ [(op, i + p, j + p)], by omega, by go_num, len_snoc, R1, R3, R2⟩
                    | ((repeat apply Exists.intro); exact ⟨⟨k + 1, es ++ [(op, i + p, j + p)], by omega, by go_num, len_snoc, R1, R3, R2⟩, rfl⟩)
                case measure => simp [intOf]; omega
              · obtain rfl : mid.length = k := by omega
                clear hel hkl hk
                go_wp2
                go_loopw [11, 17] (fun rv cv wr => ∃ (k : Nat) (es : List (Int × Int × Int)), k ≤ s ∧ cv = .int .i64 k ∧ rv = .slice (some ⟨w2.heap.size, 0, none⟩) es.length N ∧ wr.ownsRow w.heap.size 52 3 (.slice (some ⟨w2.heap.size, 0, none⟩) es.length N) es.length (ecells es) ∧ Hid (es = My.upTo My.keepUp p ++ My.shift p mid ++ My.upTo (My.keepEnd la.length lb.length s) (s - k)) ∧ Hid (w2.grownBy wr (some w2.heap.size))) (fun _ cv _ => (intOf cv).toNat)
                case atStart => exact ⟨s, es, Nat.le_refl _, rfl, rfl, hown, by unfold Hid; rw [Nat.sub_self, My.upTo_zero, List.append_nil]; simpa using hes.out, hgr⟩
                case round =>
                  clear hown hes hgr
                  obtain ⟨k, es, hk, rfl, rfl, hown, hes, hgr⟩ := hrel
                  have hel : es.length ≤ p + mid.length + (s - k) := by rw [hes.out, List.length_append, List.length_append, My.upTo_length, My.upTo_length]; simp [My.shift]
                  by_cases hkl : 0 < k
                  · have hN : es.length + 1 ≤ N := by omega
                    clear hel
                    go_wp2_with (at_builtin; refine wpList_append_fits _ rfl _ _ 37 rfl w.heap.size 52 i0 3 Try.underlying37 hi hz1 w2.heap.size es.length N (ecells es) rfl (hown.alloc _) ⟨wr.heap.size, 0, none⟩ 1 1 [.int .u8 1, .int .i64 ((la.length : Int) - k), .int .i64 ((lb.length : Int) - k)] rfl rfl ?f1 ?f2 ?f3 ?_)
                    case f1 => exact one_edit wr (1, (la.length : Int) - k, (lb.length : Int) - k)
                    case f2 => exact one_edit_one (1, (la.length : Int) - k, (lb.length : Int) - k)
                    case f3 => exact hN
                    intro w4 hown1 hg1
                    have R1 := own_snoc' (1, (la.length : Int) - k, (lb.length : Int) - k) hown1
                    have R2 : Hid (w2.grownBy w4 (some w2.heap.size)) := grown_trans (grown_alloc hgr.out _) hg1
                    have R3 : Hid (es ++ [(1, (la.length : Int) - k, (lb.length : Int) - k)] = My.upTo My.keepUp p ++ My.shift p mid ++ My.upTo (My.keepEnd la.length lb.length s) (s - (k - 1))) := by
                      unfold Hid
                      have e1 : s - (k - 1) = s - k + 1 := by omega
                      have e2 : My.keepEnd la.length lb.length s (s - k) = (1, (la.length : Int) - k, (lb.length : Int) - k) := by unfold My.keepEnd; congr 2 <;> omega
                      rw [e1, My.upTo_succ, e2, ← List.append_assoc, ← hes.out]
                    clear hown1 hg1 hown hgr hes
                    go_wp2
                    go_roundw
                    case rel =>
                      first
                        | exact ⟨k - 1, es ++ [(1, (la.length : Int) - k, (lb.length : Int) - k)], by omega, by go_num, len_snoc, R1, R3, R2⟩
                        | ((repeat apply Exists.intro); exact ⟨⟨k - 1, es ++ [(1, (la.length : Int) - k, (lb.length : Int) - k)], by omega, by go_num, len_snoc, R1, R3, R2⟩, rfl⟩)
                    case measure => simp [intOf]; omega
                  · obtain rfl : k = 0 := by omega
                    clear hel
                    have hbf := below_grown hb2 hgr.out (Nat.le_refl _) hb2.size
                    have hsf := own_isScript hown
                    go_wp2
                    go_ret
                    refine ⟨hbf, es, _, rfl, hsf, ?_⟩
                    have hee : es = My.upTo My.keepUp p ++ My.shift p mid ++ My.upTo (My.keepEnd la.length lb.length s) s := hes.out
                    obtain ⟨f1, f2⟩ := My.found_script (M := M) HNN.out.1 HNN.out.2 hpre.out.1 hpost.out.2.2.1 (fun i j hi hj => by rw [mof_cut i j (by have := HNN.out.1; omega) (by have := HNN.out.2; omega), HMD.out]) HMid.out.1 HMid.out.2.1
                    rw [← hee] at f1 f2
                    refine ⟨p, s, by rw [← HMD.out]; exact hpre.out, by rw [← HMD.out]; exact hpost.out, ?_, .inl ⟨?_, by rw [← HMD.out]; exact f1, by rw [← HMD.out]; exact f2⟩⟩
                    · have h1 := My.walk_count f1; have h2 := My.count_nonneg es; omega
                    · rw [← HMD.out, HEM.out]; exact HMid.out.2.2
      · have hb2 : Below w.heap.size w w2 := ⟨hb2'.os, hb2'.tape, hb2'.output, hb2'.size, hb2'.block⟩
        clear hb2'
        have hmx : (if (0 : Int) < (n' : Int) + m' then (n' : Int) + m' else (0 : Int)) = (n' : Int) + m' := by split <;> omega
        have HE2 : Hid (1024 < My.E (My.Mof (cut la p s) (cut lb p s)) n' m') := hE
        clear hE
        go_wp2_with (at_make; refine wpList_make_own _ rfl _ _ 37 rfl w.heap.size 52 i0 (.agg #[.int .u8 0, .int .i64 0, .int .i64 0]) 3 Try.underlying37 hi hz0 hz1 _ _ _ N rfl rfl ?hC ?b2 ?b3 ?b4 ?_)
        case hC => omega
        case b2 => rw [hz2]; omega
        case b3 => unfold maxLen; omega
        case b4 => exact hb2.size
        intro w3 hown0 hgrow0
        have hgr0 : Hid (w2.grownBy w3 (some w2.heap.size)) := ⟨hgrow0.os, hgrow0.tape, hgrow0.output, hgrow0.size, fun k hk _ => hgrow0.block k hk (by simp)⟩
        clear hgrow0
        go_wp2
        go_loopw [11, 112] (fun rv cv wr => ∃ (k : Nat) (es : List (Int × Int × Int)), k ≤ p ∧ cv = .int .i64 k ∧ rv = .slice (some ⟨w2.heap.size, 0, none⟩) es.length N ∧ wr.ownsRow w.heap.size 52 3 (.slice (some ⟨w2.heap.size, 0, none⟩) es.length N) es.length (ecells es) ∧ Hid (es = My.upTo My.keepUp k) ∧ Hid (w2.grownBy wr (some w2.heap.size))) (fun _ cv _ => p - (intOf cv).toNat)
        case atStart => exact ⟨0, [], by omega, rfl, rfl, hown0, rfl, hgr0⟩
        case round =>
          obtain ⟨k, es, hk, rfl, rfl, hown, hes, hgr⟩ := hrel
          have hel : es.length ≤ k := by rw [hes.out, My.upTo_length]; exact Nat.le_refl _
          by_cases hkl : k < p
          · have hN : es.length + 1 ≤ N := by omega
            clear hel
            go_wp2_with (at_builtin; refine wpList_append_fits _ rfl _ _ 37 rfl w.heap.size 52 i0 3 Try.underlying37 hi hz1 w2.heap.size es.length N (ecells es) rfl (hown.alloc _) ⟨wr.heap.size, 0, none⟩ 1 1 [.int .u8 1, .int .i64 ((k : Int)), .int .i64 ((k : Int))] rfl rfl ?g1 ?g2 ?g3 ?_)
            case g1 => exact one_edit wr (1, (k : Int), (k : Int))
            case g2 => exact one_edit_one (1, (k : Int), (k : Int))
            case g3 => exact hN
            intro w4 hown1 hg1
            have R1 := own_snoc' (1, (k : Int), (k : Int)) hown1
            have R2 : Hid (w2.grownBy w4 (some w2.heap.size)) := grown_trans (grown_alloc hgr.out _) hg1
            have R3 : Hid (es ++ [(1, (k : Int), (k : Int))] = My.upTo My.keepUp (k + 1)) := by unfold Hid; rw [My.upTo_succ, ← hes.out]; rfl
            clear hown1 hg1 hown hgr hes
            go_wp2
            go_roundw
            case rel =>
              first
                | exact ⟨k + 1, es ++ [(1, (k : Int), (k : Int))], by omega, by go_num, len_snoc, R1, R3, R2⟩
                | ((repeat apply Exists.intro); exact ⟨⟨k + 1, es ++ [(1, (k : Int), (k : Int))], by omega, by go_num, len_snoc, R1, R3, R2⟩, rfl⟩)
            case measure => simp [intOf]; omega
          · obtain rfl : p = k := by omega
            clear hel hkl hk
            go_wp2
            refine wp_loop_rounds 1 ?_
            rw [rounds_succ]
            go_wp2
            go_loopw [11, 147] (fun rv cv wr => ∃ (k : Nat) (es : List (Int × Int × Int)), k ≤ n' ∧ cv = .int .i64 k ∧ rv = .slice (some ⟨w2.heap.size, 0, none⟩) es.length N ∧ wr.ownsRow w.heap.size 52 3 (.slice (some ⟨w2.heap.size, 0, none⟩) es.length N) es.length (ecells es) ∧ Hid (es = My.upTo My.keepUp p ++ My.upTo (My.delAt p) k) ∧ Hid (w2.grownBy wr (some w2.heap.size))) (fun _ cv _ => n' - (intOf cv).toNat)
            case atStart => exact ⟨0, es, by omega, rfl, rfl, hown, by unfold Hid; simpa [My.upTo_zero] using hes.out, hgr⟩
            case round =>
              clear hown hes hgr
              obtain ⟨k, es, hk, rfl, rfl, hown, hes, hgr⟩ := hrel
              have hel : es.length ≤ p + k := by rw [hes.out, List.length_append, My.upTo_length, My.upTo_length]; exact Nat.le_refl _
              by_cases hkl : k < n'
              · have hN : es.length + 1 ≤ N := by omega
                clear hel
                go_wp2_with (at_builtin; refine wpList_append_fits _ rfl _ _ 37 rfl w.heap.size 52 i0 3 Try.underlying37 hi hz1 w2.heap.size es.length N (ecells es) rfl (hown.alloc _) ⟨wr.heap.size, 0, none⟩ 1 1 [.int .u8 2, .int .i64 ((p : Int) + k), .int .i64 ((p : Int))] rfl rfl ?x1 ?x2 ?x3 ?_)
                case x1 => exact one_edit wr (2, (p : Int) + k, (p : Int))
                case x2 => exact one_edit_one (2, (p : Int) + k, (p : Int))
                case x3 => exact hN
                intro w4 hown1 hg1
                have R1 := own_snoc' (2, (p : Int) + k, (p : Int)) hown1
                have R2 : Hid (w2.grownBy w4 (some w2.heap.size)) := grown_trans (grown_alloc hgr.out _) hg1
                have R3 : Hid (es ++ [(2, (p : Int) + k, (p : Int))] = My.upTo My.keepUp p ++ My.upTo (My.delAt p) (k + 1)) := by unfold Hid; rw [My.upTo_succ, ← List.append_assoc, ← hes.out]; rfl
                clear hown1 hg1 hown hgr hes
                go_wp2
                go_roundw
                case rel =>
                  first
                    | exact ⟨k + 1, es ++ [(2, (p : Int) + k, (p : Int))], by omega, by go_num, len_snoc, R1, R3, R2⟩
                    | ((repeat apply Exists.intro); exact ⟨⟨k + 1, es ++ [(2, (p : Int) + k, (p : Int))], by omega, by go_num, len_snoc, R1, R3, R2⟩, rfl⟩)
                case measure => simp [intOf]; omega
              · obtain rfl : n' = k := by omega
                clear hel hkl hk
                go_wp2
                go_loopw [11, 161] (fun rv cv wr => ∃ (k : Nat) (es : List (Int × Int × Int)), k ≤ m' ∧ cv = .int .i64 k ∧ rv = .slice (some ⟨w2.heap.size, 0, none⟩) es.length N ∧ wr.ownsRow w.heap.size 52 3 (.slice (some ⟨w2.heap.size, 0, none⟩) es.length N) es.length (ecells es) ∧ Hid (es = My.upTo My.keepUp p ++ My.upTo (My.delAt p) n' ++ My.upTo (My.insAt p) k) ∧ Hid (w2.grownBy wr (some w2.heap.size))) (fun _ cv _ => m' - (intOf cv).toNat)
                case atStart => exact ⟨0, es, by omega, rfl, rfl, hown, by unfold Hid; simpa [My.upTo_zero] using hes.out, hgr⟩
                case round =>
                  clear hown hes hgr
                  obtain ⟨k, es, hk, rfl, rfl, hown, hes, hgr⟩ := hrel
                  have hel : es.length ≤ p + n' + k := by rw [hes.out, List.length_append, List.length_append, My.upTo_length, My.upTo_length, My.upTo_length]; exact Nat.le_refl _
                  by_cases hkl : k < m'
                  · have hN : es.length + 1 ≤ N := by omega
                    clear hel
                    go_wp2_with (at_builtin; refine wpList_append_fits _ rfl _ _ 37 rfl w.heap.size 52 i0 3 Try.underlying37 hi hz1 w2.heap.size es.length N (ecells es) rfl (hown.alloc _) ⟨wr.heap.size, 0, none⟩ 1 1 [.int .u8 3, .int .i64 ((p : Int)), .int .i64 ((p : Int) + k)] rfl rfl ?y1 ?y2 ?y3 ?_)
                    case y1 => exact one_edit wr (3, (p : Int), (p : Int) + k)
                    case y2 => exact one_edit_one (3, (p : Int), (p : Int) + k)
                    case y3 => exact hN
                    intro w4 hown1 hg1
                    have R1 := own_snoc' (3, (p : Int), (p : Int) + k) hown1
                    have R2 : Hid (w2.grownBy w4 (some w2.heap.size)) := grown_trans (grown_alloc hgr.out _) hg1
                    have R3 : Hid (es ++ [(3, (p : Int), (p : Int) + k)] = My.upTo My.keepUp p ++ My.upTo (My.delAt p) n' ++ My.upTo (My.insAt p) (k + 1)) := by unfold Hid; rw [My.upTo_succ, ← List.append_assoc, ← hes.out]; rfl
                    clear hown1 hg1 hown hgr hes
                    go_wp2
                    go_roundw
                    case rel =>
                      first
                        | exact ⟨k + 1, es ++ [(3, (p : Int), (p : Int) + k)], by omega, by go_num, len_snoc, R1, R3, R2⟩
                        | ((repeat apply Exists.intro); exact ⟨⟨k + 1, es ++ [(3, (p : Int), (p : Int) + k)], by omega, by go_num, len_snoc, R1, R3, R2⟩, rfl⟩)
                    case measure => simp [intOf]; omega
                  · obtain rfl : m' = k := by omega
                    clear hel hkl hk
                    go_wp2
                    go_loopw [11, 17] (fun rv cv wr => ∃ (k : Nat) (es : List (Int × Int × Int)), k ≤ s ∧ cv = .int .i64 k ∧ rv = .slice (some ⟨w2.heap.size, 0, none⟩) es.length N ∧ wr.ownsRow w.heap.size 52 3 (.slice (some ⟨w2.heap.size, 0, none⟩) es.length N) es.length (ecells es) ∧ Hid (es = My.upTo My.keepUp p ++ My.upTo (My.delAt p) n' ++ My.upTo (My.insAt p) m' ++ My.upTo (My.keepEnd la.length lb.length s) (s - k)) ∧ Hid (w2.grownBy wr (some w2.heap.size))) (fun _ cv _ => (intOf cv).toNat)
                    case atStart => exact ⟨s, es, Nat.le_refl _, rfl, rfl, hown, by unfold Hid; rw [Nat.sub_self, My.upTo_zero, List.append_nil]; exact hes.out, hgr⟩
                    case round =>
                      clear hown hes hgr
                      obtain ⟨k, es, hk, rfl, rfl, hown, hes, hgr⟩ := hrel
                      have hel : es.length ≤ p + n' + m' + (s - k) := by rw [hes.out, List.length_append, List.length_append, List.length_append, My.upTo_length, My.upTo_length, My.upTo_length, My.upTo_length]; exact Nat.le_refl _
                      by_cases hkl : 0 < k
                      · have hN : es.length + 1 ≤ N := by omega
                        clear hel
                        go_wp2_with (at_builtin; refine wpList_append_fits _ rfl _ _ 37 rfl w.heap.size 52 i0 3 Try.underlying37 hi hz1 w2.heap.size es.length N (ecells es) rfl (hown.alloc _) ⟨wr.heap.size, 0, none⟩ 1 1 [.int .u8 1, .int .i64 ((la.length : Int) - k), .int .i64 ((lb.length : Int) - k)] rfl rfl ?z1 ?z2 ?z3 ?_)
                        case z1 => exact one_edit wr (1, (la.length : Int) - k, (lb.length : Int) - k)
                        case z2 => exact one_edit_one (1, (la.length : Int) - k, (lb.length : Int) - k)
                        case z3 => exact hN
                        intro w4 hown1 hg1
                        have R1 := own_snoc' (1, (la.length : Int) - k, (lb.length : Int) - k) hown1
                        have R2 : Hid (w2.grownBy w4 (some w2.heap.size)) := grown_trans (grown_alloc hgr.out _) hg1
                        have R3 : Hid (es ++ [(1, (la.length : Int) - k, (lb.length : Int) - k)] = My.upTo My.keepUp p ++ My.upTo (My.delAt p) n' ++ My.upTo (My.insAt p) m' ++ My.upTo (My.keepEnd la.length lb.length s) (s - (k - 1))) := by
                          unfold Hid
                          have e1 : s - (k - 1) = s - k + 1 := by omega
                          have e2 : My.keepEnd la.length lb.length s (s - k) = (1, (la.length : Int) - k, (lb.length : Int) - k) := by unfold My.keepEnd; congr 2 <;> omega
                          rw [e1, My.upTo_succ, e2, ← List.append_assoc, ← hes.out]
                        clear hown1 hg1 hown hgr hes
                        go_wp2
                        go_roundw
                        case rel =>
                          first
                            | exact ⟨k - 1, es ++ [(1, (la.length : Int) - k, (lb.length : Int) - k)], by omega, by go_num, len_snoc, R1, R3, R2⟩
                            | ((repeat apply Exists.intro); exact ⟨⟨k - 1, es ++ [(1, (la.length : Int) - k, (lb.length : Int) - k)], by omega, by go_num, len_snoc, R1, R3, R2⟩, rfl⟩)
                        case measure => simp [intOf]; omega
                      · obtain rfl : k = 0 := by omega
                        clear hel
                        have hbf := below_grown hb2 hgr.out (Nat.le_refl _) hb2.size
                        have hsf := own_isScript hown
                        go_wp2
                        go_ret
                        refine ⟨hbf, es, _, rfl, hsf, ?_⟩
                        have hee : es = My.upTo My.keepUp p ++ My.upTo (My.delAt p) n' ++ My.upTo (My.insAt p) m' ++ My.upTo (My.keepEnd la.length lb.length s) s := hes.out
                        obtain ⟨f1, f2⟩ := My.refused_script (M := M) HNN.out.1 HNN.out.2 hpre.out.1 hpost.out.2.2.1
                        have hle : es.length = p + n' + m' + s := by rw [hee, List.length_append, List.length_append, List.length_append, My.upTo_length, My.upTo_length, My.upTo_length, My.upTo_length]
                        rw [← hee, ← hle] at f1
                        rw [← hee] at f2
                        refine ⟨p, s, by rw [← HMD.out]; exact hpre.out, by rw [← HMD.out]; exact hpost.out, by omega, .inr ⟨?_, by rw [← HMD.out]; exact f1, f2⟩⟩
                        rw [← HMD.out, HEM.out]; exact HE2.out

end Go.Proofs.Qxb6602440a
