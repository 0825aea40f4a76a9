/-
  FnDiffKeepsALongestCommonSubsequence (4).
-/
import Derived.Test.Qxb6602440aW10
import Derived.Test.Qxb6602440aW8
namespace Go.Proofs.Qxb6602440a
open Go.RowKit

set_option maxHeartbeats 400000 in
theorem bytes9_small (ao bo : Option Addr) (n m ca cb : Nat) (w : World) (hn : n ≤ 4096) (hm : m ≤ 4096) :
    Calls Try.prog 9 #[.slice ao n ca, .slice bo m cb] w fun e w' => e = .returned (.bool true) ∧ w' = w := by
  go_enter Try.func9, Try.ntmps9
  go_wp2
  go_ret
  exact ⟨rfl, rfl⟩
set_option maxHeartbeats 400000 in
theorem bytes9_any (ao bo : Option Addr) (n m ca cb : Nat) (w : World) (hn : n ≤ maxLen) (hm : m ≤ maxLen) :
    Calls Try.prog 9 #[.slice ao n ca, .slice bo m cb] w fun e w' => (∃ b, e = .returned (.bool b)) ∧ w' = w := by
  unfold maxLen at hn hm
  go_enter Try.func9, Try.ntmps9
  go_wp2
  all_goals
    go_ret
    exact ⟨⟨_, rfl⟩, rfl⟩

set_option maxRecDepth 100000 in
set_option maxHeartbeats 400000 in
theorem top4_big (ao bo : Option Addr) (n m ca cb : Nat) (w : World) (hn : n ≤ maxLen) (hm : m ≤ maxLen) (h : ¬ (n ≤ 4096 ∧ m ≤ 4096)) :
    Calls Try.prog 4 #[.slice ao n ca, .slice bo m cb] w fun e w' => e = .returned (.bool true) ∧ Below w.heap.size w w' := by
  have hd : (4096 < n) ∨ (n ≤ 4096 ∧ 4096 < m) := by omega
  have hn' := hn
  have hm' := hm
  unfold maxLen at hn' hm'
  rcases hd with hd | ⟨hd, hd'⟩
  all_goals
    go_enter Try.func4, Try.ntmps4
    go_wp2_with fail
    refine (bytes9_any ao bo n m ca cb _ hn hm).mono ?_
    rintro e w' ⟨⟨b, rfl⟩, rfl⟩
    cases b
    all_goals
      go_wp2
      go_ret
      exact ⟨rfl, Below.refl _ _⟩

/-- One more edit of a script is looked at. -/
theorem drop_at {es : List (Int × Int × Int)} {t : Nat} {e : Int × Int × Int} (h : es[t]? = some e) : es.drop t = e :: es.drop (t + 1) := by
  obtain ⟨hlt, rfl⟩ := List.getElem?_eq_some_iff.1 h
  exact List.drop_eq_getElem_cons hlt

set_option maxRecDepth 100000 in
set_option maxHeartbeats 8000000 in
theorem top4_small (la lb : List (Int × Int)) (ba oa bb ob : Nat) (ao bo : Option Addr) (ca cb : Nat) (w : World) (hla : la.length ≤ 4096) (hlb : lb.length ≤ 4096) (hna : ao = none → la = [] ∧ ca = 0) (hnb : bo = none → lb = [] ∧ cb = 0)
    (hA : SymsAt w ba oa ao la) (hB : SymsAt w bb ob bo lb) (hba : 0 < la.length → ba < w.heap.size) (hbb : 0 < lb.length → bb < w.heap.size) :
    Calls Try.prog 4 #[.slice ao la.length ca, .slice bo lb.length cb] w fun e w' => e = .returned (.bool true) ∧ Below w.heap.size w w' := by
  obtain ⟨lv, hlv⟩ : ∃ lv : Int, (My.L (My.Mof la lb) la.length lb.length : Int) = lv := ⟨_, rfl⟩
  have hlb0 : 0 ≤ lv := by omega
  have hlb1 : lv ≤ 4096 := by have := My.L_le (My.Mof la lb) la.length lb.length; omega
  have HLV : Hid ((My.L (My.Mof la lb) la.length lb.length : Int) = lv) := hlv
  have HEL : Hid (My.E (My.Mof la lb) la.length lb.length = la.length + lb.length - 2 * lv) := by unfold Hid My.E; rw [Int.toNat_natCast, Int.toNat_natCast, hlv]
  clear hlv
  go_enter Try.func4, Try.ntmps4
  go_wp2_with fail
  refine (bytes9_small ao bo la.length lb.length ca cb _ hla hlb).mono ?_
  rintro e w' ⟨rfl, rfl⟩
  go_wp2_with fail
  refine (split_any la ba oa ao ca _ hna hla hA hba).mono ?_
  rintro e w1 ⟨vk, vn, rfl, hsa, hb1⟩
  have hB1 : SymsAt w1 bb ob bo lb := fun h => (hB.below (hbb h) hb1) h
  go_wp2_with fail
  refine (split_any lb bb ob bo cb _ hnb hlb hB1 (fun h => Nat.lt_of_lt_of_le (hbb h) hb1.size)).mono ?_
  rintro e w2 ⟨vk', vn', rfl, hsb, hb2⟩
  have hb12 := hb1.trans (hb2.mono hb1.size)
  have hsa' := hsa.below hb2
  clear hB1 hb1 hb2 hsa
  go_wp2_with fail
  refine (zzdiff_any la lb vk vn vk' vn' _ hla hlb hsa' hsb).mono ?_
  clear hsa' hsb
  rintro e w3 ⟨hb3, es, v1, v2, v3, rfl, h3, hds⟩
  have hb13 := hb12.trans (hb3.mono hb12.size)
  clear hb3 hb12
  have hL := lcs_any la lb ba oa bb ob ao bo ca cb w3 hla hlb (fun h => (hA.below (hba h) hb13) h) (fun h => (hB.below (hbb h) hb13) h) (fun h => Nat.lt_of_lt_of_le (hba h) hb13.size) (fun h => Nat.lt_of_lt_of_le (hbb h) hb13.size)
  rw [HLV.out] at hL
  have hln : es.length ≤ 8192 := by obtain ⟨_, _, _, _, h, _⟩ := hds; exact h
  have HDS : Hid (DiffSays la lb es) := hds
  clear hds
  obtain ⟨fb, hfb⟩ : ∃ fb, decide ((la.length : Int) + lb.length - 2 * lv ≤ 1024) = fb := ⟨_, rfl⟩
  have HFB : Hid (decide ((la.length : Int) + lb.length - 2 * lv ≤ 1024) = fb) := hfb
  obtain ⟨o1, o2, o3, g1, g2, g3, rfl, rfl, rfl, r1, r2, r3⟩ := h3
  have HR3 : Hid (OneAt w3 g1 o1 es.length (opsTo es es.length) ∧ OneAt w3 g2 o2 es.length (isTo es es.length) ∧ OneAt w3 g3 o3 es.length (jsTo es es.length)) := ⟨r1, r2, r3⟩
  clear r1 r2 r3
  go_wp2_with fail
  refine hL.mono ?_
  clear hL
  rintro e w4 ⟨rfl, hb4⟩
  have HR : Hid (OneAt w4 g1 o1 es.length (opsTo es es.length) ∧ OneAt w4 g2 o2 es.length (isTo es es.length) ∧ OneAt w4 g3 o3 es.length (jsTo es es.length)) := ⟨HR3.out.1.below hb4, HR3.out.2.1.below hb4, HR3.out.2.2.below hb4⟩
  have hb14 := hb13.trans (hb4.mono hb13.size)
  have HAB : Hid (SymsAt w4 ba oa ao la ∧ SymsAt w4 bb ob bo lb) := ⟨fun h => (hA.below (hba h) hb14) h, fun h => (hB.below (hbb h) hb14) h⟩
  clear HR3 hb4 hb13 hA hB
  obtain ⟨M, hMdef⟩ : ∃ M, M = My.Mof la lb := ⟨_, rfl⟩
  have HMD : Hid (M = My.Mof la lb) := hMdef
  clear hMdef
  go_upto_block 0 with fail
  clear hfb
  go_cut [14] from 78 to 100 (fun pv wc => ∃ (p q : Nat), pv = .int .i64 p ∧ p ≤ la.length ∧ p ≤ lb.length ∧ wc = w4.drewN q ∧ Hid (My.IsPre M p))
  case first =>
    go_wp2
    go_loopw [14] (fun pv ws => ∃ (p q : Nat), pv = .int .i64 p ∧ p ≤ la.length ∧ p ≤ lb.length ∧ ws = w4.drewN q ∧ Hid (∀ t, t < p → M t t = true)) (fun pv _ => la.length - (intOf pv).toNat)
    case atStart => exact ⟨0, 0, rfl, by omega, by omega, rfl, fun t ht => by omega⟩
    case round =>
      obtain ⟨p, q, rfl, hp1, hp2, rfl, hmt⟩ := hrel
      have hexit : (∃ k1 n1 k2 n2 : Int, p < la.length ∧ p < lb.length ∧ la[p]? = some (k1, n1) ∧ lb[p]? = some (k2, n2)) ∨ (p < la.length ∧ ¬ p < lb.length) ∨ ¬ p < la.length := by
        by_cases h1 : p < la.length
        · by_cases h2 : p < lb.length
          · exact .inl ⟨_, _, _, _, h1, h2, List.getElem?_eq_getElem h1, List.getElem?_eq_getElem h2⟩
          · exact .inr (.inl ⟨h1, h2⟩)
        · exact .inr (.inr h1)
      rcases hexit with ⟨k1, n1, k2, n2, hxn, hym, hpa, hqb⟩ | ⟨hxn, hym⟩ | hxn
      · have hixa := HAB.out.1.addr 22 slice22 size34 p hxn ca
        have hixb := HAB.out.2.addr 22 slice22 size34 p hym cb
        obtain ⟨a1, a2⟩ := (HAB.out.1 (by omega)).2 p _ hpa
        obtain ⟨b1, b2⟩ := (HAB.out.2 (by omega)).2 p _ hqb
        have HMd : Hid (M p p = decide ((k1, n1) = (k2, n2))) := by unfold Hid; rw [HMD.out]; unfold My.Mof; rw [hpa, hqb]
        clear hpa hqb
        have ix : (p : Int) < la.length := by omega
        have iy : (p : Int) < lb.length := by omega
        by_cases heq : k1 = k2 ∧ n1 = n2
        · obtain ⟨rfl, rfl⟩ := heq
          have HS : Hid (∀ t, t < p + 1 → M t t = true) := fun t ht => by
            by_cases e : t = p
            · subst e; rw [HMd.out]; simp
            · exact hmt.out t (by omega)
          clear HMd hmt
          go_wp2
          go_quiet (fail)
          go_wp2
          go_roundw
          case rel => exact ⟨p + 1, _, by go_num, by omega, by omega, rfl, HS⟩
          case measure => simp [intOf]; omega
        · have hcs : (k1 == k2) = false ∨ ((k1 == k2) = true ∧ (n1 == n2) = false) := by
            by_cases e : k1 = k2
            · exact .inr ⟨by simpa using e, by simpa using fun h => heq ⟨e, h⟩⟩
            · exact .inl (by simpa using e)
          have HF : Hid (My.IsPre M p) := ⟨hmt.out, by rw [HMd.out]; simp only [Prod.mk.injEq, heq, decide_false]⟩
          clear HMd hmt heq
          rcases hcs with e1 | ⟨e1, e2⟩
          all_goals
            go_wp2
            go_quiet (fail)
            go_wp2
            go_meet
            case rel => exact ⟨p, _, rfl, hp1, hp2, World.drewN_drewN w4 q nq, HF⟩
      · have HF : Hid (My.IsPre M p) := ⟨hmt.out, by rw [HMD.out]; exact My.Mof_out (by omega)⟩
        have ix : (p : Int) < la.length := by omega
        have dy : decide ((p : Int) < (lb.length : Int)) = false := decide_eq_false (by omega)
        clear hmt
        go_wp2
        go_quiet (fail)
        go_wp2
        go_meet
        case rel => exact ⟨p, _, rfl, hp1, hp2, World.drewN_drewN w4 q nq, HF⟩
      · have HF : Hid (My.IsPre M p) := ⟨hmt.out, by rw [HMD.out]; exact My.Mof_out (by omega)⟩
        have dx : decide ((p : Int) < (la.length : Int)) = false := decide_eq_false (by omega)
        clear hmt
        go_wp2
        go_quiet (fail)
        go_wp2
        go_meet
        case rel => exact ⟨p, _, rfl, hp1, hp2, World.drewN_drewN w4 q nq, HF⟩
  case rest =>
    obtain ⟨p, q, rfl, hp1, hp2, rfl, hpre⟩ := hcut
    go_upto_block 2 with fail
    go_cut [15] from 101 to 135 (fun sv wc => ∃ (s q : Nat), sv = .int .i64 s ∧ s ≤ la.length - p ∧ s ≤ lb.length - p ∧ wc = w4.drewN q ∧ Hid (My.IsPost M la.length lb.length p s))
    case first =>
      go_wp2
      go_loopw [15] (fun sv ws => ∃ (s q : Nat), sv = .int .i64 s ∧ s ≤ la.length - p ∧ s ≤ lb.length - p ∧ ws = w4.drewN q ∧ Hid (∀ t, t < s → M (la.length - 1 - t) (lb.length - 1 - t) = true)) (fun sv _ => la.length - (intOf sv).toNat)
      case atStart => exact ⟨0, q, rfl, by omega, by omega, rfl, fun t ht => by omega⟩
      case round =>
        obtain ⟨s, q', rfl, hs1, hs2, rfl, hmt⟩ := hrel
        obtain ⟨ia, hia⟩ : ∃ ia : Nat, ia = la.length - 1 - s := ⟨_, rfl⟩
        obtain ⟨ib, hib⟩ : ∃ ib : Nat, ib = lb.length - 1 - s := ⟨_, rfl⟩
        have hexit : (∃ k1 n1 k2 n2 : Int, s < la.length - p ∧ s < lb.length - p ∧ la[ia]? = some (k1, n1) ∧ lb[ib]? = some (k2, n2)) ∨ (s < la.length - p ∧ ¬ s < lb.length - p) ∨ ¬ s < la.length - p := by
          by_cases h1 : s < la.length - p
          · by_cases h2 : s < lb.length - p
            · exact .inl ⟨_, _, _, _, h1, h2, List.getElem?_eq_getElem (by omega), List.getElem?_eq_getElem (by omega)⟩
            · exact .inr (.inl ⟨h1, h2⟩)
          · exact .inr (.inr h1)
        rcases hexit with ⟨k1, n1, k2, n2, hxn, hym, hpa, hqb⟩ | ⟨hxn, hym⟩ | hxn
        · have hixa : ∀ w, (Instr.indexAt 22 (.slice ao la.length ca) (.int .i64 ((la.length : Int) - 1 - s))).run Try.prog w = .ok (.pointer (some ⟨ba, oa + ia * 2, none⟩)) w := by
            have e : (la.length : Int) - 1 - s = (ia : Int) := by omega
            rw [e]; exact HAB.out.1.addr 22 slice22 size34 ia (by omega) ca
          have hixb : ∀ w, (Instr.indexAt 22 (.slice bo lb.length cb) (.int .i64 ((lb.length : Int) - 1 - s))).run Try.prog w = .ok (.pointer (some ⟨bb, ob + ib * 2, none⟩)) w := by
            have e : (lb.length : Int) - 1 - s = (ib : Int) := by omega
            rw [e]; exact HAB.out.2.addr 22 slice22 size34 ib (by omega) cb
          obtain ⟨a1, a2⟩ := (HAB.out.1 (by omega)).2 ia _ hpa
          obtain ⟨b1, b2⟩ := (HAB.out.2 (by omega)).2 ib _ hqb
          have HMd : Hid (M (la.length - 1 - s) (lb.length - 1 - s) = decide ((k1, n1) = (k2, n2))) := by unfold Hid; rw [HMD.out, ← hia, ← hib]; unfold My.Mof; rw [hpa, hqb]
          clear hpa hqb hia hib
          have ix : (s : Int) < (la.length : Int) - p := by omega
          have iy : (s : Int) < (lb.length : Int) - p := by omega
          by_cases heq : k1 = k2 ∧ n1 = n2
          · obtain ⟨rfl, rfl⟩ := heq
            have HS : Hid (∀ t, t < s + 1 → M (la.length - 1 - t) (lb.length - 1 - t) = true) := fun t ht => by
              by_cases e : t = s
              · subst e; rw [HMd.out]; simp
              · exact hmt.out t (by omega)
            clear HMd hmt
            go_wp2
            go_quiet (fail)
            go_wp2
            go_roundw
            case rel => exact ⟨s + 1, _, by go_num, by omega, by omega, rfl, HS⟩
            case measure => simp [intOf]; omega
          · have hcs : (k1 == k2) = false ∨ ((k1 == k2) = true ∧ (n1 == n2) = false) := by
              by_cases e : k1 = k2
              · exact .inr ⟨by simpa using e, by simpa using fun h => heq ⟨e, h⟩⟩
              · exact .inl (by simpa using e)
            have HF : Hid (My.IsPost M la.length lb.length p s) := ⟨hs1, hs2, hmt.out, fun _ _ => by rw [HMd.out]; simp only [Prod.mk.injEq, heq, decide_false]⟩
            clear HMd hmt heq
            rcases hcs with e1 | ⟨e1, e2⟩
            all_goals
              go_wp2
              go_quiet (fail)
              go_wp2
              go_meet
              case rel => exact ⟨s, _, rfl, hs1, hs2, World.drewN_drewN w4 q' nq, HF⟩
        · have HF : Hid (My.IsPost M la.length lb.length p s) := ⟨hs1, hs2, hmt.out, fun _ h => by omega⟩
          have ix : (s : Int) < (la.length : Int) - p := by omega
          have dy : decide ((s : Int) < (lb.length : Int) - p) = false := decide_eq_false (by omega)
          clear hmt hia hib
          go_wp2
          go_quiet (fail)
          go_wp2
          go_meet
          case rel => exact ⟨s, _, rfl, hs1, hs2, World.drewN_drewN w4 q' nq, HF⟩
        · have HF : Hid (My.IsPost M la.length lb.length p s) := ⟨hs1, hs2, hmt.out, fun h => by omega⟩
          have dx : decide ((s : Int) < (la.length : Int) - p) = false := decide_eq_false (by omega)
          clear hmt hia hib
          go_wp2
          go_quiet (fail)
          go_wp2
          go_meet
          case rel => exact ⟨s, _, rfl, hs1, hs2, World.drewN_drewN w4 q' nq, HF⟩
    case rest =>
      obtain ⟨s, q', rfl, hs1, hs2, rfl, hpost⟩ := hcut
      obtain ⟨p', s', hp', hs', -, hcase⟩ := HDS.out
      obtain rfl : p = p' := My.pre_unique (M := M) hpre.out (by rw [HMD.out]; exact hp')
      obtain rfl : s = s' := My.post_unique (M := M) hpost.out (by rw [HMD.out]; exact hs')
      clear hp' hs'
      rcases hcase with ⟨hE, hwk, hco⟩ | ⟨hE, hwk, hkp⟩
      · obtain rfl : fb = true := by rw [← HFB.out]; exact decide_eq_true (by rw [← HEL.out]; exact hE)
        have HW : Hid (My.Walk (My.Mof la lb) la.length lb.length es 0 0 ∧ My.keeps es = lv) := ⟨hwk, by rw [← HLV.out]; exact My.walk_keeps hwk hco⟩
        clear hE hwk hco
        go_wp2
        go_loopw [16, 17, 18, 19, 20] (fun av bv kv sv tv ws => ∃ (t q : Nat) (x y kp : Int) (sb : Bool), t ≤ es.length ∧ tv = .int .i64 t ∧ av = .int .i64 x ∧ bv = .int .i64 y ∧ kv = .int .i64 kp ∧ sv = .bool sb ∧ 0 ≤ x ∧ x ≤ la.length ∧ 0 ≤ y ∧ y ≤ lb.length ∧ 0 ≤ kp ∧ kp ≤ lv ∧ ws = w4.drewN q ∧ Hid (My.Walk (My.Mof la lb) la.length lb.length (es.drop t) x y ∧ kp + My.keeps (es.drop t) = lv)) (fun _ _ _ _ tv _ => es.length - (intOf tv).toNat)
        case atStart => exact ⟨0, q', 0, 0, 0, false, by omega, rfl, rfl, rfl, rfl, rfl, by omega, by omega, by omega, by omega, by omega, hlb0, rfl, HW.out.1, by rw [List.drop_zero, HW.out.2]; omega⟩
        case round =>
          obtain ⟨t, q, x, y, kp, sb, ht, rfl, rfl, rfl, rfl, rfl, hx0, hx1, hy0, hy1, hk0, hk1, rfl, hst⟩ := hrel
          by_cases hlt : t < es.length
          · obtain ⟨⟨op, i, j⟩, he⟩ : ∃ e, es[t]? = some e := ⟨_, List.getElem?_eq_getElem hlt⟩
            have hdr := drop_at he
            obtain ⟨r1, r2, r3⟩ := HR.out
            have ix1 := r1.addr 24 slice24 size5 t hlt es.length
            have ix2 := r2.addr 28 slice28 size3 t hlt es.length
            have ix3 := r3.addr 28 slice28 size3 t hlt es.length
            have c1 := (r1 (by omega)).2.2 t hlt
            have c2 := (r2 (by omega)).2.2 t hlt
            have c3 := (r3 (by omega)).2.2 t hlt
            rw [opsTo_at hlt he] at c1
            rw [isTo_at hlt he] at c2
            rw [jsTo_at hlt he] at c3
            obtain ⟨hw, hkk⟩ := hst.out
            rw [hdr] at hw hkk
            have hcn := My.count_nonneg (es.drop (t + 1))
            obtain ⟨rfl, rfl, hw⟩ := hw
            rcases hw with ⟨rfl, hxn, hym, hmt, hw⟩ | ⟨rfl, hxn, hw⟩ | ⟨rfl, hym, hw⟩
            · obtain ⟨⟨k1, n1⟩, hpa⟩ : ∃ p, la[i.toNat]? = some p := ⟨_, List.getElem?_eq_getElem (by omega)⟩
              obtain ⟨⟨k2, n2⟩, hqb⟩ : ∃ p, lb[j.toNat]? = some p := ⟨_, List.getElem?_eq_getElem (by omega)⟩
              have hixa := HAB.out.1.addrI 22 slice22 size34 i hx0 hxn ca
              have hixb := HAB.out.2.addrI 22 slice22 size34 j hy0 hym cb
              obtain ⟨a1, a2⟩ := (HAB.out.1 (by omega)).2 i.toNat _ hpa
              obtain ⟨b1, b2⟩ := (HAB.out.2 (by omega)).2 j.toNat _ hqb
              obtain ⟨rfl, rfl⟩ : k1 = k2 ∧ n1 = n2 := by
                unfold My.Mof at hmt
                rw [hpa, hqb] at hmt
                simpa using hmt
              have dx : decide ((la.length : Int) ≤ i) = false := decide_eq_false (by omega)
              have dy : decide ((lb.length : Int) ≤ j) = false := decide_eq_false (by omega)
              have hkk' : kp + 1 + My.keeps (es.drop (t + 1)) = lv := by simp only [My.keeps, if_true] at hkk; omega
              have RS : Hid (My.Walk (My.Mof la lb) la.length lb.length (es.drop (t + 1)) (i + 1) (j + 1) ∧ kp + 1 + My.keeps (es.drop (t + 1)) = lv) := ⟨hw, hkk'⟩
              have hkb : kp + 1 ≤ lv := by omega
              clear hw hkk hkk' hdr hst r1 r2 r3 he hcn hpa hqb hmt
              go_wp2
              go_quiet (fail)
              go_wp2
              go_roundw
              case rel => exact ⟨t + 1, _, i + 1, j + 1, kp + 1, sb, by omega, by go_num, rfl, rfl, rfl, rfl, by omega, by omega, by omega, by omega, by omega, by omega, rfl, RS⟩
              case measure => simp [intOf]; omega
            · have RS : Hid (My.Walk (My.Mof la lb) la.length lb.length (es.drop (t + 1)) (i + 1) j ∧ kp + My.keeps (es.drop (t + 1)) = lv) := ⟨hw, by simpa [My.keeps] using hkk⟩
              clear hw hkk hdr hst r1 r2 r3 he hcn
              go_wp2
              go_roundw
              case rel => exact ⟨t + 1, q, i + 1, j, kp, sb, by omega, by go_num, rfl, rfl, rfl, rfl, by omega, by omega, by omega, by omega, by omega, by omega, rfl, RS⟩
              case measure => simp [intOf]; omega
            · have RS : Hid (My.Walk (My.Mof la lb) la.length lb.length (es.drop (t + 1)) i (j + 1) ∧ kp + My.keeps (es.drop (t + 1)) = lv) := ⟨hw, by simpa [My.keeps] using hkk⟩
              clear hw hkk hdr hst r1 r2 r3 he hcn
              go_wp2
              go_roundw
              case rel => exact ⟨t + 1, q, i, j + 1, kp, true, by omega, by go_num, rfl, rfl, rfl, rfl, by omega, by omega, by omega, by omega, by omega, by omega, rfl, RS⟩
              case measure => simp [intOf]; omega
          · obtain rfl : t = es.length := by omega
            obtain ⟨hw, hkk⟩ := hst.out
            rw [List.drop_length] at hw hkk
            obtain ⟨rfl, rfl⟩ := hw
            have hkv : (kp == lv) = true := by
              have : kp = lv := by simpa [My.keeps] using hkk
              simpa using this
            clear hkk hst
            go_wp2
            go_ret
            exact ⟨rfl, hb14.trans ⟨rfl, rfl, rfl, Nat.le_refl _, fun _ _ => rfl⟩⟩
      · obtain rfl : fb = false := by rw [← HFB.out]; exact decide_eq_false (by rw [← HEL.out]; omega)
        have HW : Hid (My.Walk2 (My.Mof la lb) la.length lb.length p s es.length es 0 0 0 false ∧ My.keeps es = p + s) := ⟨hwk, hkp⟩
        have hse : p + s ≤ es.length := by have := My.count_nonneg es; omega
        clear hE hwk hkp
        go_wp2
        go_loopw [16, 17, 18, 19, 20] (fun av bv kv sv tv ws => ∃ (t q : Nat) (x y kp : Int) (sb : Bool), t ≤ es.length ∧ tv = .int .i64 t ∧ av = .int .i64 x ∧ bv = .int .i64 y ∧ kv = .int .i64 kp ∧ sv = .bool sb ∧ 0 ≤ x ∧ x ≤ la.length ∧ 0 ≤ y ∧ y ≤ lb.length ∧ 0 ≤ kp ∧ kp ≤ (p : Int) + s ∧ ws = w4.drewN q ∧ Hid (My.Walk2 (My.Mof la lb) la.length lb.length p s es.length (es.drop t) t x y sb ∧ kp + My.keeps (es.drop t) = p + s)) (fun _ _ _ _ tv _ => es.length - (intOf tv).toNat)
        case atStart => exact ⟨0, q', 0, 0, 0, false, by omega, rfl, rfl, rfl, rfl, rfl, by omega, by omega, by omega, by omega, by omega, by omega, rfl, HW.out.1, by rw [List.drop_zero, HW.out.2]; omega⟩
        case round =>
          obtain ⟨t, q, x, y, kp, sb, ht, rfl, rfl, rfl, rfl, rfl, hx0, hx1, hy0, hy1, hk0, hk1, rfl, hst⟩ := hrel
          by_cases hlt : t < es.length
          · obtain ⟨⟨op, i, j⟩, he⟩ : ∃ e, es[t]? = some e := ⟨_, List.getElem?_eq_getElem hlt⟩
            have hdr := drop_at he
            obtain ⟨r1, r2, r3⟩ := HR.out
            have ix1 := r1.addr 24 slice24 size5 t hlt es.length
            have ix2 := r2.addr 28 slice28 size3 t hlt es.length
            have ix3 := r3.addr 28 slice28 size3 t hlt es.length
            have c1 := (r1 (by omega)).2.2 t hlt
            have c2 := (r2 (by omega)).2.2 t hlt
            have c3 := (r3 (by omega)).2.2 t hlt
            rw [opsTo_at hlt he] at c1
            rw [isTo_at hlt he] at c2
            rw [jsTo_at hlt he] at c3
            obtain ⟨hw, hkk⟩ := hst.out
            rw [hdr] at hw hkk
            have hcn := My.count_nonneg (es.drop (t + 1))
            rcases hw with ⟨rfl, rfl, rfl, hxn, hym, hmt, hbt, hw⟩ | ⟨rfl, rfl, rfl, hxn, rfl, hw⟩ | ⟨rfl, rfl, rfl, hym, hw⟩
            · obtain ⟨⟨k1, n1⟩, hpa⟩ : ∃ p, la[i.toNat]? = some p := ⟨_, List.getElem?_eq_getElem (by omega)⟩
              obtain ⟨⟨k2, n2⟩, hqb⟩ : ∃ p, lb[j.toNat]? = some p := ⟨_, List.getElem?_eq_getElem (by omega)⟩
              have hixa := HAB.out.1.addrI 22 slice22 size34 i hx0 hxn ca
              have hixb := HAB.out.2.addrI 22 slice22 size34 j hy0 hym cb
              obtain ⟨a1, a2⟩ := (HAB.out.1 (by omega)).2 i.toNat _ hpa
              obtain ⟨b1, b2⟩ := (HAB.out.2 (by omega)).2 j.toNat _ hqb
              obtain ⟨rfl, rfl⟩ : k1 = k2 ∧ n1 = n2 := by
                unfold My.Mof at hmt
                rw [hpa, hqb] at hmt
                simpa using hmt
              have dx : decide ((la.length : Int) ≤ i) = false := decide_eq_false (by omega)
              have dy : decide ((lb.length : Int) ≤ j) = false := decide_eq_false (by omega)
              have hkk' : kp + 1 + My.keeps (es.drop (t + 1)) = p + s := by simp only [My.keeps, if_true] at hkk; omega
              have RS : Hid (My.Walk2 (My.Mof la lb) la.length lb.length p s es.length (es.drop (t + 1)) (t + 1) (i + 1) (j + 1) sb ∧ kp + 1 + My.keeps (es.drop (t + 1)) = p + s) := ⟨hw, hkk'⟩
              have hkb : kp + 1 ≤ (p : Int) + s := by omega
              clear hw hkk hkk' hdr hst r1 r2 r3 he hcn hpa hqb hmt
              have hbt' : (t : Int) < p ∨ (es.length : Int) - s ≤ t := by omega
              clear hbt
              rcases hbt' with hbt | hbt
              all_goals
                go_wp2
                go_quiet (fail)
                go_wp2
                go_roundw
                case rel => exact ⟨t + 1, _, i + 1, j + 1, kp + 1, sb, by omega, by go_num, rfl, rfl, rfl, rfl, by omega, by omega, by omega, by omega, by omega, by omega, rfl, RS⟩
                case measure => simp [intOf]; omega
            · have RS : Hid (My.Walk2 (My.Mof la lb) la.length lb.length p s es.length (es.drop (t + 1)) (t + 1) (i + 1) j false ∧ kp + My.keeps (es.drop (t + 1)) = p + s) := ⟨hw, by simpa [My.keeps] using hkk⟩
              clear hw hkk hdr hst r1 r2 r3 he hcn
              go_wp2
              go_roundw
              case rel => exact ⟨t + 1, q, i + 1, j, kp, false, by omega, by go_num, rfl, rfl, rfl, rfl, by omega, by omega, by omega, by omega, by omega, by omega, rfl, RS⟩
              case measure => simp [intOf]; omega
            · have RS : Hid (My.Walk2 (My.Mof la lb) la.length lb.length p s es.length (es.drop (t + 1)) (t + 1) x (j + 1) true ∧ kp + My.keeps (es.drop (t + 1)) = p + s) := ⟨hw, by simpa [My.keeps] using hkk⟩
              clear hw hkk hdr hst r1 r2 r3 he hcn
              go_wp2
              go_roundw
              case rel => exact ⟨t + 1, q, x, j + 1, kp, true, by omega, by go_num, rfl, rfl, rfl, rfl, by omega, by omega, by omega, by omega, by omega, by omega, rfl, RS⟩
              case measure => simp [intOf]; omega
          · obtain rfl : t = es.length := by omega
            obtain ⟨hw, hkk⟩ := hst.out
            rw [List.drop_length] at hw hkk
            obtain ⟨rfl, rfl⟩ := hw
            have hkv : (kp == (p : Int) + s) = true := by
              have : kp = (p : Int) + s := by simpa [My.keeps] using hkk
              simpa using this
            clear hkk hst
            go_wp2
            go_ret
            exact ⟨rfl, hb14.trans ⟨rfl, rfl, rfl, Nat.le_refl _, fun _ _ => rfl⟩⟩

end Go.Proofs.Qxb6602440a
