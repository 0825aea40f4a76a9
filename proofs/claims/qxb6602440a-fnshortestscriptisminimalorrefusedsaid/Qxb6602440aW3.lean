/-
  FnShortestScriptIsMinimalOrRefused (3).
-/
import Derived.Test.Qxb6602440aW7
import Derived.Test.Qxb6602440aW8
namespace Go.Proofs.Qxb6602440a
open Go.RowKit

set_option maxHeartbeats 400000 in
theorem bytes5_small (ao bo : Option Addr) (n m ca cb : Nat) (w : World) (hn : n ≤ 4096) (hm : m ≤ 4096) :
    Calls Try.prog 5 #[.slice ao n ca, .slice bo m cb] w fun e w' => e = .returned (.bool true) ∧ w' = w := by
  go_enter Try.func5, Try.ntmps5
  go_wp2
  go_ret
  exact ⟨rfl, rfl⟩
set_option maxHeartbeats 400000 in
theorem bytes5_any (ao bo : Option Addr) (n m ca cb : Nat) (w : World) (hn : n ≤ maxLen) (hm : m ≤ maxLen) :
    Calls Try.prog 5 #[.slice ao n ca, .slice bo m cb] w fun e w' => (∃ b, e = .returned (.bool b)) ∧ w' = w := by
  unfold maxLen at hn hm
  go_enter Try.func5, Try.ntmps5
  go_wp2
  all_goals
    go_ret
    exact ⟨⟨_, rfl⟩, rfl⟩

set_option maxRecDepth 100000 in
set_option maxHeartbeats 400000 in
theorem top3_big (ao bo : Option Addr) (n m ca cb : Nat) (w : World) (hn : n ≤ maxLen) (hm : m ≤ maxLen) (h : ¬ (n ≤ 4096 ∧ m ≤ 4096)) :
    Calls Try.prog 3 #[.slice ao n ca, .slice bo m cb] w fun e w' => e = .returned (.bool true) ∧ Below w.heap.size w w' := by
  have hd : (4096 < n) ∨ (n ≤ 4096 ∧ 4096 < m) := by omega
  have hn' := hn
  have hm' := hm
  unfold maxLen at hn' hm'
  rcases hd with hd | ⟨hd, hd'⟩
  all_goals
    go_enter Try.func3, Try.ntmps3
    go_wp2_with fail
    refine (bytes5_any ao bo n m ca cb _ hn hm).mono ?_
    rintro e w' ⟨⟨b, rfl⟩, rfl⟩
    cases b
    all_goals
      go_wp2
      go_ret
      exact ⟨rfl, Below.refl _ _⟩

/-- One more edit of a script is looked at. -/
theorem drop_at {es : List (Int × Int × Int)} {t : Nat} {e : Int × Int × Int} (h : es[t]? = some e) : es.drop t = e :: es.drop (t + 1) := by
  obtain ⟨hlt, rfl⟩ := List.getElem?_eq_some_iff.1 h
  exact List.drop_eq_getElem_cons hlt

set_option maxRecDepth 100000 in
set_option maxHeartbeats 4000000 in
theorem top3_small (la lb : List (Int × Int)) (ba oa bb ob : Nat) (ao bo : Option Addr) (ca cb : Nat) (w : World) (hla : la.length ≤ 4096) (hlb : lb.length ≤ 4096) (hna : ao = none → la = [] ∧ ca = 0) (hnb : bo = none → lb = [] ∧ cb = 0)
    (hA : SymsAt w ba oa ao la) (hB : SymsAt w bb ob bo lb) (hba : 0 < la.length → ba < w.heap.size) (hbb : 0 < lb.length → bb < w.heap.size) :
    Calls Try.prog 3 #[.slice ao la.length ca, .slice bo lb.length cb] w fun e w' => e = .returned (.bool true) ∧ Below w.heap.size w w' := by
  have q24 : ∀ (w : World) (a : Option Addr) (n c n' c' : Nat), (binOp .eql 24 (.slice a n c) (.slice none n' c')).run Try.prog w = .ok (.bool a.isNone) w := fun w a n c n' c' => Lib.run_eql_slice_nil w _ _ a n c n' c' Try.underlying24
  have q28 : ∀ (w : World) (a : Option Addr) (n c n' c' : Nat), (binOp .eql 28 (.slice a n c) (.slice none n' c')).run Try.prog w = .ok (.bool a.isNone) w := fun w a n c n' c' => Lib.run_eql_slice_nil w _ _ a n c n' c' Try.underlying28
  obtain ⟨lv, hlv⟩ : ∃ lv : Int, (My.L (My.Mof la lb) la.length lb.length : Int) = lv := ⟨_, rfl⟩
  have hlb0 : 0 ≤ lv := by omega
  have hlb1 : lv ≤ 4096 := by have := My.L_le (My.Mof la lb) la.length lb.length; omega
  have HLV : Hid ((My.L (My.Mof la lb) la.length lb.length : Int) = lv) := hlv
  have HEL : Hid (My.E (My.Mof la lb) la.length lb.length = la.length + lb.length - 2 * lv) := by unfold Hid My.E; rw [Int.toNat_natCast, Int.toNat_natCast, hlv]
  clear hlv
  go_enter Try.func3, Try.ntmps3
  go_wp2_with fail
  refine (bytes5_small ao bo la.length lb.length ca cb _ hla hlb).mono ?_
  rintro e w' ⟨rfl, rfl⟩
  go_wp2_with fail
  refine (split_any la ba oa ao ca _ hna hla hA hba).mono ?_
  rintro e w1 ⟨vk, vn, rfl, hsa, hb1⟩
  have hB1 : SymsAt w1 bb ob bo lb := fun h => (hB.below (hbb h) hb1) h
  go_wp2_with fail
  refine (split_any lb bb ob bo cb _ hnb hlb hB1 (fun h => Nat.lt_of_lt_of_le (hbb h) hb1.size)).mono ?_
  rintro e w2 ⟨vk', vn', rfl, hsb, hb2⟩
  have hb12 := hb1.trans (hb2.mono hb1.size)
  have hsa' := hsa.below hb2
  clear hB1 hb1 hb2 hsa
  go_wp2_with fail
  refine (zzscript_any la lb vk vn vk' vn' _ hla hlb hsa' hsb).mono ?_
  clear hsa' hsb
  rintro e w3 ⟨hb3, ⟨hE, es, v1, v2, v3, rfl, hwk, hco, h3⟩ | ⟨hE, rfl⟩⟩
  · have hb13 := hb12.trans (hb3.mono hb12.size)
    clear hb3 hb12
    have hL := lcs_any la lb ba oa bb ob ao bo ca cb w3 hla hlb (fun h => (hA.below (hba h) hb13) h) (fun h => (hB.below (hbb h) hb13) h) (fun h => Nat.lt_of_lt_of_le (hba h) hb13.size) (fun h => Nat.lt_of_lt_of_le (hbb h) hb13.size)
    rw [HLV.out] at hL
    have hd : decide ((la.length : Int) + lb.length - 2 * lv ≤ 1024) = true := decide_eq_true (by rw [← HEL.out]; omega)
    have hkp : Hid (My.keeps es = lv) := by unfold Hid; rw [← HLV.out]; exact My.walk_keeps hwk hco
    have hln := script_len hwk hla hlb
    have HW : Hid (My.Walk (My.Mof la lb) la.length lb.length es 0 0) := hwk
    clear hE hco hwk
    go_wp2_with fail
    refine hL.mono ?_
    clear hL
    rintro e w4 ⟨rfl, hb4⟩
    obtain ⟨o1, o2, o3, g1, g2, g3, rfl, rfl, rfl, r1, r2, r3⟩ := h3
    have HR : Hid (OneAt w4 g1 o1 es.length (opsTo es es.length) ∧ OneAt w4 g2 o2 es.length (isTo es es.length) ∧ OneAt w4 g3 o3 es.length (jsTo es es.length)) := ⟨r1.below hb4, r2.below hb4, r3.below hb4⟩
    have hb14 := hb13.trans (hb4.mono hb13.size)
    have HAB : Hid (SymsAt w4 ba oa ao la ∧ SymsAt w4 bb ob bo lb) := ⟨fun h => (hA.below (hba h) hb14) h, fun h => (hB.below (hbb h) hb14) h⟩
    clear r1 r2 r3 hb4 hb13 hA hB q24 q28
    go_wp2
    go_loopw [14, 15, 16, 17] (fun av bv kv tv ws => ∃ (t q : Nat) (x y kp : Int), t ≤ es.length ∧ tv = .int .i64 t ∧ av = .int .i64 x ∧ bv = .int .i64 y ∧ kv = .int .i64 kp ∧ 0 ≤ x ∧ x ≤ la.length ∧ 0 ≤ y ∧ y ≤ lb.length ∧ 0 ≤ kp ∧ kp ≤ lv ∧ ws = w4.drewN q ∧ Hid (My.Walk (My.Mof la lb) la.length lb.length (es.drop t) x y ∧ kp + My.keeps (es.drop t) = lv)) (fun _ _ _ tv _ => es.length - (intOf tv).toNat)
    case atStart => exact ⟨0, 0, 0, 0, 0, by omega, rfl, rfl, rfl, rfl, by omega, by omega, by omega, by omega, by omega, hlb0, rfl, HW.out, by rw [List.drop_zero, hkp.out]; omega⟩
    case round =>
      obtain ⟨t, q, x, y, kp, ht, rfl, rfl, rfl, rfl, hx0, hx1, hy0, hy1, hk0, hk1, rfl, hst⟩ := hrel
      by_cases hlt : t < es.length
      · obtain ⟨⟨op, i, j⟩, he⟩ : ∃ e, es[t]? = some e := ⟨_, List.getElem?_eq_getElem hlt⟩
        have hdr := drop_at he
        obtain ⟨r1, r2, r3⟩ := HR.out
        have ix1 := r1.addr 24 slice24 size5 t hlt es.length
        have ix2 := r2.addr 28 slice28 size3 t hlt es.length
        have ix3 := r3.addr 28 slice28 size3 t hlt es.length
        have c1 := (r1 (by omega)).2.2 t hlt
        have c2 := (r2 (by omega)).2.2 t hlt
        have c3 := (r3 (by omega)).2.2 t hlt
        rw [opsTo_at hlt he] at c1
        rw [isTo_at hlt he] at c2
        rw [jsTo_at hlt he] at c3
        obtain ⟨hw, hkk⟩ := hst.out
        rw [hdr] at hw hkk
        obtain ⟨rfl, rfl, hw⟩ := hw
        have hcn := My.count_nonneg (es.drop (t + 1))
        rcases hw with ⟨rfl, hxn, hym, hmt, hw⟩ | ⟨rfl, hxn, hw⟩ | ⟨rfl, hym, hw⟩
        · obtain ⟨⟨k1, n1⟩, hpa⟩ : ∃ p, la[i.toNat]? = some p := ⟨_, List.getElem?_eq_getElem (by omega)⟩
          obtain ⟨⟨k2, n2⟩, hqb⟩ : ∃ p, lb[j.toNat]? = some p := ⟨_, List.getElem?_eq_getElem (by omega)⟩
          have hixa := HAB.out.1.addrI 22 slice22 size34 i hx0 hxn ca
          have hixb := HAB.out.2.addrI 22 slice22 size34 j hy0 hym cb
          obtain ⟨a1, a2⟩ := (HAB.out.1 (by omega)).2 i.toNat _ hpa
          obtain ⟨b1, b2⟩ := (HAB.out.2 (by omega)).2 j.toNat _ hqb
          obtain ⟨rfl, rfl⟩ : k1 = k2 ∧ n1 = n2 := by
            unfold My.Mof at hmt
            rw [hpa, hqb] at hmt
            simpa using hmt
          have dx : decide ((la.length : Int) ≤ i) = false := decide_eq_false (by omega)
          have dy : decide ((lb.length : Int) ≤ j) = false := decide_eq_false (by omega)
          have hkk' : kp + 1 + My.keeps (es.drop (t + 1)) = lv := by simp only [My.keeps, if_true] at hkk; omega
          have RS : Hid (My.Walk (My.Mof la lb) la.length lb.length (es.drop (t + 1)) (i + 1) (j + 1) ∧ kp + 1 + My.keeps (es.drop (t + 1)) = lv) := ⟨hw, hkk'⟩
          have hkb : kp + 1 ≤ lv := by omega
          clear hw hkk hkk' hdr hst r1 r2 r3 he hcn hpa hqb hmt
          go_wp2
          go_quiet (fail)
          go_wp2
          go_roundw
          case rel => exact ⟨t + 1, _, i + 1, j + 1, kp + 1, by omega, by go_num, rfl, rfl, rfl, by omega, by omega, by omega, by omega, by omega, by omega, rfl, RS⟩
          case measure => simp [intOf]; omega
        · have RS : Hid (My.Walk (My.Mof la lb) la.length lb.length (es.drop (t + 1)) (i + 1) j ∧ kp + My.keeps (es.drop (t + 1)) = lv) := ⟨hw, by simpa [My.keeps] using hkk⟩
          clear hw hkk hdr hst r1 r2 r3 he hcn
          go_wp2
          go_roundw
          case rel => exact ⟨t + 1, q, i + 1, j, kp, by omega, by go_num, rfl, rfl, rfl, by omega, by omega, by omega, by omega, by omega, by omega, rfl, RS⟩
          case measure => simp [intOf]; omega
        · have RS : Hid (My.Walk (My.Mof la lb) la.length lb.length (es.drop (t + 1)) i (j + 1) ∧ kp + My.keeps (es.drop (t + 1)) = lv) := ⟨hw, by simpa [My.keeps] using hkk⟩
          clear hw hkk hdr hst r1 r2 r3 he hcn
          go_wp2
          go_roundw
          case rel => exact ⟨t + 1, q, i, j + 1, kp, by omega, by go_num, rfl, rfl, rfl, by omega, by omega, by omega, by omega, by omega, by omega, rfl, RS⟩
          case measure => simp [intOf]; omega
      · obtain rfl : t = es.length := by omega
        obtain ⟨hw, hkk⟩ := hst.out
        rw [List.drop_length] at hw hkk
        obtain ⟨rfl, rfl⟩ := hw
        have hkv : (kp == lv) = true := by have : kp = lv := by (simp [My.keeps] at hkk; exact hkk)
                                           simpa using this
        clear hkk hst
        go_wp2
        go_ret
        exact ⟨rfl, hb14.trans ⟨rfl, rfl, rfl, Nat.le_refl _, fun _ _ => rfl⟩⟩
  · have hb13 := hb12.trans (hb3.mono hb12.size)
    clear hb3 hb12
    have hL := lcs_any la lb ba oa bb ob ao bo ca cb w3 hla hlb (fun h => (hA.below (hba h) hb13) h) (fun h => (hB.below (hbb h) hb13) h) (fun h => Nat.lt_of_lt_of_le (hba h) hb13.size) (fun h => Nat.lt_of_lt_of_le (hbb h) hb13.size)
    rw [HLV.out] at hL
    have hd : decide ((la.length : Int) + lb.length - 2 * lv ≤ 1024) = false := decide_eq_false (by rw [← HEL.out]; omega)
    clear hE
    go_wp2_with fail
    refine hL.mono ?_
    clear hL
    rintro e w4 ⟨rfl, hb4⟩
    go_wp2
    go_ret
    exact ⟨rfl, hb13.trans (hb4.mono hb13.size)⟩

end Go.Proofs.Qxb6602440a
