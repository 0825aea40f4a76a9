/-
  The walks of the small functions under 'FnPlainNameOneByteMore': zzBytes (7), zzByteClass (8), plainName (9), ZZplainName (6).
-/
import Derived.Test.Qxb6602431aRows
import Derived.Test.Qxb6602431aPlainLaw
import Derived.WalkKit
import Derived.WalkSpells
import Derived.Lib.ConvBytes
import Derived.Lib.AtoiErrMem
namespace Go.Proofs.Qxb6602431a
open Go.RowKit

set_option maxHeartbeats 400000 in
theorem bytes_big (s : ByteArray) (c : Int) (hs : s.size ≤ maxLen) (h : 1048576 < s.size) (w : World) :
    Calls Try.prog 7 #[.string s, .int .u8 c] w fun e w' => e = .returned (.bool false) ∧ w' = w := by
  unfold maxLen at hs
  go_enter Try.func7, Try.ntmps7
  go_wp2
  go_ret
  exact ⟨rfl, rfl⟩

set_option maxHeartbeats 400000 in
theorem bytes_small (s : ByteArray) (c : Int) (h : s.size ≤ 1048576) (w : World) :
    Calls Try.prog 7 #[.string s, .int .u8 c] w fun e w' => e = .returned (.bool true) ∧ w' = w := by
  go_enter Try.func7, Try.ntmps7
  go_wp2
  go_ret
  exact ⟨rfl, rfl⟩

theorem ret_int {k : IntKind} {a b : Int} (h : a = b) : Ending.returned (.int k a) = .returned (.int k b) := by rw [h]

theorem cls1 {c : Int} (h : 48 ≤ c ∧ c ≤ 57) : 1 = Pl.cls c := by simp [Pl.cls, Pl.digit, h]
theorem cls2 {c : Int} (_h1 : ¬ (48 ≤ c ∧ c ≤ 57)) (_h2 : (97 ≤ c ∧ c ≤ 122) ∨ (65 ≤ c ∧ c ≤ 90) ∨ c = 95) : 2 = Pl.cls c := by
  have hd : Pl.digit c = false := by simp [Pl.digit]; omega
  have hl : Pl.letter c = true := by simp [Pl.letter]; omega
  simp [Pl.cls, hd, hl]
theorem cls0 {c : Int} (_h1 : ¬ (48 ≤ c ∧ c ≤ 57)) (_h2 : ¬ ((97 ≤ c ∧ c ≤ 122) ∨ (65 ≤ c ∧ c ≤ 90) ∨ c = 95)) : 0 = Pl.cls c := by
  have hd : Pl.digit c = false := by simp [Pl.digit]; omega
  have hl : Pl.letter c = false := by simp [Pl.letter]; omega
  simp [Pl.cls, hd, hl]

set_option maxHeartbeats 400000 in
theorem class_any (c : Int) (w : World) :
    Calls Try.prog 8 #[.int .u8 c] w fun e w' => e = .returned (.int .i64 (Pl.cls c)) ∧ w' = w := by
  by_cases hc : c = 95
  · subst hc
    go_enter Try.func8, Try.ntmps8
    go_wp2
    go_ret
    exact ⟨rfl, rfl⟩
  have h95 : (c == 95) = false := by simpa using hc
  go_enter Try.func8, Try.ntmps8
  go_wp2
  all_goals
    go_ret
    exact ⟨ret_int (by first | exact cls1 (by omega) | exact cls2 (by omega) (by omega) | exact cls0 (by omega) (by omega)), rfl⟩

theorem getD_at (s : ByteArray) (j : Nat) (hj : j < s.data.toList.length) : s.data.toList.getD j 0 = s.data.toList[j] := by
  simp [List.getD, List.getElem?_eq_getElem hj]

theorem toList_data (s : ByteArray) : s.toList = s.data.toList := ByteArray.toList_eq s

/-- One byte of plainName's loop, decided ahead: the tests as the walk meets them. -/
theorem ok_split {k : Nat} {c : Int} (h : Pl.okAt k c = true) : c = 95 ∨ (97 ≤ c ∧ c ≤ 122) ∨ (65 ≤ c ∧ c ≤ 90) ∨ (0 < k ∧ 48 ≤ c ∧ c ≤ 57) := by
  simp [Pl.okAt, Pl.letter, Pl.digit] at h
  omega
theorem ok_none {k : Nat} {c : Int} (h : Pl.okAt k c = false) : ¬ (c = 95 ∨ (97 ≤ c ∧ c ≤ 122) ∨ (65 ≤ c ∧ c ≤ 90) ∨ (0 < k ∧ 48 ≤ c ∧ c ≤ 57)) := by
  simp [Pl.okAt, Pl.letter, Pl.digit] at h
  omega

set_option maxHeartbeats 1000000 in
theorem plain_any (s : ByteArray) (w : World) (hs : s.size ≤ maxLen) :
    Calls Try.prog 9 #[.string s] w fun e w' => e = .returned (.bool (Pl.plain s.data.toList)) ∧ Below w.heap.size w w' := by
  unfold maxLen at hs
  have hL : s.data.toList.length = s.size := by simp
  have hcv := Lib.run_convert_string_bytes (P := Try.prog) w 9 25 5 s (u := .string) Try.underlying9 Try.underlying25 Try.underlying5
  have hb := Lib.bytesWorld_below w 5 s
  have hcell : ∀ j, j < s.size → (Lib.bytesWorld w 5 s).cell? ⟨w.heap.size, j, none⟩ = some (.int .u8 (s.data.toList.getD j 0).toNat) := fun j hj => Lib.bytesWorld_cell w 5 s j hj
  generalize Lib.bytesWorld w 5 s = W1 at hcv hb hcell
  go_enter Try.func9, Try.ntmps9
  go_wp2
  go_loop [8] (fun i => ∃ k : Nat, k ≤ s.size ∧ i = .int .i64 k ∧ Hid (∀ j, j < k → Pl.okAt j ((s.data.toList.getD j 0).toNat : Int) = true)) (fun i => s.size - (intOf i).toNat)
  case atStart => exact ⟨0, Nat.zero_le _, rfl, fun j hj => absurd hj (Nat.not_lt_zero j)⟩
  case round =>
    obtain ⟨k, hk, rfl, hok⟩ := hrel
    by_cases hlt : k < s.size
    · have hck := hcell k hlt
      obtain ⟨c, hc⟩ : ∃ c : Int, c = ((s.data.toList.getD k 0).toNat : Int) := ⟨_, rfl⟩
      rw [← hc] at hck
      have HC : Hid (c = ((s.data.toList.getD k 0).toNat : Int)) := hc
      clear hc hcell
      cases ho : Pl.okAt k c with
      | true =>
        have Hgo : Hid (∀ j, j < k + 1 → Pl.okAt j ((s.data.toList.getD j 0).toNat : Int) = true) := by
          intro j hj
          by_cases e : j = k
          · subst e; rw [← HC.out]; exact ho
          · exact hok.out j (by omega)
        have hsp := ok_split ho
        clear ho hok HC
        rcases hsp with h | h | h | h
        · subst h
          go_wp2
          go_round
          case rel => exact ⟨k + 1, by omega, by go_num, Hgo⟩
          case measure => simp [intOf]; omega
        · obtain ⟨h1, h2⟩ := h
          have h95 : (c == 95) = false := by simp; omega
          go_wp2
          go_round
          case rel => exact ⟨k + 1, by omega, by go_num, Hgo⟩
          case measure => simp [intOf]; omega
        · obtain ⟨h1, h2⟩ := h
          have h95 : (c == 95) = false := by simp; omega
          go_wp2
          go_round
          case rel => exact ⟨k + 1, by omega, by go_num, Hgo⟩
          case measure => simp [intOf]; omega
        · obtain ⟨h0, h1, h2⟩ := h
          have h95 : (c == 95) = false := by simp; omega
          go_wp2
          go_round
          case rel => exact ⟨k + 1, by omega, by go_num, Hgo⟩
          case measure => simp [intOf]; omega
      | false =>
        have Hbad : Hid (Pl.plain s.data.toList = false) := by
          have hkl : k < s.data.toList.length := by omega
          have := Pl.okFrom_bad s.data.toList 0 k hkl (by rw [Nat.zero_add, ← getD_at s k hkl, ← HC.out]; exact ho)
          unfold Hid Pl.plain
          rw [this]; rfl
        have hsp := ok_none ho
        clear ho hok HC
        have h95 : (c == 95) = false := by simp; omega
        have hcs : c < 48 ∨ (k = 0 ∧ 48 ≤ c ∧ c ≤ 57) ∨ (57 < c ∧ c < 65) ∨ (90 < c ∧ c < 97) ∨ 122 < c := by omega
        clear hsp
        rcases hcs with h | ⟨rfl, h1, h2⟩ | ⟨h1, h2⟩ | ⟨h1, h2⟩ | h
        · by_cases hk0 : 0 < k
          all_goals
            go_wp2
            go_ret
            exact ⟨by rw [Hbad.out]; rfl, hb⟩
        · go_wp2
          go_ret
          exact ⟨by rw [Hbad.out]; rfl, hb⟩
        · have d57 : decide (c ≤ 57) = false := decide_eq_false (by omega)
          by_cases hk0 : 0 < k
          all_goals
            go_wp2
            go_ret
            exact ⟨by rw [Hbad.out]; rfl, hb⟩
        · have d57 : decide (c ≤ 57) = false := decide_eq_false (by omega)
          have d90 : decide (c ≤ 90) = false := decide_eq_false (by omega)
          by_cases hk0 : 0 < k
          all_goals
            go_wp2
            go_ret
            exact ⟨by rw [Hbad.out]; rfl, hb⟩
        · have d57 : decide (c ≤ 57) = false := decide_eq_false (by omega)
          have d90 : decide (c ≤ 90) = false := decide_eq_false (by omega)
          have d122 : decide (c ≤ 122) = false := decide_eq_false (by omega)
          by_cases hk0 : 0 < k
          all_goals
            go_wp2
            go_ret
            exact ⟨by rw [Hbad.out]; rfl, hb⟩
    · have Hend : Hid (Pl.plain s.data.toList = !s.data.toList.isEmpty) := by
        unfold Hid Pl.plain
        rw [Pl.okFrom_all s.data.toList 0 (fun j hj => by rw [Nat.zero_add, ← getD_at s j hj]; exact hok.out j (by omega)), Bool.true_and]
      clear hok hcell
      go_wp2
      go_ret
      refine ⟨?_, hb⟩
      rw [Hend.out, ← toList_data]
      rfl

set_option maxHeartbeats 400000 in
theorem zzplain_any (s : ByteArray) (w : World) (hs : s.size ≤ maxLen) :
    Calls Try.prog 6 #[.string s] w fun e w' => e = .returned (.bool (Pl.plain s.data.toList)) ∧ Below w.heap.size w w' := by
  go_enter Try.func6, Try.ntmps6
  go_wp2_with (go_at_call 9; refine (plain_any s _ hs).mono ?_; rintro e w' ⟨rfl, hb⟩)
  go_ret
  exact ⟨rfl, hb⟩

end Go.Proofs.Qxb6602431a
