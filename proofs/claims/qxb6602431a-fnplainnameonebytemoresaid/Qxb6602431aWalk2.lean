/-
  The walk of 'FnPlainNameOneByteMore' (4) out of the contracts of Qxb6602431aWalk1.
-/
import Derived.Test.Qxb6602431aWalk1
import Derived.OpenShut
namespace Go.Proofs.Qxb6602431a
open Go.RowKit

set_option maxHeartbeats 400000 in
theorem top_big (s : ByteArray) (c : Int) (hs : s.size ≤ maxLen) (h : 1048576 < s.size) (w : World) :
    Calls Try.prog 4 #[.string s, .int .u8 c] w fun e w' => e = .returned (.bool true) ∧ Below w.heap.size w w' := by
  go_enter Try.func4, Try.ntmps4
  go_wp2_with (go_at_call 7; refine (bytes_big s c hs h _).mono ?_; rintro e w' ⟨rfl, rfl⟩)
  go_ret
  exact ⟨rfl, Below.refl _ _⟩

theorem snoc_any (s : ByteArray) (b : UInt8) (h : s.size ≤ 1048576) (w : World) :
    Calls Try.prog 6 #[.string (s ++ ⟨#[b]⟩)] w fun e w' => e = .returned (.bool (Pl.plain (s.data.toList ++ [b]))) ∧ Below w.heap.size w w' := by
  have e1 : (s ++ ⟨#[b]⟩ : ByteArray).data.toList = s.data.toList ++ [b] := by simp
  have := zzplain_any (s ++ ⟨#[b]⟩) w (by
    have : (s ++ ⟨#[b]⟩ : ByteArray).size = s.size + 1 := by rw [ByteArray.size_append]; rfl
    rw [this]; unfold maxLen; omega)
  rw [e1] at this
  exact this
theorem cons_any (s : ByteArray) (b : UInt8) (h : s.size ≤ 1048576) (w : World) :
    Calls Try.prog 6 #[.string (⟨#[b]⟩ ++ s)] w fun e w' => e = .returned (.bool (Pl.plain (b :: s.data.toList))) ∧ Below w.heap.size w w' := by
  have e1 : (⟨#[b]⟩ ++ s : ByteArray).data.toList = b :: s.data.toList := by simp
  have := zzplain_any (⟨#[b]⟩ ++ s) w (by
    have : (⟨#[b]⟩ ++ s : ByteArray).size = 1 + s.size := by rw [ByteArray.size_append]; rfl
    rw [this]; unfold maxLen; omega)
  rw [e1] at this
  exact this

theorem below3 {w w1 w2 w3 : World} {o : Obj} (h1 : Below (w.alloc o).heap.size (w.alloc o) w1) (h2 : Below w1.heap.size w1 w2) (h3 : Below w2.heap.size w2 w3) : Below w.heap.size w w3 := by
  have h0 : Below w.heap.size w (w.alloc o) := (Below.refl _ _).alloc (Nat.le_refl _) _
  have s0 := h0.size
  have s1 := h1.size
  have s2 := h2.size
  exact ((h0.trans (h1.mono s0)).trans (h2.mono (Nat.le_trans s0 s1))).trans (h3.mono (Nat.le_trans s0 (Nat.le_trans s1 s2)))

set_option maxHeartbeats 1600000 in
theorem top_core (s : ByteArray) (b : UInt8) (h : s.size ≤ 1048576) (w : World) (k : Int) (p0 p1 p2 em : Bool)
    (hk : Hid (Pl.cls (b.toNat : Int) = k)) (h0 : Hid (Pl.plain s.data.toList = p0)) (h1 : Hid (Pl.plain (s.data.toList ++ [b]) = p1)) (h2 : Hid (Pl.plain (b :: s.data.toList) = p2)) (hem : s.toList.isEmpty = em)
    (hc : k = 0 ∨ k = 1 ∨ k = 2) (l1 : p1 = ((p0 && decide (1 ≤ k)) || (em && (k == 2)))) (l2 : k ≠ 2 → p2 = false) :
    Calls Try.prog 4 #[.string s, .int .u8 (b.toNat : Int)] w fun e w' => e = .returned (.bool true) ∧ Below w.heap.size w w' := by
  have hcb := run_convert_bytes_back (P := Try.prog) (w.alloc (.cells #[.int .u8 (b.toNat : Int)] 5)) 25 9 5 ⟨w.heap.size, 0, none⟩ 1 [b] Try.underlying25 Try.underlying5 Try.underlying9 (by
    intro j hj
    simp at hj
    subst hj
    simp [Addr.add])
  simp at hcb
  have hm : s.size ≤ maxLen := by unfold maxLen; omega
  rcases hc with rfl | rfl | rfl
  case inr.inr =>
    cases p0 <;> cases em
    all_goals
      simp at l1 l2
      subst l1
      go_enter Try.func4, Try.ntmps4
      go_wp2_with (go_at_call 7; refine (bytes_small s _ h _).mono ?_; rintro e w' ⟨rfl, rfl⟩)
      refine (class_any _ _).mono ?_
      rintro e w1 ⟨rfl, rfl⟩
      rw [hk.out]
      go_wp2_with fail
      refine (zzplain_any _ _ hm).mono ?_
      rintro e w1 ⟨rfl, hb1⟩
      rw [h0.out]
      go_wp2_with fail
      refine (snoc_any _ _ h _).mono ?_
      rintro e w2 ⟨rfl, hb2⟩
      rw [h1.out]
      go_wp2_with fail
      go_ret
      exact ⟨rfl, below3 hb1 hb2 (Below.refl _ _)⟩
  all_goals
    cases p0 <;> cases em
    all_goals
      simp at l1 l2
      subst l1
      subst l2
      go_enter Try.func4, Try.ntmps4
      go_wp2_with (go_at_call 7; refine (bytes_small s _ h _).mono ?_; rintro e w' ⟨rfl, rfl⟩)
      refine (class_any _ _).mono ?_
      rintro e w1 ⟨rfl, rfl⟩
      rw [hk.out]
      go_wp2_with fail
      refine (zzplain_any _ _ hm).mono ?_
      rintro e w1 ⟨rfl, hb1⟩
      rw [h0.out]
      go_wp2_with fail
      refine (snoc_any _ _ h _).mono ?_
      rintro e w2 ⟨rfl, hb2⟩
      rw [h1.out]
      go_wp2_with fail
      refine (cons_any _ _ h _).mono ?_
      rintro e w3 ⟨rfl, hb3⟩
      rw [h2.out]
      go_wp2_with fail
      go_ret
      exact ⟨rfl, below3 hb1 hb2 hb3⟩

theorem top_any (s : ByteArray) (c : Int) (hs : s.size ≤ maxLen) (hc : (Lit.int .u8 c).wf = true) (w : World) :
    Calls Try.prog 4 #[.string s, .int .u8 c] w fun e w' => e = .returned (.bool true) ∧ Below w.heap.size w w' := by
  by_cases h : s.size ≤ 1048576
  · have hb := bounds_u8 hc
    obtain ⟨b, rfl⟩ : ∃ b : UInt8, c = (b.toNat : Int) := ⟨UInt8.ofNat c.toNat, by simp; omega⟩
    refine top_core s b h w _ _ _ _ _ rfl rfl rfl rfl rfl ?_ ?_ ?_
    · rcases Pl.cls_cases (b.toNat : Int) with ⟨e, _⟩ | ⟨e, _⟩ | ⟨e, _⟩ <;> simp [e]
    · rw [toList_data]; exact Pl.plain_snoc _ _
    · exact Pl.plain_cons _ _
  · exact top_big s c hs (by omega) w

end Go.Proofs.Qxb6602431a
