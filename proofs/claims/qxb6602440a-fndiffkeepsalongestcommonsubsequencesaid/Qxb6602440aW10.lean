/-
  ZZDiff (10).
-/
import Derived.Test.Qxb6602440aW7
import Derived.Test.Qxb6602440aW14
namespace Go.Proofs.Qxb6602440a
open Go.RowKit

set_option maxHeartbeats 1000000 in
theorem zzdiff_any (la lb : List (Int × Int)) (ak an bk bn : Value) (w : World) (hla : la.length ≤ 4096) (hlb : lb.length ≤ 4096) (ha : Split w ak an la) (hb : Split w bk bn lb) :
    Calls Try.prog 10 #[ak, an, bk, bn] w fun e w' => Below w.heap.size w w' ∧ ∃ es v1 v2 v3, e = .returned (.tuple #[v1, v2, v3]) ∧ Three w' v1 v2 v3 es ∧ DiffSays la lb es := by
  go_enter Try.func10, Try.ntmps10
  go_wp2_with fail
  refine (syms_any la ak an _ hla ha).mono ?_
  rintro e w1 ⟨ao, ga, rfl, hA, hAb, -, hb1⟩
  go_wp2_with fail
  refine (syms_any lb bk bn _ hlb (hb.below hb1)).mono ?_
  rintro e w2 ⟨bo, gb, rfl, hB, hBb, -, hb2⟩
  go_wp2_with fail
  refine (diff_any la lb ga 0 gb 0 ao bo _ _ w2 hla hlb (Nat.le_refl _) (Nat.le_refl _) (fun h => (hA.below (hAb h) hb2) h) hB (fun h => Nat.lt_of_lt_of_le (hAb h) hb2.size) hBb).mono ?_
  have hb12 : Below w.heap.size w w2 := hb1.trans (hb2.mono hb1.size)
  clear hA hB hAb hBb hb1 hb2 ha hb
  rintro e w3 ⟨hb3, es, v, rfl, hsc, hds⟩
  have hb13 : Below w.heap.size w w3 := hb12.trans (hb3.mono hb12.size)
  clear hb3 hb12
  have hln : es.length ≤ 16384 := by obtain ⟨_, _, _, _, h, _⟩ := hds; omega
  have HDS : Hid (DiffSays la lb es) := hds
  clear hds
  go_wp2_with fail
  refine (edits_any es v _ hln hsc).mono ?_
  rintro e w4 ⟨v1, v2, v3, rfl, h3, hb4⟩
  go_wp2
  go_ret3
  exact ⟨hb13.trans (hb4.mono hb13.size), es, v1, v2, v3, rfl, h3, HDS.out⟩

end Go.Proofs.Qxb6602440a
