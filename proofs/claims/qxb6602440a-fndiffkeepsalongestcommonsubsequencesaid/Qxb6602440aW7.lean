/-
  ZZShortestScript (7), and one contract each for zzSplitSyms, zzSyms, zzEdits.
-/
import Derived.Test.Qxb6602440aW11
import Derived.Test.Qxb6602440aW12
namespace Go.Proofs.Qxb6602440a
open Go.RowKit

/-- What zzSplitSyms hands back. -/
def Split (w : World) (vk vn : Value) (l : List (Int × Int)) : Prop :=
  (vk = .slice none 0 0 ∧ vn = .slice none 0 0 ∧ l = []) ∨ ∃ g1 g2, vk = .slice (some ⟨g1, 0, none⟩) l.length l.length ∧ vn = .slice (some ⟨g2, 0, none⟩) l.length l.length ∧ w.rowIs g1 5 l.length (kindsTo l l.length) ∧ w.rowIs g2 32 l.length (numsTo l l.length)
theorem Split.below {w w' : World} {vk vn : Value} {l : List (Int × Int)} (h : Split w vk vn l) (k : Below w.heap.size w w') : Split w' vk vn l := by
  rcases h with h | ⟨g1, g2, h1, h2, h3, h4⟩
  · exact .inl h
  · exact .inr ⟨g1, g2, h1, h2, h3.of_block (k.block _ h3.lt), h4.of_block (k.block _ h4.lt)⟩

theorem split_any (l : List (Int × Int)) (b o : Nat) (ao : Option Addr) (c : Nat) (w : World) (hnil : ao = none → l = [] ∧ c = 0) (hl : l.length ≤ 4096) (hS : SymsAt w b o ao l) (hbB : 0 < l.length → b < w.heap.size) :
    Calls Try.prog 6 #[.slice ao l.length c] w fun e w' => ∃ vk vn, e = .returned (.tuple #[vk, vn]) ∧ Split w' vk vn l ∧ Below w.heap.size w w' := by
  cases ao with
  | none =>
    obtain ⟨rfl, rfl⟩ := hnil rfl
    refine Calls.mono (show Calls Try.prog 6 #[.slice none 0 0] w _ from split_nil w) ?_
    rintro e w' ⟨rfl, rfl⟩
    exact ⟨_, _, rfl, .inl ⟨rfl, rfl, rfl⟩, Below.refl _ _⟩
  | some x =>
    refine (split_some l b o (some x) c w rfl hl hS hbB).mono ?_
    rintro e w' ⟨rfl, h1, h2, h3⟩
    exact ⟨_, _, rfl, .inr ⟨_, _, rfl, rfl, h1, h2⟩, h3⟩

theorem symsAt_of_row {w : World} {g : Nat} {l : List (Int × Int)} (h : w.rowIs g 48 (l.length * 2) (symsTo l l.length)) : SymsAt w g 0 (some ⟨g, 0, none⟩) l := by
  intro _
  refine ⟨rfl, fun j p hj => ?_⟩
  have hlt : j < l.length := (List.getElem?_eq_some_iff.1 hj).1
  have d0 : j * 2 / 2 = j ∧ j * 2 % 2 = 0 := by omega
  have d1 : (j * 2 + 1) / 2 = j ∧ (j * 2 + 1) % 2 = 1 := by omega
  have he : l.getD j (0, 0) = p := by simp [List.getD, hj]
  rw [Nat.zero_add]
  constructor
  · rw [h.cell (by omega)]; unfold symsTo; rw [d0.1, d0.2, if_pos rfl, if_pos hlt, he]
  · rw [h.cell (by omega)]; unfold symsTo; rw [d1.1, d1.2, if_neg (by omega), if_pos hlt, he]

theorem syms_any (l : List (Int × Int)) (vk vn : Value) (w : World) (hl : l.length ≤ 4096) (h : Split w vk vn l) :
    Calls Try.prog 12 #[vk, vn] w fun e w' => ∃ ao b, e = .returned (.slice ao l.length l.length) ∧ SymsAt w' b 0 ao l ∧ (0 < l.length → b < w'.heap.size) ∧ (ao = none → l = []) ∧ Below w.heap.size w w' := by
  rcases h with ⟨rfl, rfl, rfl⟩ | ⟨g1, g2, rfl, rfl, h1, h2⟩
  · refine (syms_nil w _).mono ?_
    rintro e w' ⟨rfl, rfl⟩
    exact ⟨none, 0, rfl, fun h => absurd h (by simp), fun h => absurd h (by simp), fun _ => rfl, Below.refl _ _⟩
  · refine (syms_some l g1 g2 w hl h1 h2).mono ?_
    rintro e w' ⟨rfl, h3, h4⟩
    exact ⟨_, _, rfl, symsAt_of_row h3, fun _ => h3.lt, (fun h => by cases h), h4⟩

/-- A slice of one-cell elements that can be read. -/
def OneAt (w : World) (g : Nat) (o : Option Addr) (L : Nat) (f : Nat → Value) : Prop := 0 < L → o = some ⟨g, 0, none⟩ ∧ g < w.heap.size ∧ ∀ j, j < L → w.cell? ⟨g, j, none⟩ = some (f j)
theorem OneAt.below {w w' : World} {g : Nat} {o : Option Addr} {L : Nat} {f : Nat → Value} (h : OneAt w g o L f) (k : Below w.heap.size w w') : OneAt w' g o L f := by
  intro hL
  obtain ⟨h1, h2, h3⟩ := h hL
  exact ⟨h1, Nat.lt_of_lt_of_le h2 k.size, fun j hj => by rw [k.cell (p := ⟨g, j, none⟩) h2]; exact h3 j hj⟩
theorem OneAt.addr {w : World} {g : Nat} {o : Option Addr} {L : Nat} {f : Nat → Value} (h : OneAt w g o L f) (t : TypeId) (ht : Try.prog.underlying t = some (.slice (Try.prog.elem t))) (hs : ∀ w, (sizeOf (Try.prog.elem t)).run Try.prog w = .ok 1 w)
    (j : Nat) (hj : j < L) (c : Nat) : ∀ w, (Instr.indexAt t (.slice o L c) (.int .i64 (j : Int))).run Try.prog w = .ok (.pointer (some ⟨g, j, none⟩)) w := by
  intro w'
  rw [(h (by omega)).1, run_indexAt_slice w' t _ _ _ _ _ ht, if_pos (by omega), hs]
  simp only [Result.andThen, Int.toNat_natCast]
  rw [Addr.add_lit]
  simp
theorem size5 (w : World) : (sizeOf (Try.prog.elem 24)).run Try.prog w = .ok 1 w := by kernel_rfl
theorem size3 (w : World) : (sizeOf (Try.prog.elem 28)).run Try.prog w = .ok 1 w := by kernel_rfl
theorem slice24 : Try.prog.underlying 24 = some (.slice (Try.prog.elem 24)) := by kernel_rfl
theorem slice28 : Try.prog.underlying 28 = some (.slice (Try.prog.elem 28)) := by kernel_rfl

/-- What zzEdits hands back. -/
def Three (w : World) (v1 v2 v3 : Value) (es : List (Int × Int × Int)) : Prop :=
  ∃ o1 o2 o3 g1 g2 g3, v1 = .slice o1 es.length es.length ∧ v2 = .slice o2 es.length es.length ∧ v3 = .slice o3 es.length es.length ∧ OneAt w g1 o1 es.length (opsTo es es.length) ∧ OneAt w g2 o2 es.length (isTo es es.length) ∧ OneAt w g3 o3 es.length (jsTo es es.length)

theorem oneAt_of_row {w : World} {g : Nat} {e : TypeId} {L : Nat} {f : Nat → Value} (h : w.rowIs g e L f) : OneAt w g (some ⟨g, 0, none⟩) L f := fun _ => ⟨rfl, h.lt, fun _ hj => h.cell hj⟩

theorem edits_any (es : List (Int × Int × Int)) (v : Value) (w : World) (hl : es.length ≤ 16384) (h : IsScript w v es) :
    Calls Try.prog 13 #[v] w fun e w' => ∃ v1 v2 v3, e = .returned (.tuple #[v1, v2, v3]) ∧ Three w' v1 v2 v3 es ∧ Below w.heap.size w w' := by
  rcases h with ⟨rfl, rfl⟩ | ⟨g, cap, rfl, hg, hS⟩
  · refine (edits_nil w).mono ?_
    rintro e w' ⟨rfl, rfl⟩
    exact ⟨_, _, _, rfl, ⟨none, none, none, 0, 0, 0, rfl, rfl, rfl, fun h => absurd h (by simp), fun h => absurd h (by simp), fun h => absurd h (by simp)⟩, Below.refl _ _⟩
  · refine (edits_some es g cap w hl hS hg).mono ?_
    rintro e w' ⟨rfl, h1, h2, h3, h4⟩
    exact ⟨_, _, _, rfl, ⟨_, _, _, _, _, _, rfl, rfl, rfl, oneAt_of_row h1, oneAt_of_row h2, oneAt_of_row h3⟩, h4⟩

theorem results_tmp4 {fn : Func} {t u v x : Tmp} (h : fn.results = #[.tmp t, .tmp u, .tmp v, .tmp x]) (tmps : Array Value) (P : Program) (w : World) :
    (results fn tmps).run P w = .ok (.tuple #[tmps.getD t undef, tmps.getD u undef, tmps.getD v undef, tmps.getD x undef]) w := by
  simp [results, h]

theorem script_len {M : Nat → Nat → Bool} {n m : Nat} {es : List (Int × Int × Int)} (h : My.Walk M n m es 0 0) (hn : n ≤ 4096) (hm : m ≤ 4096) : es.length ≤ 8192 := by
  have h1 := My.walk_count h
  have h2 := My.count_nonneg es
  omega

set_option maxHeartbeats 1000000 in
theorem zzscript_any (la lb : List (Int × Int)) (ak an bk bn : Value) (w : World) (hla : la.length ≤ 4096) (hlb : lb.length ≤ 4096) (ha : Split w ak an la) (hb : Split w bk bn lb) :
    Calls Try.prog 7 #[ak, an, bk, bn] w fun e w' => Below w.heap.size w w' ∧
      ((My.E (My.Mof la lb) la.length lb.length ≤ 1024 ∧ ∃ es v1 v2 v3, e = .returned (.tuple #[v1, v2, v3, .bool true]) ∧ My.Walk (My.Mof la lb) la.length lb.length es 0 0 ∧ My.costs es = My.E (My.Mof la lb) la.length lb.length ∧ Three w' v1 v2 v3 es) ∨
       (1024 < My.E (My.Mof la lb) la.length lb.length ∧ e = .returned (.tuple #[.slice none 0 0, .slice none 0 0, .slice none 0 0, .bool false]))) := by
  go_enter Try.func7, Try.ntmps7
  go_wp2_with fail
  refine (syms_any la ak an _ hla ha).mono ?_
  rintro e w1 ⟨ao, ga, rfl, hA, hAb, -, hb1⟩
  go_wp2_with fail
  refine (syms_any lb bk bn _ hlb (hb.below hb1)).mono ?_
  rintro e w2 ⟨bo, gb, rfl, hB, hBb, -, hb2⟩
  go_wp2_with fail
  refine (script_any la lb ga 0 gb 0 ao bo _ _ (min (la.length + lb.length) 1024) w2 hla hlb (by omega) (fun h => (hA.below (hAb h) hb2) h) hB (fun h => Nat.lt_of_lt_of_le (hAb h) hb2.size) hBb).mono ?_
  have hb12 : Below w.heap.size w w2 := hb1.trans (hb2.mono hb1.size)
  clear hA hB hAb hBb hb1 hb2 ha hb
  rintro e w3 ⟨hb3, ⟨hE, es, v, rfl, hwk, hco, hsc⟩ | ⟨hE, rfl⟩⟩
  · have hb13 : Below w.heap.size w w3 := hb12.trans (hb3.mono hb12.size)
    clear hb3 hb12
    go_wp2_with fail
    refine (edits_any es v _ (by have := script_len hwk hla hlb; omega) hsc).mono ?_
    rintro e w4 ⟨v1, v2, v3, rfl, h3, hb4⟩
    go_wp2
    refine bodyPost_ret (results_tmp4 rfl _ _ _) rfl ?_
    exact ⟨hb13.trans (hb4.mono hb13.size), .inl ⟨hE, es, v1, v2, v3, rfl, hwk, hco, h3⟩⟩
  · have hb13 : Below w.heap.size w w3 := hb12.trans (hb3.mono hb12.size)
    clear hb3 hb12
    go_wp2_with fail
    refine (edits_nil _).mono ?_
    rintro e w4 ⟨rfl, rfl⟩
    go_wp2
    refine bodyPost_ret (results_tmp4 rfl _ _ _) rfl ?_
    exact ⟨hb13, .inr ⟨hE, rfl⟩⟩

end Go.Proofs.Qxb6602440a
