/-
  The law FnCompare returns true at every two versions, and nothing that was there turns: the walk of the law out of its callees' contracts. Conditions: the lengths are ones that slices and texts can have.
-/
import Derived.Test.YtilbgmeklkkknaaDoorImpl
import Derived.Test.YtilbgmeklkkknaaDoorAre
import Derived.Test.YtilbgmeklkkknaaDoorWakes
namespace Go.Proofs.YtilbgmeklkkknaaDoor
open Go.RowKit

set_option maxHeartbeats 2000000 in
set_option maxRecDepth 100000 in
theorem law_unfit1 (ao bo : Option Addr) (n c m d : Nat) (s t : ByteArray) (w : World) (hn : n ≤ maxLen) (hs : s.size ≤ maxLen) (h : 2147483647 < n ∨ 2147483647 < s.size) :
    Calls Tryd.prog 3 #[.agg #[.slice ao n c, .string s], .agg #[.slice bo m d, .string t]] w fun e w' => e = .returned (.bool true) ∧ Below w.heap.size w w' := by
  have z : ∀ w, Calls Tryd.prog 4 #[.agg #[.slice ao n c, .string s]] w fun e w' => e = .returned (.bool false) ∧ Below w.heap.size w w' := by
    intro w
    by_cases hl : 2147483647 < n
    · exact zzFits_long ao n c s w hn hl
    · exact zzFits_text ao n c s w (by omega) hs (by omega)
  have Z := Lib.hid z
  clear z h hn hs
  go_enter Tryd.func3, Tryd.ntmps3
  go_wp2_with (go_at_call 4; refine (Z.out _).mono ?_; rintro e w1 ⟨rfl, hb1⟩)
  go_ret
  exact ⟨rfl, (((Below.refl _ _).alloc (Nat.le_refl _) _).alloc (by simp) _).trans (hb1.mono (by simp; omega))⟩

set_option maxHeartbeats 2000000 in
set_option maxRecDepth 100000 in
theorem law_unfit2 (ao bo : Option Addr) (n c m d : Nat) (s t : ByteArray) (w : World) (hn : n ≤ 2147483647) (hs : s.size ≤ 2147483647) (hm : m ≤ maxLen) (ht : t.size ≤ maxLen) (h : 2147483647 < m ∨ 2147483647 < t.size) :
    Calls Tryd.prog 3 #[.agg #[.slice ao n c, .string s], .agg #[.slice bo m d, .string t]] w fun e w' => e = .returned (.bool true) ∧ Below w.heap.size w w' := by
  have z : ∀ w, Calls Tryd.prog 4 #[.agg #[.slice bo m d, .string t]] w fun e w' => e = .returned (.bool false) ∧ Below w.heap.size w w' := by
    intro w
    by_cases hl : 2147483647 < m
    · exact zzFits_long bo m d t w hm hl
    · exact zzFits_text bo m d t w (by omega) ht (by omega)
  have Z := Lib.hid z
  clear z h hm ht
  obtain ⟨c0, c1, c2, c3, hb⟩ := boxes w (.slice ao n c) (.slice bo m d) (.string s) (.string t) 24
  have hz : ((w.alloc (.cells #[.slice ao n c, .string s] 24)).alloc (.cells #[.slice bo m d, .string t] 24)).heap.size = w.heap.size + 2 := by simp
  have ZZ := Lib.hid hz
  clear hz
  go_enter Tryd.func3, Tryd.ntmps3
  go_wp2_with fail
  generalize ((w.alloc (.cells #[.slice ao n c, .string s] 24)).alloc (.cells #[.slice bo m d, .string t] 24)) = W at *
  refine (zzFits _ _ _ _ _ hn hs).mono ?_
  rintro e w1 ⟨rfl, hb1⟩
  obtain ⟨k0, k1, k2, k3, k4⟩ := keep4 ZZ ⟨Below.refl _ _, c0, c1, c2, c3⟩ hb1
  clear k1 k2
  go_wp2_with (go_at_call 4; refine (Z.out _).mono ?_; rintro e w2 ⟨rfl, hb2⟩)
  go_ret
  exact ⟨rfl, hb.trans ((k0.mono (by omega)).trans (hb2.mono (by have := k0.size; have := ZZ.out; omega)))⟩

set_option maxHeartbeats 2000000 in
set_option maxRecDepth 100000 in
theorem law_not (ao bo : Option Addr) (c d : Nat) (xs ys : List Int) (s t : ByteArray) (w : World) (hx : Ints w.heap.size w ao xs) (hy : Ints w.heap.size w bo ys)
    (hn : xs.length ≤ 2147483647) (hs : s.size ≤ 2147483647) (hm : ys.length ≤ 2147483647) (ht : t.size ≤ 2147483647) (h : ¬ (Ver xs ∧ Ver ys)) :
    Calls Tryd.prog 3 #[.agg #[.slice ao xs.length c, .string s], .agg #[.slice bo ys.length d, .string t]] w fun e w' => e = .returned (.bool true) ∧ Below w.heap.size w w' := by
  obtain ⟨ba, ha1, ha2⟩ := isVersion xs hn
  obtain ⟨bb, hb1, hb2⟩ := isVersion ys hm
  have hf : (ba && bb) = false := by
    rw [Bool.eq_false_iff]
    intro e
    rw [Bool.and_eq_true] at e
    exact h ⟨ha1.1 e.1, hb1.1 e.2⟩
  obtain ⟨c0, c1, c2, c3, hb⟩ := boxes w (.slice ao xs.length c) (.slice bo ys.length d) (.string s) (.string t) 24
  have hz : ((w.alloc (.cells #[.slice ao xs.length c, .string s] 24)).alloc (.cells #[.slice bo ys.length d, .string t] 24)).heap.size = w.heap.size + 2 := by simp
  have ZZ := Lib.hid hz
  have H2 := Lib.hid (And.intro ha2 hb2)
  clear hz h ha1 hb1 ha2 hb2
  go_enter Tryd.func3, Tryd.ntmps3
  go_wp2_with fail
  generalize ((w.alloc (.cells #[.slice ao xs.length c, .string s] 24)).alloc (.cells #[.slice bo ys.length d, .string t] 24)) = W at *
  refine (zzFits _ _ _ _ _ hn hs).mono ?_
  rintro e w1 ⟨rfl, hw1⟩
  have q1 := keep4 ZZ ⟨Below.refl _ _, c0, c1, c2, c3⟩ hw1
  clear c0 c1 c2 c3
  obtain ⟨k0, c0, c1, c2, c3⟩ := id q1
  go_wp2_with fail
  refine (zzFits _ _ _ _ _ hm ht).mono ?_
  rintro e w2 ⟨rfl, hw2⟩
  have q2 := keep4 ZZ q1 hw2
  clear c0 c1 c2 c3 k0 q1
  obtain ⟨k0, c0, c1, c2, c3⟩ := id q2
  go_wp2_with fail
  have hw3 : Below w2.heap.size w2 (w2.alloc (.cells #[.slice ao xs.length c, .string s, .slice bo ys.length d, .string t] 24)) := (Below.refl _ _).alloc (Nat.le_refl _) _
  have q3 := keep4 ZZ q2 hw3
  refine (are_two w2.heap.size ao bo c d xs ys s t ba bb H2.out.1 H2.out.2 _ (ints4 ZZ hb hx q3) (ints4 ZZ hb hy q3) ?v0 ?v1 ?v2 ?v3 ?v4).mono ?_
  case v0 => simp
  case v1 => go_simp
  case v2 => go_simp
  case v3 => go_simp
  case v4 => go_simp
  rintro e w4 ⟨rfl, hw4⟩
  have q4 := keep4 ZZ q3 hw4
  clear c0 c1 c2 c3 k0 q2 q3 hw1 hw2 hw3 hw4 H2
  rw [hf]
  clear hf
  have k4 := q4.1
  clear q4 hx hy
  go_wp2_with fail
  refine (wakes _).mono ?_
  rintro e w5 ⟨rfl, hw5⟩
  go_wp2
  go_ret
  exact ⟨rfl, hb.trans ((k4.mono (by omega)).trans (hw5.mono (by have := k4.size; have := ZZ.out; omega)))⟩
end Go.Proofs.YtilbgmeklkkknaaDoor
