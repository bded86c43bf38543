/-
  What the reference's Compare does at two versions whose numbers agree: 0 at equal texts, 1 where only the first has none, -1 where only the second has none. Conditions: as each states.
-/
import Derived.Test.YtilbgmeklkkknaaDoorSpec
namespace Go.Proofs.YtilbgmeklkkknaaDoor
open Go.RowKit

set_option maxHeartbeats 2000000 in
set_option maxRecDepth 100000 in
theorem specCompare_same (ao bo : Option Addr) (c d : Nat) (xs ys : List Int) (s : ByteArray) (w : World) (hs : Same xs ys)
    (hx : Ints w.heap.size w ao xs) (hy : Ints w.heap.size w bo ys) (hn : xs.length ≤ 100) (hm : ys.length ≤ 100) :
    Calls Tryd.prog 7 #[.agg #[.slice ao xs.length c, .string s], .agg #[.slice bo ys.length d, .string s]] w fun e w' => e = .returned (.int .i64 0) ∧ Below w.heap.size w w' := by
  obtain ⟨c0, c1, c2, c3, hb⟩ := boxes w (.slice ao xs.length c) (.slice bo ys.length d) (.string s) (.string s) 29
  replace hx := hx.below hb
  replace hy := hy.below hb
  by_cases hxy : xs.length < ys.length
  all_goals
    go_enter Tryd.func7, Tryd.ntmps7
    go_wp2
    generalize ((w.alloc (.cells #[.slice ao xs.length c, .string s] 29)).alloc (.cells #[.slice bo ys.length d, .string s] 29)) = W at *
    go_loop [15] (fun i => ∃ j : Nat, j ≤ 100 ∧ i = .int .i64 j) (fun i => 101 - (intOf i).toNat)
    case atStart => exact ⟨0, Nat.zero_le _, rfl⟩
    case round =>
      obtain ⟨j, hjk, rfl⟩ := hrel
      by_cases hjx : j < xs.length <;> by_cases hjy : j < ys.length
      · obtain ⟨b, off, -, rfl, hcx⟩ := hx j hjx
        obtain ⟨b', off', -, rfl, hcy⟩ := hy j hjy
        have heq := hs j
        rw [← heq] at hcy
        clear heq
        go_wp2
        go_round
        case rel => exact ⟨j + 1, by omega, by go_num⟩
        case measure => simp [intOf]; omega
      · first
        | (exfalso; omega)
        | (obtain ⟨b, off, -, rfl, hcx⟩ := hx j hjx
           rw [hs j, nth_none (Nat.le_of_not_lt hjy)] at hcx
           go_wp2
           go_round
           case rel => exact ⟨j + 1, by omega, by go_num⟩
           case measure => simp [intOf]; omega)
      · first
        | (exfalso; omega)
        | (obtain ⟨b', off', -, rfl, hcy⟩ := hy j hjy
           rw [← hs j, nth_none (Nat.le_of_not_lt hjx)] at hcy
           go_wp2
           go_round
           case rel => exact ⟨j + 1, by omega, by go_num⟩
           case measure => simp [intOf]; omega)
      · go_wp2
        go_ret
        exact ⟨rfl, hb⟩

set_option maxHeartbeats 2000000 in
set_option maxRecDepth 100000 in
theorem specCompare_left (ao bo : Option Addr) (c d : Nat) (xs ys : List Int) (t : ByteArray) (ht : t.toList.isEmpty = false) (w : World) (hs : Same xs ys)
    (hx : Ints w.heap.size w ao xs) (hy : Ints w.heap.size w bo ys) (hn : xs.length ≤ 100) (hm : ys.length ≤ 100) :
    Calls Tryd.prog 7 #[.agg #[.slice ao xs.length c, .string ⟨#[]⟩], .agg #[.slice bo ys.length d, .string t]] w fun e w' => e = .returned (.int .i64 1) ∧ Below w.heap.size w w' := by
  obtain ⟨c0, c1, c2, c3, hb⟩ := boxes w (.slice ao xs.length c) (.slice bo ys.length d) (.string ⟨#[]⟩) (.string t) 29
  replace hx := hx.below hb
  replace hy := hy.below hb
  by_cases hxy : xs.length < ys.length
  all_goals
    go_enter Tryd.func7, Tryd.ntmps7
    go_wp2
    generalize ((w.alloc (.cells #[.slice ao xs.length c, .string ⟨#[]⟩] 29)).alloc (.cells #[.slice bo ys.length d, .string t] 29)) = W at *
    go_loop [15] (fun i => ∃ j : Nat, j ≤ 100 ∧ i = .int .i64 j) (fun i => 101 - (intOf i).toNat)
    case atStart => exact ⟨0, Nat.zero_le _, rfl⟩
    case round =>
      obtain ⟨j, hjk, rfl⟩ := hrel
      by_cases hjx : j < xs.length <;> by_cases hjy : j < ys.length
      · obtain ⟨b, off, -, rfl, hcx⟩ := hx j hjx
        obtain ⟨b', off', -, rfl, hcy⟩ := hy j hjy
        have heq := hs j
        rw [← heq] at hcy
        clear heq
        go_wp2
        go_round
        case rel => exact ⟨j + 1, by omega, by go_num⟩
        case measure => simp [intOf]; omega
      · first
        | (exfalso; omega)
        | (obtain ⟨b, off, -, rfl, hcx⟩ := hx j hjx
           rw [hs j, nth_none (Nat.le_of_not_lt hjy)] at hcx
           go_wp2
           go_round
           case rel => exact ⟨j + 1, by omega, by go_num⟩
           case measure => simp [intOf]; omega)
      · first
        | (exfalso; omega)
        | (obtain ⟨b', off', -, rfl, hcy⟩ := hy j hjy
           rw [← hs j, nth_none (Nat.le_of_not_lt hjx)] at hcy
           go_wp2
           go_round
           case rel => exact ⟨j + 1, by omega, by go_num⟩
           case measure => simp [intOf]; omega)
      · go_wp2_with (go_at_call 13; refine (sign_true _).mono ?_; rintro e w' ⟨rfl, rfl⟩)
        go_ret
        exact ⟨rfl, hb⟩

set_option maxHeartbeats 2000000 in
set_option maxRecDepth 100000 in
theorem specCompare_right (ao bo : Option Addr) (c d : Nat) (xs ys : List Int) (s : ByteArray) (ht : s.toList.isEmpty = false) (w : World) (hs : Same xs ys)
    (hx : Ints w.heap.size w ao xs) (hy : Ints w.heap.size w bo ys) (hn : xs.length ≤ 100) (hm : ys.length ≤ 100) :
    Calls Tryd.prog 7 #[.agg #[.slice ao xs.length c, .string s], .agg #[.slice bo ys.length d, .string ⟨#[]⟩]] w fun e w' => e = .returned (.int .i64 (-1)) ∧ Below w.heap.size w w' := by
  obtain ⟨c0, c1, c2, c3, hb⟩ := boxes w (.slice ao xs.length c) (.slice bo ys.length d) (.string s) (.string ⟨#[]⟩) 29
  replace hx := hx.below hb
  replace hy := hy.below hb
  by_cases hxy : xs.length < ys.length
  all_goals
    go_enter Tryd.func7, Tryd.ntmps7
    go_wp2
    generalize ((w.alloc (.cells #[.slice ao xs.length c, .string s] 29)).alloc (.cells #[.slice bo ys.length d, .string ⟨#[]⟩] 29)) = W at *
    go_loop [15] (fun i => ∃ j : Nat, j ≤ 100 ∧ i = .int .i64 j) (fun i => 101 - (intOf i).toNat)
    case atStart => exact ⟨0, Nat.zero_le _, rfl⟩
    case round =>
      obtain ⟨j, hjk, rfl⟩ := hrel
      by_cases hjx : j < xs.length <;> by_cases hjy : j < ys.length
      · obtain ⟨b, off, -, rfl, hcx⟩ := hx j hjx
        obtain ⟨b', off', -, rfl, hcy⟩ := hy j hjy
        have heq := hs j
        rw [← heq] at hcy
        clear heq
        go_wp2
        go_round
        case rel => exact ⟨j + 1, by omega, by go_num⟩
        case measure => simp [intOf]; omega
      · first
        | (exfalso; omega)
        | (obtain ⟨b, off, -, rfl, hcx⟩ := hx j hjx
           rw [hs j, nth_none (Nat.le_of_not_lt hjy)] at hcx
           go_wp2
           go_round
           case rel => exact ⟨j + 1, by omega, by go_num⟩
           case measure => simp [intOf]; omega)
      · first
        | (exfalso; omega)
        | (obtain ⟨b', off', -, rfl, hcy⟩ := hy j hjy
           rw [← hs j, nth_none (Nat.le_of_not_lt hjx)] at hcy
           go_wp2
           go_round
           case rel => exact ⟨j + 1, by omega, by go_num⟩
           case measure => simp [intOf]; omega)
      · go_wp2_with (go_at_call 13; refine (sign_false _).mono ?_; rintro e w' ⟨rfl, rfl⟩)
        go_ret
        exact ⟨rfl, hb⟩
end Go.Proofs.YtilbgmeklkkknaaDoor
