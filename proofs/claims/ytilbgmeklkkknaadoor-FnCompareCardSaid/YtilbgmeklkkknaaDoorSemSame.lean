/-
  What compat.CompareSemver does at two versions whose numbers agree: 0 at equal texts, and the lengths' difference where one text is empty. Conditions: as each states.
-/
import Derived.Test.YtilbgmeklkkknaaDoorSem
import Derived.ShutString
namespace Go.Proofs.YtilbgmeklkkknaaDoor
open Go.RowKit

def strSize : Value → Nat
  | .string s => s.size
  | _ => 0
theorem empty_of_size {u : ByteArray} (h : u.size = 0) : u = ⟨#[]⟩ := by
  cases u with
  | mk d => exact congrArg ByteArray.mk (Array.eq_empty_of_size_eq_zero h)
theorem toList_ne {u : ByteArray} (h : 0 < u.size) : u.toList.isEmpty = false := by
  rw [Lib.toList_data]
  cases u with
  | mk d =>
    simp
    intro e
    subst e
    exact absurd h (by decide)
theorem toList_ne' {u : ByteArray} (h : u ≠ ⟨#[]⟩) : u.toList.isEmpty = false :=
  toList_ne (by rcases Nat.eq_zero_or_pos u.size with e | e; exact absurd (empty_of_size e) h; exact e)

set_option maxHeartbeats 2000000 in
set_option maxRecDepth 100000 in
theorem semver_left (ao bo : Option Addr) (c d : Nat) (xs ys : List Int) (t : ByteArray) (hs : Same xs ys) (ht : t.toList.isEmpty = false) (htn : t.size ≤ 2147483647) (w : World)
    (hx : Ints w.heap.size w ao xs) (hy : Ints w.heap.size w bo ys) (hn : xs.length ≤ 100) (hm : ys.length ≤ 100) :
    Calls Tryd.prog 14 #[.agg #[.slice ao xs.length c, .string ⟨#[]⟩], .agg #[.slice bo ys.length d, .string t]] w fun e w' => e = .returned (.int .i64 t.size) ∧ Below w.heap.size w w' := by
  obtain ⟨c0, c1, c2, c3, hb⟩ := boxes w (.slice ao xs.length c) (.slice bo ys.length d) (.string ⟨#[]⟩) (.string t) 43
  replace hx := hx.below hb
  replace hy := hy.below hb
  by_cases hxy : xs.length < ys.length
  all_goals
    go_enter Tryd.func14, Tryd.ntmps14
    go_wp2
    generalize ((w.alloc (.cells #[.slice ao xs.length c, .string ⟨#[]⟩] 43)).alloc (.cells #[.slice bo ys.length d, .string t] 43)) = W at *
    go_loop [8] (fun i => ∃ j : Nat, j ≤ 100 ∧ i = .int .i64 j) (fun i => 101 - (intOf i).toNat)
    case atStart => exact ⟨0, Nat.zero_le _, rfl⟩
    case round =>
      obtain ⟨j, hjk, rfl⟩ := hrel
      by_cases hjx : j < xs.length <;> by_cases hjy : j < ys.length
      · obtain ⟨b, off, -, rfl, hcx⟩ := hx j hjx
        obtain ⟨b', off', -, rfl, hcy⟩ := hy j hjy
        have heq := hs j
        rw [← heq] at hcy
        clear heq
        go_wp2
        go_round
        case rel => exact ⟨j + 1, by omega, by go_num⟩
        case measure => simp [intOf]; omega
      · first
        | (exfalso; omega)
        | (obtain ⟨b, off, -, rfl, hcx⟩ := hx j hjx
           rw [hs j, nth_none (Nat.le_of_not_lt hjy)] at hcx
           go_wp2
           go_round
           case rel => exact ⟨j + 1, by omega, by go_num⟩
           case measure => simp [intOf]; omega)
      · first
        | (exfalso; omega)
        | (obtain ⟨b', off', -, rfl, hcy⟩ := hy j hjy
           rw [← hs j, nth_none (Nat.le_of_not_lt hjx)] at hcy
           go_wp2
           go_round
           case rel => exact ⟨j + 1, by omega, by go_num⟩
           case measure => simp [intOf]; omega)
      · go_wp2
        go_ret
        exact ⟨rfl, hb⟩

set_option maxHeartbeats 2000000 in
set_option maxRecDepth 100000 in
theorem semver_right (ao bo : Option Addr) (c d : Nat) (xs ys : List Int) (s : ByteArray) (hs : Same xs ys) (ht : s.toList.isEmpty = false) (htn : s.size ≤ 2147483647) (w : World)
    (hx : Ints w.heap.size w ao xs) (hy : Ints w.heap.size w bo ys) (hn : xs.length ≤ 100) (hm : ys.length ≤ 100) :
    Calls Tryd.prog 14 #[.agg #[.slice ao xs.length c, .string s], .agg #[.slice bo ys.length d, .string ⟨#[]⟩]] w fun e w' => e = .returned (.int .i64 (-(s.size : Int))) ∧ Below w.heap.size w w' := by
  obtain ⟨c0, c1, c2, c3, hb⟩ := boxes w (.slice ao xs.length c) (.slice bo ys.length d) (.string s) (.string ⟨#[]⟩) 43
  replace hx := hx.below hb
  replace hy := hy.below hb
  by_cases hxy : xs.length < ys.length
  all_goals
    go_enter Tryd.func14, Tryd.ntmps14
    go_wp2
    generalize ((w.alloc (.cells #[.slice ao xs.length c, .string s] 43)).alloc (.cells #[.slice bo ys.length d, .string ⟨#[]⟩] 43)) = W at *
    go_loop [8] (fun i => ∃ j : Nat, j ≤ 100 ∧ i = .int .i64 j) (fun i => 101 - (intOf i).toNat)
    case atStart => exact ⟨0, Nat.zero_le _, rfl⟩
    case round =>
      obtain ⟨j, hjk, rfl⟩ := hrel
      by_cases hjx : j < xs.length <;> by_cases hjy : j < ys.length
      · obtain ⟨b, off, -, rfl, hcx⟩ := hx j hjx
        obtain ⟨b', off', -, rfl, hcy⟩ := hy j hjy
        have heq := hs j
        rw [← heq] at hcy
        clear heq
        go_wp2
        go_round
        case rel => exact ⟨j + 1, by omega, by go_num⟩
        case measure => simp [intOf]; omega
      · first
        | (exfalso; omega)
        | (obtain ⟨b, off, -, rfl, hcx⟩ := hx j hjx
           rw [hs j, nth_none (Nat.le_of_not_lt hjy)] at hcx
           go_wp2
           go_round
           case rel => exact ⟨j + 1, by omega, by go_num⟩
           case measure => simp [intOf]; omega)
      · first
        | (exfalso; omega)
        | (obtain ⟨b', off', -, rfl, hcy⟩ := hy j hjy
           rw [← hs j, nth_none (Nat.le_of_not_lt hjx)] at hcy
           go_wp2
           go_round
           case rel => exact ⟨j + 1, by omega, by go_num⟩
           case measure => simp [intOf]; omega)
      · go_wp2
        go_ret
        exact ⟨rfl, hb⟩

set_option maxHeartbeats 2000000 in
set_option maxRecDepth 100000 in
theorem semver_same (ao bo : Option Addr) (c d : Nat) (xs ys : List Int) (s : ByteArray) (hs : Same xs ys) (htn : s.size ≤ 2147483647) (w : World)
    (hx : Ints w.heap.size w ao xs) (hy : Ints w.heap.size w bo ys) (hn : xs.length ≤ 100) (hm : ys.length ≤ 100) :
    Calls Tryd.prog 14 #[.agg #[.slice ao xs.length c, .string s], .agg #[.slice bo ys.length d, .string s]] w fun e w' => e = .returned (.int .i64 0) ∧ Below w.heap.size w w' := by
  obtain ⟨c0, c1, c2, c3, hb⟩ := boxes w (.slice ao xs.length c) (.slice bo ys.length d) (.string s) (.string s) 43
  replace hx := hx.below hb
  replace hy := hy.below hb
  by_cases hxy : xs.length < ys.length
  all_goals
    go_enter Tryd.func14, Tryd.ntmps14
    go_wp2
    generalize ((w.alloc (.cells #[.slice ao xs.length c, .string s] 43)).alloc (.cells #[.slice bo ys.length d, .string s] 43)) = W at *
    go_loop [8] (fun i => ∃ j : Nat, j ≤ 100 ∧ i = .int .i64 j) (fun i => 101 - (intOf i).toNat)
    case atStart => exact ⟨0, Nat.zero_le _, rfl⟩
    case round =>
      obtain ⟨j, hjk, rfl⟩ := hrel
      by_cases hjx : j < xs.length <;> by_cases hjy : j < ys.length
      · obtain ⟨b, off, -, rfl, hcx⟩ := hx j hjx
        obtain ⟨b', off', -, rfl, hcy⟩ := hy j hjy
        have heq := hs j
        rw [← heq] at hcy
        clear heq
        go_wp2
        go_round
        case rel => exact ⟨j + 1, by omega, by go_num⟩
        case measure => simp [intOf]; omega
      · first
        | (exfalso; omega)
        | (obtain ⟨b, off, -, rfl, hcx⟩ := hx j hjx
           rw [hs j, nth_none (Nat.le_of_not_lt hjy)] at hcx
           go_wp2
           go_round
           case rel => exact ⟨j + 1, by omega, by go_num⟩
           case measure => simp [intOf]; omega)
      · first
        | (exfalso; omega)
        | (obtain ⟨b', off', -, rfl, hcy⟩ := hy j hjy
           rw [← hs j, nth_none (Nat.le_of_not_lt hjx)] at hcy
           go_wp2
           go_round
           case rel => exact ⟨j + 1, by omega, by go_num⟩
           case measure => simp [intOf]; omega)
      · go_wp2_with (go_at_call 18; refine (trimPrefix _ _).mono ?_; rintro e w' ⟨rfl, rfl⟩)
        have htr := Nat.le_trans (trim_le s) htn
        clear hx hy c0 c1 c2 c3
        go_loopw [11, 12] (fun a b wr => ∃ u : ByteArray, u.size ≤ 2147483647 ∧ a = .string u ∧ b = .string u ∧ Below w.heap.size w wr) (fun a _ _ => strSize a)
        case atStart => exact ⟨trim s, htr, rfl, rfl, hb⟩
        case round =>
          obtain ⟨u, hu, rfl, rfl, hbw⟩ := hrel
          clear hb htr
          by_cases hu0 : u.size = 0
          · obtain rfl := empty_of_size hu0
            go_wp2
            go_ret
            exact ⟨rfl, hbw⟩
          · have tu : u.toList.isEmpty = false := toList_ne (by omega)
            have htl := tl_le u
            have hlt := tl_lt u (by omega)
            clear hu0
            go_wp2_with fail
            refine (splitOff_below _ _ (by unfold maxLen; omega)).mono ?_
            rintro e w2 ⟨rfl, hb2⟩
            go_wp2_with fail
            refine (splitOff_below _ _ (by unfold maxLen; omega)).mono ?_
            rintro e w3 ⟨rfl, hb3⟩
            go_wp2_with fail
            have hz := hbw.size
            have hz2 := hb2.size
            have hb4 := hbw.trans ((hb2.mono hz).trans (hb3.mono (by omega)))
            go_roundw
            case rel => exact ⟨tl u, by omega, rfl, rfl, hb4⟩
            case measure => simp [strSize]; omega
end Go.Proofs.YtilbgmeklkkknaaDoor
