/-
  What compat.CompareSemver does at two versions: where the numbers part, their difference there; where they agree, 0 at equal texts, and the lengths' difference where one text is empty. Conditions: as each states.
-/
import Derived.Test.YtilbgmeklkkknaaDoorSpec
import Derived.Test.YtilbgmeklkkknaaDoorSplit
namespace Go.Proofs.YtilbgmeklkkknaaDoor
open Go.RowKit

theorem splitOff_below (s : ByteArray) (w : World) (hs : s.size ≤ maxLen) :
    Calls Tryd.prog 19 #[.string s] w fun e w' => e = .returned (.tuple #[.string (hd s), .string (tl s)]) ∧ Below w.heap.size w w' :=
  (splitOff s w hs).mono fun _ _ ⟨h, n, hn⟩ => ⟨h, by subst hn; exact ⟨rfl, rfl, rfl, Nat.le_refl _, fun _ _ => rfl⟩⟩

/-- what is left of a text without the hyphen in front -/
def trim (s : ByteArray) : ByteArray := ⟨(Lib.trimPrefix s.data.toList [45]).toArray⟩
theorem trim_le (s : ByteArray) : (trim s).size ≤ s.size := by
  show (Lib.trimPrefix s.data.toList [45]).toArray.size ≤ s.data.size
  unfold Lib.trimPrefix
  split <;> simp
theorem trimPrefix (s : ByteArray) (w : World) : Calls Tryd.prog 18 #[.string s, .string ⟨#[45]⟩] w fun e w' => e = .returned (.string (trim s)) ∧ w = w' :=
  (Tryd.strings_TrimPrefix s ⟨#[45]⟩ w).mono fun _ _ h => ⟨h.1, h.2.symm⟩

set_option maxHeartbeats 2000000 in
set_option maxRecDepth 100000 in
theorem semver_part (ao bo : Option Addr) (c d : Nat) (xs ys : List Int) (s t : ByteArray) (k : Nat) (hk : Part xs ys k) (hx0 : 0 ≤ nth xs k) (hx1 : nth xs k ≤ 1000000000) (hy0 : 0 ≤ nth ys k) (hy1 : nth ys k ≤ 1000000000) (w : World)
    (hx : Ints w.heap.size w ao xs) (hy : Ints w.heap.size w bo ys) (hn : xs.length ≤ 100) (hm : ys.length ≤ 100) :
    Calls Tryd.prog 14 #[.agg #[.slice ao xs.length c, .string s], .agg #[.slice bo ys.length d, .string t]] w fun e w' => e = .returned (.int .i64 (nth xs k - nth ys k)) ∧ Below w.heap.size w w' := by
  obtain ⟨c0, c1, c2, c3, hb⟩ := boxes w (.slice ao xs.length c) (.slice bo ys.length d) (.string s) (.string t) 43
  replace hx := hx.below hb
  replace hy := hy.below hb
  have hkl := hk.lt
  clear c1 c3
  by_cases hxy : xs.length < ys.length
  all_goals
    go_enter Tryd.func14, Tryd.ntmps14
    go_wp2
    generalize ((w.alloc (.cells #[.slice ao xs.length c, .string s] 43)).alloc (.cells #[.slice bo ys.length d, .string t] 43)) = W at *
    go_loop [8] (fun i => ∃ j : Nat, j ≤ k ∧ i = .int .i64 j) (fun i => k + 1 - (intOf i).toNat)
    case atStart => exact ⟨0, Nat.zero_le _, rfl⟩
    case round =>
      obtain ⟨j, hjk, rfl⟩ := hrel
      by_cases hjx : j < xs.length <;> by_cases hjy : j < ys.length
      · obtain ⟨b, off, -, rfl, hcx⟩ := hx j hjx
        obtain ⟨b', off', -, rfl, hcy⟩ := hy j hjy
        by_cases e : j = k
        · subst e
          have t1 : (nth xs j != nth ys j) = true := by simpa using hk.2
          go_wp2
          go_ret
          exact ⟨rfl, hb⟩
        · have heq := hk.1 j (by omega)
          rw [← heq] at hcy
          clear heq
          go_wp2
          go_round
          case rel => exact ⟨j + 1, by omega, by go_num⟩
          case measure => simp [intOf]; omega
      · first
        | (exfalso; omega)
        | (obtain ⟨b, off, -, rfl, hcx⟩ := hx j hjx
           have z := nth_none (Nat.le_of_not_lt hjy)
           by_cases e : j = k
           · subst e
             have h2 := hk.2
             rw [z] at h2
             have Z := Lib.hid z
             clear z
             have t1 : (nth xs j != 0) = true := by simpa using h2
             clear h2
             go_wp2
             go_ret
             refine ⟨?_, hb⟩
             rw [Z.out]
             simp
           · have heq := hk.1 j (by omega)
             rw [heq, z] at hcx
             clear heq z
             go_wp2
             go_round
             case rel => exact ⟨j + 1, by omega, by go_num⟩
             case measure => simp [intOf]; omega)
      · first
        | (exfalso; omega)
        | (obtain ⟨b, off, -, rfl, hcy⟩ := hy j hjy
           have z := nth_none (Nat.le_of_not_lt hjx)
           by_cases e : j = k
           · subst e
             have h2 := hk.2
             rw [z] at h2
             have Z := Lib.hid z
             clear z
             have t1 : (0 != nth ys j) = true := by simpa using h2
             clear h2
             go_wp2
             go_ret
             refine ⟨?_, hb⟩
             rw [Z.out]
             simp
           · have heq := hk.1 j (by omega)
             rw [← heq, z] at hcy
             clear heq z
             go_wp2
             go_round
             case rel => exact ⟨j + 1, by omega, by go_num⟩
             case measure => simp [intOf]; omega)
      · exfalso; omega
end Go.Proofs.YtilbgmeklkkknaaDoor
