/-
  What the reference's Compare does at two versions whose numbers part at a place, or whose numbers agree and whose texts are equal or one of them empty. Conditions: as each states.
-/
import Derived.Test.YtilbgmeklkkknaaDoorPlain
import Derived.Test.YtilbgmeklkkknaaDoorProg
import Derived.WalkKit
import Derived.LoopTactic
import Derived.Below
import Derived.KernelRfl
import Derived.Lib.Hide
import Derived.WalkLawsBesides
import Derived.WalkSpells
namespace Go.Proofs.YtilbgmeklkkknaaDoor
open Go.RowKit

/-- A slice of ints below block B, as a walk meets it. -/
def Ints (B : Nat) (w : World) (ao : Option Addr) (zs : List Int) : Prop :=
  ∀ k, k < zs.length → ∃ b off, b < B ∧ ao = some ⟨b, off, none⟩ ∧ w.cell? ⟨b, off + k, none⟩ = some (.int .i64 (nth zs k))

theorem Ints.below {B : Nat} {w w' : World} {ao : Option Addr} {zs : List Int} (h : Ints B w ao zs) (hb : Below B w w') : Ints B w' ao zs := by
  intro k hk
  obtain ⟨b, off, h1, h2, h3⟩ := h k hk
  exact ⟨b, off, h1, h2, by rw [hb.cell (p := ⟨b, off + k, none⟩) h1]; exact h3⟩
theorem Ints.mono {B C : Nat} {w : World} {ao : Option Addr} {zs : List Int} (h : Ints B w ao zs) (hb : B ≤ C) : Ints C w ao zs := by
  intro k hk
  obtain ⟨b, off, h1, h2, h3⟩ := h k hk
  exact ⟨b, off, by omega, h2, h3⟩

/-- two boxed versions -/
theorem boxes (w : World) (v0 v1 s0 s1 : Value) (T : TypeId) :
    ((w.alloc (.cells #[v0, s0] T)).alloc (.cells #[v1, s1] T)).cell? ⟨w.heap.size, 0, none⟩ = some v0 ∧
    ((w.alloc (.cells #[v0, s0] T)).alloc (.cells #[v1, s1] T)).cell? ⟨w.heap.size, 1, none⟩ = some s0 ∧
    ((w.alloc (.cells #[v0, s0] T)).alloc (.cells #[v1, s1] T)).cell? ⟨w.heap.size + 1, 0, none⟩ = some v1 ∧
    ((w.alloc (.cells #[v0, s0] T)).alloc (.cells #[v1, s1] T)).cell? ⟨w.heap.size + 1, 1, none⟩ = some s1 ∧
    Below w.heap.size w ((w.alloc (.cells #[v0, s0] T)).alloc (.cells #[v1, s1] T)) := by
  refine ⟨by go_simp, by go_simp, by go_simp, by go_simp, ((Below.refl _ _).alloc (Nat.le_refl _) _).alloc (by simp) _⟩

theorem sign_true (w : World) : Calls Tryd.prog 13 #[.bool true] w fun e w' => e = .returned (.int .i64 1) ∧ w = w' := by
  go_enter Tryd.func13, Tryd.ntmps13
  go_wp2
  go_ret
  exact ⟨rfl, rfl⟩
theorem sign_false (w : World) : Calls Tryd.prog 13 #[.bool false] w fun e w' => e = .returned (.int .i64 (-1)) ∧ w = w' := by
  go_enter Tryd.func13, Tryd.ntmps13
  go_wp2
  go_ret
  exact ⟨rfl, rfl⟩

set_option maxHeartbeats 2000000 in
set_option maxRecDepth 100000 in
theorem specCompare_part (ao bo : Option Addr) (c d : Nat) (xs ys : List Int) (s t : ByteArray) (w : World) (k : Nat) (r : Int) (hk : Part xs ys k)
    (hr : (nth ys k < nth xs k ∧ r = 1) ∨ (nth xs k < nth ys k ∧ r = -1)) (hx : Ints w.heap.size w ao xs) (hy : Ints w.heap.size w bo ys) (hn : xs.length ≤ 100) (hm : ys.length ≤ 100) :
    Calls Tryd.prog 7 #[.agg #[.slice ao xs.length c, .string s], .agg #[.slice bo ys.length d, .string t]] w fun e w' => e = .returned (.int .i64 r) ∧ Below w.heap.size w w' := by
  obtain ⟨c0, c1, c2, c3, hb⟩ := boxes w (.slice ao xs.length c) (.slice bo ys.length d) (.string s) (.string t) 29
  replace hx := hx.below hb
  replace hy := hy.below hb
  have HR := Lib.hid hr
  have hkl := hk.lt
  clear hr c1 c3
  by_cases hxy : xs.length < ys.length
  all_goals
    go_enter Tryd.func7, Tryd.ntmps7
    go_wp2
    generalize ((w.alloc (.cells #[.slice ao xs.length c, .string s] 29)).alloc (.cells #[.slice bo ys.length d, .string t] 29)) = W at *
    go_loop [15] (fun i => ∃ j : Nat, j ≤ k ∧ i = .int .i64 j) (fun i => k + 1 - (intOf i).toNat)
    case atStart => exact ⟨0, Nat.zero_le _, rfl⟩
    case round =>
      obtain ⟨j, hjk, rfl⟩ := hrel
      by_cases hjx : j < xs.length <;> by_cases hjy : j < ys.length
      · obtain ⟨b, off, -, rfl, hcx⟩ := hx j hjx
        obtain ⟨b', off', -, rfl, hcy⟩ := hy j hjy
        by_cases e : j = k
        · subst e
          rcases HR.out with ⟨h1, rfl⟩ | ⟨h1, rfl⟩
          · have t1 : (nth xs j != nth ys j) = true := by simp; omega
            go_wp2_with (first | (go_at_call 13; refine (sign_true _).mono ?_; rintro e w' ⟨rfl, rfl⟩))
            go_ret
            exact ⟨rfl, hb⟩
          · have t1 : (nth xs j != nth ys j) = true := by simp; omega
            have t2 : decide (nth ys j < nth xs j) = false := by simp; omega
            go_wp2_with (first | (go_at_call 13; refine (sign_false _).mono ?_; rintro e w' ⟨rfl, rfl⟩))
            go_ret
            exact ⟨rfl, hb⟩
        · have heq := hk.1 j (by omega)
          rw [← heq] at hcy
          clear heq
          go_wp2
          go_round
          case rel => exact ⟨j + 1, by omega, by go_num⟩
          case measure => simp [intOf]; omega
      · first
        | (exfalso; omega)
        | (obtain ⟨b, off, -, rfl, hcx⟩ := hx j hjx
           have z := nth_none (Nat.le_of_not_lt hjy)
           by_cases e : j = k
           · subst e
             rcases HR.out with ⟨h1, rfl⟩ | ⟨h1, rfl⟩
             · rw [z] at h1
               clear z
               have t1 : (nth xs j != 0) = true := by simp; omega
               go_wp2_with (first | (go_at_call 13; refine (sign_true _).mono ?_; rintro e w' ⟨rfl, rfl⟩))
               go_ret
               exact ⟨rfl, hb⟩
             · rw [z] at h1
               clear z
               have t1 : (nth xs j != 0) = true := by simp; omega
               have t2 : decide (0 < nth xs j) = false := by simp; omega
               go_wp2_with (first | (go_at_call 13; refine (sign_false _).mono ?_; rintro e w' ⟨rfl, rfl⟩))
               go_ret
               exact ⟨rfl, hb⟩
           · have heq := hk.1 j (by omega)
             rw [heq, z] at hcx
             clear heq z
             go_wp2
             go_round
             case rel => exact ⟨j + 1, by omega, by go_num⟩
             case measure => simp [intOf]; omega)
      · first
        | (exfalso; omega)
        | (obtain ⟨b', off', -, rfl, hcy⟩ := hy j hjy
           have z := nth_none (Nat.le_of_not_lt hjx)
           by_cases e : j = k
           · subst e
             rcases HR.out with ⟨h1, rfl⟩ | ⟨h1, rfl⟩
             · rw [z] at h1
               clear z
               have t1 : (0 != nth ys j) = true := by simp; omega
               go_wp2_with (first | (go_at_call 13; refine (sign_true _).mono ?_; rintro e w' ⟨rfl, rfl⟩))
               go_ret
               exact ⟨rfl, hb⟩
             · rw [z] at h1
               clear z
               have t1 : (0 != nth ys j) = true := by simp; omega
               have t2 : decide (nth ys j < 0) = false := by simp; omega
               go_wp2_with (first | (go_at_call 13; refine (sign_false _).mono ?_; rintro e w' ⟨rfl, rfl⟩))
               go_ret
               exact ⟨rfl, hb⟩
           · have heq := hk.1 j (by omega)
             rw [← heq, z] at hcy
             clear heq z
             go_wp2
             go_round
             case rel => exact ⟨j + 1, by omega, by go_num⟩
             case measure => simp [intOf]; omega)
      · exfalso; omega
end Go.Proofs.YtilbgmeklkkknaaDoor
