/-
  What splitOffNextPreReleasePart does at every text: what stands ahead of its first point, and what stands behind it. Condition: the text is no longer than a slice can be.
-/
import Derived.Test.YtilbgmeklkkknaaDoorPlain
import Derived.Test.YtilbgmeklkkknaaDoorShelf
import Derived.WalkKit
import Derived.KernelRfl
import Derived.Lib.Hide
import Derived.BigQuiet
import Derived.RegionTactic
import Derived.Deep.QuietTactic
import Derived.IntWalk
namespace Go.Proofs.YtilbgmeklkkknaaDoor
open Go.RowKit

theorem indexPoint (s : ByteArray) (w : World) : Calls Tryd.prog 27 #[.string s, .int .u8 46] w fun e w' => e = .returned (.int .i64 (pt s)) ∧ w = w' :=
  (Tryd.strings_IndexByte s 46 w).mono fun _ _ h => ⟨h.1, h.2.symm⟩

set_option maxHeartbeats 1000000 in
set_option maxRecDepth 100000 in
theorem splitOff (s : ByteArray) (w : World) (hs : s.size ≤ maxLen) :
    Calls Tryd.prog 19 #[.string s] w fun e w' => e = .returned (.tuple #[.string (hd s), .string (tl s)]) ∧ ∃ n, w' = w.drewN n := by
  unfold maxLen at hs
  have h1 := pt_ge s
  have h2 := pt_lt s
  unfold hd tl
  by_cases h : pt s = -1
  · rw [if_pos h, if_pos h]
    have t1 : (pt s != -1) = false := by simp [h]
    clear h h1 h2
    go_enter Tryd.func19, Tryd.ntmps19
    go_wp2_with (go_at_call 27; refine (indexPoint _ _).mono ?_; rintro e w' ⟨rfl, rfl⟩)
    go_ret2
    exact ⟨rfl, 0, rfl⟩
  · rw [if_neg h, if_neg h]
    have t1 : (pt s != -1) = true := by simp [h]
    have h3 : pt s < s.size := by omega
    have h4 : 0 ≤ pt s := by omega
    clear h h1 h2
    go_enter Tryd.func19, Tryd.ntmps19
    go_wp2_with (go_at_call 27; refine (indexPoint _ _).mono ?_; rintro e w' ⟨rfl, rfl⟩)
    have k1 : IntKind.i64.wrap (pt s + 1) = pt s + 1 := IntWalk.i64_in _ (by omega)
    have k2 : 0 ≤ pt s + 1 := by omega
    have k3 : (pt s + 1).toNat = (pt s).toNat + 1 := by omega
    have k4 : pt s + 1 ≤ (s.size : Int) := by omega
    have k5 : pt s ≤ (s.size : Int) := by omega
    go_quiet (fail)
    clear k1 k2 k3 k4 k5
    go_wp2
    go_ret2
    exact ⟨rfl, _, rfl⟩
end Go.Proofs.YtilbgmeklkkknaaDoor
