/-
  What the two small conversions of a version do (laws.of, impl.of): the same slice and the same text, in new memory; nothing that was there turns. No condition.
-/
import Derived.Test.YtilbgmeklkkknaaDoorProg
import Derived.WalkKit
import Derived.Below
import Derived.KernelRfl
namespace Go.Proofs.YtilbgmeklkkknaaDoor
open Go.RowKit

set_option maxRecDepth 100000 in
theorem implOf (ao : Option Addr) (n c : Nat) (s : ByteArray) (w : World) :
    Calls Tryd.prog 15 #[.agg #[.slice ao n c, .string s]] w fun e w' => e = .returned (.agg #[.slice ao n c, .string s]) ∧ Below w.heap.size w w' := by
  go_enter Tryd.func15, Tryd.ntmps15
  go_wp2
  refine bodyPost_ret (v := .agg #[.slice ao n c, .string s]) (by simp [results, Tryd.results15, go_sem]) rfl ⟨rfl, ?_⟩
  exact ((Below.refl _ _).alloc (Nat.le_refl _) _).alloc (by simp) _

set_option maxRecDepth 100000 in
theorem lawsOf (ao : Option Addr) (n c : Nat) (s : ByteArray) (w : World) :
    Calls Tryd.prog 8 #[.agg #[.slice ao n c, .string s]] w fun e w' => e = .returned (.agg #[.slice ao n c, .string s]) ∧ Below w.heap.size w w' := by
  go_enter Tryd.func8, Tryd.ntmps8
  go_wp2
  refine bodyPost_ret (v := .agg #[.slice ao n c, .string s]) (by simp [results, Tryd.results8, go_sem]) rfl ⟨rfl, ?_⟩
  exact ((Below.refl _ _).alloc (Nat.le_refl _) _).alloc (by simp) _
end Go.Proofs.YtilbgmeklkkknaaDoor
