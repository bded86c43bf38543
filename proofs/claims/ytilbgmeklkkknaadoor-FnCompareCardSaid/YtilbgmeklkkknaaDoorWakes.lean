/-
  What the closed call laws.wakes() does, in whatever world: it returns true, and nothing that was there has turned. No condition.
-/
import Derived.Test.YtilbgmeklkkknaaDoorBld
import Derived.Test.YtilbgmeklkkknaaDoorOf
import Derived.LoopN
namespace Go.Proofs.YtilbgmeklkkknaaDoor
open Go.RowKit

theorem itoa1 (w : World) : Calls Tryd.prog 24 #[.int .i64 1] w fun e w' => e = .returned (.string ⟨#[49]⟩) ∧ w' = w :=
  (Tryd.strconv_Itoa_small 1 (by omega) w).mono fun _ _ h => by rw [show Lib.decDigits 1 = [49] by rw [Lib.decDigits]; rfl] at h; exact h
theorem itoa2 (w : World) : Calls Tryd.prog 24 #[.int .i64 2] w fun e w' => e = .returned (.string ⟨#[50]⟩) ∧ w' = w :=
  (Tryd.strconv_Itoa_small 2 (by omega) w).mono fun _ _ h => by rw [show Lib.decDigits 2 = [50] by rw [Lib.decDigits]; rfl] at h; exact h

set_option maxHeartbeats 2000000 in
set_option maxRecDepth 100000 in
theorem semverString (A : Nat) (w : World) (h0 : w.cell? ⟨A, 0, none⟩ = some (.int .i64 1)) (h1 : w.cell? ⟨A, 1, none⟩ = some (.int .i64 2)) (hA : A < w.heap.size) :
    Calls Tryd.prog 16 #[.agg #[.slice (some ⟨A, 0, none⟩) 2 2, .string ⟨#[45, 120]⟩]] w fun e w' => e = .returned (.string ⟨#[49, 46, 50, 45, 120]⟩) ∧ Below w.heap.size w w' := by
  have hI0 : Lib.IsBuilderF 59 5 (w.heap.size + 1) (w.heap.size + 1) [] ((w.alloc (.cells #[.slice (some ⟨A, 0, none⟩) 2 2, .string ⟨#[45, 120]⟩] 43)).alloc (.cells #[.pointer none, .slice none 0 0] 59)) := by
    have := Lib.IsBuilderF.of (Lib.fresh_isBuilder 59 5 (w.alloc (.cells #[.slice (some ⟨A, 0, none⟩) 2 2, .string ⟨#[45, 120]⟩] 43)))
    simpa using this
  have hW0 : Below w.heap.size w ((w.alloc (.cells #[.slice (some ⟨A, 0, none⟩) 2 2, .string ⟨#[45, 120]⟩] 43)).alloc (.cells #[.pointer none, .slice none 0 0] 59)) :=
    ((Below.refl _ _).alloc (Nat.le_refl _) _).alloc (by simp) _
  have hz0 : ((w.alloc (.cells #[.slice (some ⟨A, 0, none⟩) 2 2, .string ⟨#[45, 120]⟩] 43)).alloc (.cells #[.pointer none, .slice none 0 0] 59)).heap.size = w.heap.size + 2 := by simp
  have e0 : ((w.alloc (.cells #[.slice (some ⟨A, 0, none⟩) 2 2, .string ⟨#[45, 120]⟩] 43)).alloc (.cells #[.pointer none, .slice none 0 0] 59)).cell? ⟨A, 0, none⟩ = some (.int .i64 1) := by
    rw [hW0.cell (p := ⟨A, 0, none⟩) hA]; exact h0
  have e1 : ((w.alloc (.cells #[.slice (some ⟨A, 0, none⟩) 2 2, .string ⟨#[45, 120]⟩] 43)).alloc (.cells #[.pointer none, .slice none 0 0] 59)).cell? ⟨A, 1, none⟩ = some (.int .i64 2) := by
    rw [hW0.cell (p := ⟨A, 1, none⟩) hA]; exact h1
  have e2 : ((w.alloc (.cells #[.slice (some ⟨A, 0, none⟩) 2 2, .string ⟨#[45, 120]⟩] 43)).alloc (.cells #[.pointer none, .slice none 0 0] 59)).cell? ⟨w.heap.size, 1, none⟩ = some (.string ⟨#[45, 120]⟩) := by
    go_simp
  have E0 := Lib.hid e0
  have E1 := Lib.hid e1
  have E2 := Lib.hid e2
  have Z0 := Lib.hid hz0
  clear e0 e1 e2 hz0
  go_enter Tryd.func16, Tryd.ntmps16
  go_wp2
  generalize ((w.alloc (.cells #[.slice (some ⟨A, 0, none⟩) 2 2, .string ⟨#[45, 120]⟩] 43)).alloc (.cells #[.pointer none, .slice none 0 0] 59)) = W0 at *
  have e0 := E0.out
  refine wp_loop_rounds 3 ?_
  rw [rounds_succ]
  go_wp2_with fail
  refine (Tryd.Builder_Len_f _ _ _ _ hI0).mono ?_
  rintro e w1 ⟨rfl, rfl⟩
  go_wp2_with fail
  refine (itoa1 _).mono ?_
  rintro e w1 ⟨rfl, rfl⟩
  go_wp2_with fail
  refine (writeString _ _ _ _ _ hI0 (by decide) (by have := Z0.out; omega)).mono ?_
  rintro e w2 ⟨rfl, hI1, hb1, -⟩
  have e1 : w2.cell? ⟨A, 1, none⟩ = some (.int .i64 2) := by rw [hb1.cell (p := ⟨A, 1, none⟩) (by show A < _; omega)]; exact E1.out
  go_wp2_with fail
  rw [rounds_succ]
  go_wp2_with fail
  refine (Tryd.Builder_Len_f _ _ _ _ hI1).mono ?_
  rintro e w3 ⟨rfl, rfl⟩
  go_wp2_with fail
  have hz1 : w.heap.size + 1 ≤ w3.heap.size := by have := hb1.size; have := Z0.out; omega
  refine (writeRune _ _ _ _ (by decide) (by decide) _ hI1 (by decide) hz1).mono ?_
  rintro e w4 ⟨rfl, hI2, hb2, -⟩
  have hb12 := hb1.trans hb2
  have hz2 : w.heap.size + 1 ≤ w4.heap.size := by have := hb2.size; omega
  go_wp2_with fail
  refine (itoa2 _).mono ?_
  rintro e w5 ⟨rfl, rfl⟩
  go_wp2_with fail
  refine (writeString _ _ _ _ _ hI2 (by decide) hz2).mono ?_
  rintro e w6 ⟨rfl, hI3, hb3, -⟩
  have hb13 := hb12.trans hb3
  have hz3 : w.heap.size + 1 ≤ w6.heap.size := by have := hb3.size; omega
  have e2 : w6.cell? ⟨w.heap.size, 1, none⟩ = some (.string ⟨#[45, 120]⟩) := by rw [hb13.cell (p := ⟨w.heap.size, 1, none⟩) (by show w.heap.size < _; omega)]; exact E2.out
  go_wp2_with fail
  rw [rounds_succ]
  go_wp2_with fail
  refine (writeString _ _ _ _ _ hI3 (by decide) hz3).mono ?_
  rintro e w7 ⟨rfl, hI4, hb4, -⟩
  have hb14 := hb13.trans hb4
  go_wp2_with fail
  refine (Tryd.Builder_String_any_k _ _ [49, 46, 50, 45, 120] _ hI4 (by have := hb4.size; omega)).mono ?_
  rintro e w8 ⟨rfl, -, hb5, -⟩
  go_wp2
  go_ret
  exact ⟨rfl, hW0.trans ((hb14.trans hb5).mono (by omega))⟩

set_option maxHeartbeats 2000000 in
set_option maxRecDepth 100000 in
theorem implText (A : Nat) (w : World) (h0 : w.cell? ⟨A, 0, none⟩ = some (.int .i64 1)) (h1 : w.cell? ⟨A, 1, none⟩ = some (.int .i64 2)) (hA : A < w.heap.size) :
    Calls Tryd.prog 11 #[.agg #[.slice (some ⟨A, 0, none⟩) 2 2, .string ⟨#[45, 120]⟩]] w fun e w' => e = .returned (.string ⟨#[49, 46, 50, 45, 120]⟩) ∧ Below w.heap.size w w' := by
  have H0 := Lib.hid h0
  have H1 := Lib.hid h1
  clear h0 h1
  go_enter Tryd.func11, Tryd.ntmps11
  go_wp2_with fail
  refine (implOf _ _ _ _ _).mono ?_
  rintro e w1 ⟨rfl, hb1⟩
  have hW : Below w.heap.size w w1 := ((Below.refl _ _).alloc (Nat.le_refl _) _).trans (hb1.mono (by simp))
  go_wp2_with fail
  refine (semverString A w1 (by rw [hW.cell (p := ⟨A, 0, none⟩) hA]; exact H0.out) (by rw [hW.cell (p := ⟨A, 1, none⟩) hA]; exact H1.out) (by have := hW.size; omega)).mono ?_
  rintro e w2 ⟨rfl, hb2⟩
  go_wp2
  go_ret
  exact ⟨rfl, hW.trans (hb2.mono hW.size)⟩

set_option maxHeartbeats 2000000 in
set_option maxRecDepth 100000 in
theorem templateToString (T c : Nat) (w : World) (h0 : w.cell? ⟨T, 0, none⟩ = some (.string ⟨#[97]⟩)) (h1 : w.cell? ⟨T, 1, none⟩ = some (.int .u8 1)) (hT : T < w.heap.size) :
    Calls Tryd.prog 17 #[.slice (some ⟨T, 0, none⟩) 1 c] w fun e w' => e = .returned (.string ⟨#[97, 91, 100, 105, 114, 93]⟩) ∧ Below w.heap.size w w' := by
  have hI0 : Lib.IsBuilderF 59 5 w.heap.size w.heap.size [] ((w.alloc (.cells #[.pointer none, .slice none 0 0] 59)).alloc (.cells #[.string ⟨#[97]⟩, .int .u8 1] 49)) :=
    (Lib.IsBuilderF.of (Lib.fresh_isBuilder 59 5 w)).alloc _
  have hW0 : Below w.heap.size w ((w.alloc (.cells #[.pointer none, .slice none 0 0] 59)).alloc (.cells #[.string ⟨#[97]⟩, .int .u8 1] 49)) :=
    ((Below.refl _ _).alloc (Nat.le_refl _) _).alloc (by simp) _
  have hz0 : w.heap.size ≤ ((w.alloc (.cells #[.pointer none, .slice none 0 0] 59)).alloc (.cells #[.string ⟨#[97]⟩, .int .u8 1] 49)).heap.size := hW0.size
  have hb0 : ((w.alloc (.cells #[.pointer none, .slice none 0 0] 59)).alloc (.cells #[.string ⟨#[97]⟩, .int .u8 1] 49)).heap[w.heap.size + 1]? = some (.cells #[.string ⟨#[97]⟩, .int .u8 1] 49) := by
    have := heap_alloc_new (w.alloc (.cells #[.pointer none, .slice none 0 0] 59)) (.cells #[.string ⟨#[97]⟩, .int .u8 1] 49)
    simpa using this
  have B0 := Lib.hid hb0
  clear hb0
  go_enter Tryd.func17, Tryd.ntmps17
  go_wp2
  refine wp_loop_rounds 2 ?_
  rw [rounds_succ]
  go_wp2_with fail
  refine (writeString _ _ _ _ _ hI0 (by decide) hz0).mono ?_
  rintro e w1 ⟨rfl, hI1, hb1, hk1⟩
  have hz1 : w.heap.size ≤ w1.heap.size := by have := hb1.size; omega
  have e1 : w1.cell? ⟨w.heap.size + 1, 1, none⟩ = some (.int .u8 1) := by
    rw [Lib.cell_of_heap (hk1 (w.heap.size + 1) _ B0.out (by simp) (by simp))]; rfl
  go_wp2_with fail
  refine (writeString _ _ _ _ _ hI1 (by decide) hz1).mono ?_
  rintro e w2 ⟨rfl, hI2, hb2, -⟩
  have hb12 := hb1.trans hb2
  go_wp2_with fail
  rw [rounds_succ]
  go_wp2_with fail
  refine (Tryd.Builder_String_any_k _ _ [97, 91, 100, 105, 114, 93] _ hI2 (by have := hb2.size; omega)).mono ?_
  rintro e w8 ⟨rfl, -, hb5, -⟩
  go_wp2
  go_ret
  exact ⟨rfl, hW0.trans (hb12.trans hb5)⟩

set_option maxHeartbeats 2000000 in
set_option maxRecDepth 100000 in
theorem implWritten (T : Nat) (w : World) (h0 : w.cell? ⟨T, 0, none⟩ = some (.string ⟨#[97]⟩)) (h1 : w.cell? ⟨T, 1, none⟩ = some (.int .i64 1)) :
    Calls Tryd.prog 12 #[.slice (some ⟨T, 0, none⟩) 1 1] w fun e w' => e = .returned (.string ⟨#[97, 91, 100, 105, 114, 93]⟩) ∧ Below w.heap.size w w' := by
  go_enter Tryd.func12, Tryd.ntmps12
  go_wp2
  refine wp_loop_rounds 2 ?_
  rw [rounds_succ]
  go_wp2_with fail
  generalize (Question.appendCap 1 0 49).cut (w.tape w.drawn (Question.appendCap 1 0 49)) = cap
  rw [rounds_succ]
  go_wp2_with fail
  refine (templateToString (w.heap.size + 1 + 1) cap _ ?h0 ?h1 ?hT).mono ?_
  case h0 => go_simp; rw [Array.getElem?_append_left (by simp)]; rfl
  case h1 => go_simp; rw [Array.getElem?_append_left (by simp)]; rfl
  case hT => simp
  rintro e w2 ⟨rfl, hb2⟩
  go_wp2
  go_ret
  exact ⟨rfl, ((((Below.refl _ _).alloc (Nat.le_refl _) _).alloc (by simp) _).alloc (by simp; omega) _).drew.trans (hb2.mono (by simp; omega))⟩

set_option maxHeartbeats 2000000 in
set_option maxRecDepth 100000 in
theorem wakes (w : World) :
    Calls Tryd.prog 6 #[] w fun e w' => e = .returned (.bool true) ∧ Below w.heap.size w w' := by
  go_enter Tryd.func6, Tryd.ntmps6
  go_wp2_with fail
  refine (implText w.heap.size _ ?h0 ?h1 ?hA).mono ?_
  case h0 => go_simp
  case h1 => go_simp
  case hA => simp
  rintro e w1 ⟨rfl, hb1⟩
  have hW : Below w.heap.size w w1 := ((Below.refl _ _).alloc (Nat.le_refl _) _).trans (hb1.mono (by simp))
  go_wp2_with fail
  refine (implWritten w1.heap.size _ ?k0 ?k1).mono ?_
  case k0 => go_simp
  case k1 => go_simp
  rintro e w2 ⟨rfl, hb2⟩
  go_wp2
  go_ret
  exact ⟨rfl, hW.trans (((Below.refl _ _).alloc hW.size _).trans (hb2.mono (by have := hW.size; simp; omega)))⟩
end Go.Proofs.YtilbgmeklkkknaaDoor
