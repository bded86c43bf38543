/-
  What impl.Compare does at two versions: the sign that the statement's cases tell. Conditions: the numbers are from 0 to 10^9, at most 100 of each, the texts of at most 2^31 - 1 letters, and the two versions are of a kind that the statement asks about.
-/
import Derived.Test.YtilbgmeklkkknaaDoorSemSame
import Derived.Test.YtilbgmeklkkknaaDoorSpecSame
import Derived.Test.YtilbgmeklkkknaaDoorOf
import Derived.Deep.RegionHeld3
import Derived.Deep.DeepCutAuto
import Derived.Tactics2
namespace Go.Proofs.YtilbgmeklkkknaaDoor
open Go.RowKit

/-- a number of the sign r -/
def Sgn (n r : Int) : Prop := (1 ≤ n ∧ n ≤ 2147483647 ∧ r = 1) ∨ (n = 0 ∧ r = 0) ∨ (n ≤ -1 ∧ -2147483647 ≤ n ∧ r = -1)

/-- the numbers are ones of which the statement speaks -/
def Fits (xs : List Int) : Prop := xs.length ≤ 100 ∧ ∀ j, 0 ≤ nth xs j ∧ nth xs j ≤ 1000000000

theorem semver {xs ys : List Int} {s t : ByteArray} {r : Int} (h : Cmp xs s ys t r) (fx : Fits xs) (fy : Fits ys) (hs : s.size ≤ 2147483647) (ht : t.size ≤ 2147483647) :
    ∃ n, Sgn n r ∧ ∀ (ao bo : Option Addr) (c d : Nat) (w : World), Ints w.heap.size w ao xs → Ints w.heap.size w bo ys →
      Calls Tryd.prog 14 #[.agg #[.slice ao xs.length c, .string s], .agg #[.slice bo ys.length d, .string t]] w fun e w' => e = .returned (.int .i64 n) ∧ Below w.heap.size w w' := by
  rcases h with ⟨k, hk, hl, rfl⟩ | ⟨k, hk, hl, rfl⟩ | ⟨hsame, rfl, rfl⟩ | ⟨hsame, rfl, hne, rfl⟩ | ⟨hsame, hne, rfl, rfl⟩
  · have h1 := fx.2 k
    have h2 := fy.2 k
    exact ⟨_, .inl ⟨by omega, by omega, rfl⟩, fun ao bo c d w hx hy => semver_part ao bo c d xs ys s t k hk h1.1 h1.2 h2.1 h2.2 w hx hy fx.1 fy.1⟩
  · have h1 := fx.2 k
    have h2 := fy.2 k
    exact ⟨_, .inr (.inr ⟨by omega, by omega, rfl⟩), fun ao bo c d w hx hy => semver_part ao bo c d xs ys s t k hk h1.1 h1.2 h2.1 h2.2 w hx hy fx.1 fy.1⟩
  · exact ⟨_, .inr (.inl ⟨rfl, rfl⟩), fun ao bo c d w hx hy => semver_same ao bo c d xs ys s hsame hs w hx hy fx.1 fy.1⟩
  · have hp : 0 < t.size := by rcases Nat.eq_zero_or_pos t.size with e | e; exact absurd (empty_of_size e) hne; exact e
    exact ⟨_, .inl ⟨by omega, by omega, rfl⟩, fun ao bo c d w hx hy => semver_left ao bo c d xs ys t hsame (toList_ne hp) ht w hx hy fx.1 fy.1⟩
  · have hp : 0 < s.size := by rcases Nat.eq_zero_or_pos s.size with e | e; exact absurd (empty_of_size e) hne; exact e
    exact ⟨_, .inr (.inr ⟨by omega, by omega, rfl⟩), fun ao bo c d w hx hy => semver_right ao bo c d xs ys s hsame (toList_ne hp) hs w hx hy fx.1 fy.1⟩

theorem specCompare {xs ys : List Int} {s t : ByteArray} {r : Int} (h : Cmp xs s ys t r) (fx : Fits xs) (fy : Fits ys)
    (ao bo : Option Addr) (c d : Nat) (w : World) (hx : Ints w.heap.size w ao xs) (hy : Ints w.heap.size w bo ys) :
      Calls Tryd.prog 7 #[.agg #[.slice ao xs.length c, .string s], .agg #[.slice bo ys.length d, .string t]] w fun e w' => e = .returned (.int .i64 r) ∧ Below w.heap.size w w' := by
  rcases h with ⟨k, hk, hl, rfl⟩ | ⟨k, hk, hl, rfl⟩ | ⟨hsame, rfl, rfl⟩ | ⟨hsame, rfl, hne, rfl⟩ | ⟨hsame, hne, rfl, rfl⟩
  · exact specCompare_part ao bo c d xs ys s t w k 1 hk (.inl ⟨hl, rfl⟩) hx hy fx.1 fy.1
  · exact specCompare_part ao bo c d xs ys s t w k (-1) hk (.inr ⟨hl, rfl⟩) hx hy fx.1 fy.1
  · exact specCompare_same ao bo c d xs ys s w hsame hx hy fx.1 fy.1
  · exact specCompare_left ao bo c d xs ys t (toList_ne' hne) w hsame hx hy fx.1 fy.1
  · exact specCompare_right ao bo c d xs ys s (toList_ne' hne) w hsame hx hy fx.1 fy.1

theorem ret_int {k : IntKind} {a b : Int} (h : a = b) : Ending.returned (.int k a) = .returned (.int k b) := by rw [h]

/-- Four cells of two boxes, kept by whatever makes memory alone. -/
theorem keep4 {N : Nat} {W w1 w2 : World} {v0 v1 v2 v3 : Value} (Z : Hid (W.heap.size = N + 2))
    (h : Below (N + 2) W w1 ∧ w1.cell? ⟨N, 0, none⟩ = some v0 ∧ w1.cell? ⟨N, 1, none⟩ = some v1 ∧ w1.cell? ⟨N + 1, 0, none⟩ = some v2 ∧ w1.cell? ⟨N + 1, 1, none⟩ = some v3)
    (hb : Below w1.heap.size w1 w2) :
    Below (N + 2) W w2 ∧ w2.cell? ⟨N, 0, none⟩ = some v0 ∧ w2.cell? ⟨N, 1, none⟩ = some v1 ∧ w2.cell? ⟨N + 1, 0, none⟩ = some v2 ∧ w2.cell? ⟨N + 1, 1, none⟩ = some v3 := by
  obtain ⟨h0, h1, h2, h3, h4⟩ := h
  have hz := h0.size
  have z := Z.out
  refine ⟨h0.trans (hb.mono (by omega)), ?_, ?_, ?_, ?_⟩
  · rw [hb.cell (p := ⟨N, 0, none⟩) (by show N < _; omega)]; exact h1
  · rw [hb.cell (p := ⟨N, 1, none⟩) (by show N < _; omega)]; exact h2
  · rw [hb.cell (p := ⟨N + 1, 0, none⟩) (by show N + 1 < _; omega)]; exact h3
  · rw [hb.cell (p := ⟨N + 1, 1, none⟩) (by show N + 1 < _; omega)]; exact h4
theorem ints4 {N : Nat} {w W w1 : World} {P : Prop} {ao : Option Addr} {zs : List Int} (Z : Hid (W.heap.size = N + 2)) (hb : Below N w W) (hx : Ints N w ao zs) (h : Below (N + 2) W w1 ∧ P) : Ints w1.heap.size w1 ao zs := by
  have hz := h.1.size
  have z := Z.out
  exact ((hx.below hb).below (h.1.mono (by omega))).mono (by omega)

set_option maxHeartbeats 4000000 in
set_option maxRecDepth 100000 in
theorem implCompare {xs ys : List Int} {s t : ByteArray} {r : Int} (h : Cmp xs s ys t r) (fx : Fits xs) (fy : Fits ys) (hs : s.size ≤ 2147483647) (ht : t.size ≤ 2147483647)
    (ao bo : Option Addr) (c d : Nat) (w : World) (hx : Ints w.heap.size w ao xs) (hy : Ints w.heap.size w bo ys) :
      Calls Tryd.prog 9 #[.agg #[.slice ao xs.length c, .string s], .agg #[.slice bo ys.length d, .string t]] w fun e w' => e = .returned (.int .i64 r) ∧ Below w.heap.size w w' := by
  obtain ⟨n, hn, hc⟩ := semver h fx fy hs ht
  obtain ⟨c0, c1, c2, c3, hb⟩ := boxes w (.slice ao xs.length c) (.slice bo ys.length d) (.string s) (.string t) 24
  have hz : ((w.alloc (.cells #[.slice ao xs.length c, .string s] 24)).alloc (.cells #[.slice bo ys.length d, .string t] 24)).heap.size = w.heap.size + 2 := by simp
  have Z := Lib.hid hz
  clear hz h fx fy hs ht
  go_enter Tryd.func9, Tryd.ntmps9
  go_wp2
  generalize ((w.alloc (.cells #[.slice ao xs.length c, .string s] 24)).alloc (.cells #[.slice bo ys.length d, .string t] 24)) = W at *
  go_region_held3 (fun w' => Below (w.heap.size + 2) W w' ∧ w'.cell? ⟨w.heap.size, 0, none⟩ = some (.slice ao xs.length c) ∧ w'.cell? ⟨w.heap.size, 1, none⟩ = some (.string s) ∧ w'.cell? ⟨w.heap.size + 1, 0, none⟩ = some (.slice bo ys.length d) ∧ w'.cell? ⟨w.heap.size + 1, 1, none⟩ = some (.string t))
    (first | exact ⟨(Below.refl _ _).drew, c0, c1, c2, c3⟩ | exact keep4 Z (by assumption) (by assumption))
    (first | (go_at_call 15; refine (implOf _ _ _ _ _).mono ?_; rintro e w' ⟨rfl, hb1⟩) | (go_at_call 14; refine (hc _ _ _ _ _ (ints4 Z hb hx (by assumption)) (ints4 Z hb hy (by assumption))).mono ?_; rintro e w' ⟨rfl, hb1⟩))
  rename_i hHeld
  have hh : Below w.heap.size w w' := hb.trans (hHeld.1.mono (by omega))
  clear hHeld c0 c1 c2 c3 hx hy hc
  rcases hn with ⟨h1, h2, rfl⟩ | ⟨rfl, rfl⟩ | ⟨h1, h2, rfl⟩
  all_goals
    go_wp2
    go_ret
    exact ⟨ret_int (by omega), hh⟩
end Go.Proofs.YtilbgmeklkkknaaDoor
