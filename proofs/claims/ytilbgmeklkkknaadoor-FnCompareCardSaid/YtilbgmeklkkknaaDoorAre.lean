/-
  What the statement's guards do: zzFits1 (the size), spec.IsVersion, and are at two versions. Conditions: the lengths are ones that a slice or a text can have.
-/
import Derived.Test.YtilbgmeklkkknaaDoorSpec
import Derived.Test.YtilbgmeklkkknaaDoorOf
import Derived.LoopN
namespace Go.Proofs.YtilbgmeklkkknaaDoor
open Go.RowKit

set_option maxRecDepth 100000 in
theorem zzFits (ao : Option Addr) (n c : Nat) (s : ByteArray) (w : World) (hn : n ≤ 2147483647) (hs : s.size ≤ 2147483647) :
    Calls Tryd.prog 4 #[.agg #[.slice ao n c, .string s]] w fun e w' => e = .returned (.bool true) ∧ Below w.heap.size w w' := by
  go_enter Tryd.func4, Tryd.ntmps4
  go_wp2
  go_ret
  exact ⟨rfl, (Below.refl _ _).alloc (Nat.le_refl _) _⟩
set_option maxRecDepth 100000 in
theorem zzFits_long (ao : Option Addr) (n c : Nat) (s : ByteArray) (w : World) (hm : n ≤ maxLen) (hn : 2147483647 < n) :
    Calls Tryd.prog 4 #[.agg #[.slice ao n c, .string s]] w fun e w' => e = .returned (.bool false) ∧ Below w.heap.size w w' := by
  unfold maxLen at hm
  go_enter Tryd.func4, Tryd.ntmps4
  go_wp2
  go_ret
  exact ⟨rfl, (Below.refl _ _).alloc (Nat.le_refl _) _⟩
set_option maxRecDepth 100000 in
theorem zzFits_text (ao : Option Addr) (n c : Nat) (s : ByteArray) (w : World) (hn : n ≤ 2147483647) (hm : s.size ≤ maxLen) (hs : 2147483647 < s.size) :
    Calls Tryd.prog 4 #[.agg #[.slice ao n c, .string s]] w fun e w' => e = .returned (.bool false) ∧ Below w.heap.size w w' := by
  unfold maxLen at hm
  go_enter Tryd.func4, Tryd.ntmps4
  go_wp2
  go_ret
  exact ⟨rfl, (Below.refl _ _).alloc (Nat.le_refl _) _⟩

def okAt (xs : List Int) (j : Nat) : Prop := 0 ≤ nth xs j ∧ nth xs j ≤ 1000000000
def Ver (xs : List Int) : Prop := (∀ j, j < xs.length → okAt xs j) ∧ xs.length ≤ 100

/-- a boxed version -/
theorem box1 (w : World) (v s : Value) (T : TypeId) :
    (w.alloc (.cells #[v, s] T)).cell? ⟨w.heap.size, 0, none⟩ = some v ∧
    Below w.heap.size w (w.alloc (.cells #[v, s] T)) :=
  ⟨by go_simp, (Below.refl _ _).alloc (Nat.le_refl _) _⟩

set_option maxHeartbeats 2000000 in
set_option maxRecDepth 100000 in
theorem isVersion_good (ao : Option Addr) (c : Nat) (xs : List Int) (s : ByteArray) (b : Bool) (hb : b = decide (xs.length ≤ 100)) (w : World) (hx : Ints w.heap.size w ao xs)
    (hn : xs.length ≤ 2147483647) (hok : ∀ j, j < xs.length → okAt xs j) :
    Calls Tryd.prog 10 #[.agg #[.slice ao xs.length c, .string s]] w fun e w' => e = .returned (.bool b) ∧ Below w.heap.size w w' := by
  obtain ⟨c0, hb0⟩ := box1 w (.slice ao xs.length c) (.string s) 29
  replace hx := hx.below hb0
  have HB := Lib.hid hb
  clear hb
  go_enter Tryd.func10, Tryd.ntmps10
  go_wp2
  generalize (w.alloc (.cells #[.slice ao xs.length c, .string s] 29)) = W at *
  go_loop [8] (fun i => ∃ j : Nat, j ≤ xs.length ∧ i = .int .i64 j) (fun i => xs.length - (intOf i).toNat)
  case atStart => exact ⟨0, Nat.zero_le _, rfl⟩
  case round =>
    obtain ⟨j, hjk, rfl⟩ := hrel
    by_cases hjx : j < xs.length
    · obtain ⟨b', off, -, rfl, hcx⟩ := hx j hjx
      obtain ⟨h1, h2⟩ := hok j hjx
      go_wp2
      go_round
      case rel => exact ⟨j + 1, by omega, by go_num⟩
      case measure => simp [intOf]; omega
    · go_wp2
      go_ret
      exact ⟨by rw [HB.out]; simp; omega, hb0⟩

set_option maxHeartbeats 2000000 in
set_option maxRecDepth 100000 in
theorem isVersion_bad (ao : Option Addr) (c : Nat) (xs : List Int) (s : ByteArray) (k : Nat) (hk : k < xs.length) (hbad : nth xs k < 0 ∨ 1000000000 < nth xs k) (w : World) (hx : Ints w.heap.size w ao xs)
    (hn : xs.length ≤ 2147483647) (hok : ∀ j, j < k → okAt xs j) :
    Calls Tryd.prog 10 #[.agg #[.slice ao xs.length c, .string s]] w fun e w' => e = .returned (.bool false) ∧ Below w.heap.size w w' := by
  obtain ⟨c0, hb0⟩ := box1 w (.slice ao xs.length c) (.string s) 29
  replace hx := hx.below hb0
  have HB := Lib.hid hbad
  clear hbad
  go_enter Tryd.func10, Tryd.ntmps10
  go_wp2
  generalize (w.alloc (.cells #[.slice ao xs.length c, .string s] 29)) = W at *
  go_loop [8] (fun i => ∃ j : Nat, j ≤ k ∧ i = .int .i64 j) (fun i => k + 1 - (intOf i).toNat)
  case atStart => exact ⟨0, Nat.zero_le _, rfl⟩
  case round =>
    obtain ⟨j, hjk, rfl⟩ := hrel
    obtain ⟨b', off, -, rfl, hcx⟩ := hx j (by omega)
    by_cases e : j = k
    · subst e
      rcases HB.out with h1 | h1
      · go_wp2
        go_ret
        exact ⟨rfl, hb0⟩
      · have h0 : 0 ≤ nth xs j := by omega
        go_wp2
        go_ret
        exact ⟨rfl, hb0⟩
    · obtain ⟨h1, h2⟩ := hok j (by omega)
      go_wp2
      go_round
      case rel => exact ⟨j + 1, by omega, by go_num⟩
      case measure => simp [intOf]; omega

theorem first_bad (xs : List Int) (n : Nat) : (∀ j, j < n → okAt xs j) ∨ ∃ k, k < n ∧ (nth xs k < 0 ∨ 1000000000 < nth xs k) ∧ ∀ j, j < k → okAt xs j := by
  induction n with
  | zero => exact .inl fun j h => absurd h (Nat.not_lt_zero j)
  | succ n ih =>
    rcases ih with h | ⟨k, h1, h2, h3⟩
    · by_cases e : okAt xs n
      · exact .inl fun j hj => by
          rcases Nat.lt_or_ge j n with h1 | h1
          · exact h j h1
          · obtain rfl : j = n := by omega
            exact e
      · exact .inr ⟨n, by omega, by unfold okAt at e; omega, h⟩
    · exact .inr ⟨k, by omega, h2, h3⟩

theorem isVersion (xs : List Int) (hn : xs.length ≤ 2147483647) : ∃ b : Bool, (b = true ↔ Ver xs) ∧ ∀ (ao : Option Addr) (c : Nat) (s : ByteArray) (w : World), Ints w.heap.size w ao xs →
    Calls Tryd.prog 10 #[.agg #[.slice ao xs.length c, .string s]] w fun e w' => e = .returned (.bool b) ∧ Below w.heap.size w w' := by
  rcases first_bad xs xs.length with h | ⟨k, h1, h2, h3⟩
  · exact ⟨decide (xs.length ≤ 100), ⟨fun e => ⟨h, by simpa using e⟩, fun e => by simpa using e.2⟩, fun ao c s w hx => isVersion_good ao c xs s _ rfl w hx hn h⟩
  · exact ⟨false, ⟨(fun e => by cases e), fun e => by have := e.1 k h1; unfold okAt at this; omega⟩, fun ao c s w hx => isVersion_bad ao c xs s k h1 h2 w hx hn h3⟩

set_option maxHeartbeats 2000000 in
set_option maxRecDepth 100000 in
theorem are_two (V : Nat) (ao bo : Option Addr) (c d : Nat) (xs ys : List Int) (s t : ByteArray) (ba bb : Bool)
    (ha : ∀ (ao : Option Addr) (c : Nat) (s : ByteArray) (w : World), Ints w.heap.size w ao xs → Calls Tryd.prog 10 #[.agg #[.slice ao xs.length c, .string s]] w fun e w' => e = .returned (.bool ba) ∧ Below w.heap.size w w')
    (hb : ∀ (ao : Option Addr) (c : Nat) (s : ByteArray) (w : World), Ints w.heap.size w ao ys → Calls Tryd.prog 10 #[.agg #[.slice ao ys.length c, .string s]] w fun e w' => e = .returned (.bool bb) ∧ Below w.heap.size w w')
    (w : World) (hx : Ints w.heap.size w ao xs) (hy : Ints w.heap.size w bo ys) (hV : V < w.heap.size)
    (c0 : w.cell? ⟨V, 0, none⟩ = some (.slice ao xs.length c)) (c1 : w.cell? ⟨V, 1, none⟩ = some (.string s)) (c2 : w.cell? ⟨V, 2, none⟩ = some (.slice bo ys.length d)) (c3 : w.cell? ⟨V, 3, none⟩ = some (.string t)) :
    Calls Tryd.prog 5 #[.slice (some ⟨V, 0, none⟩) 2 2] w fun e w' => e = .returned (.bool (ba && bb)) ∧ Below w.heap.size w w' := by
  have HA := Lib.hid ha
  have HB := Lib.hid hb
  have C2 := Lib.hid c2
  have C3 := Lib.hid c3
  clear ha hb c2 c3
  go_enter Tryd.func5, Tryd.ntmps5
  go_wp2
  refine wp_loop_rounds 3 ?_
  rw [rounds_succ]
  go_wp2_with fail
  refine (lawsOf _ _ _ _ _).mono ?_
  rintro e w1 ⟨rfl, hb1⟩
  have hb1' : Below w.heap.size w w1 := ((Below.refl _ _).alloc (Nat.le_refl _) _).trans (hb1.mono (by simp))
  go_wp2_with fail
  refine (HA.out _ _ _ _ ((hx.below hb1').mono hb1'.size)).mono ?_
  rintro e w2 ⟨rfl, hb2⟩
  have hb2' : Below w.heap.size w w2 := hb1'.trans (hb2.mono hb1'.size)
  cases ba
  · go_wp2
    go_ret
    exact ⟨rfl, hb2'⟩
  · have c2 : w2.cell? ⟨V, 2, none⟩ = some (.slice bo ys.length d) := by rw [hb2'.cell (p := ⟨V, 2, none⟩) hV]; exact C2.out
    have c3 : w2.cell? ⟨V, 3, none⟩ = some (.string t) := by rw [hb2'.cell (p := ⟨V, 3, none⟩) hV]; exact C3.out
    go_wp2_with fail
    rw [rounds_succ]
    go_wp2_with fail
    refine (lawsOf _ _ _ _ _).mono ?_
    rintro e w3 ⟨rfl, hb3⟩
    have hb3' : Below w.heap.size w w3 := hb2'.trans (((Below.refl _ _).alloc hb2'.size _).trans (hb3.mono (by have := hb2'.size; simp; omega)))
    go_wp2_with fail
    refine (HB.out _ _ _ _ ((hy.below hb3').mono hb3'.size)).mono ?_
    rintro e w4 ⟨rfl, hb4⟩
    have hb4' : Below w.heap.size w w4 := hb3'.trans (hb4.mono hb3'.size)
    cases bb
    · go_wp2
      go_ret
      exact ⟨rfl, hb4'⟩
    · go_wp2_with fail
      rw [rounds_succ]
      go_wp2
      go_ret
      exact ⟨rfl, hb4'⟩

end Go.Proofs.YtilbgmeklkkknaaDoor
