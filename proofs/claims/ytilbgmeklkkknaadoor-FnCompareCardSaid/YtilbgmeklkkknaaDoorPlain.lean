/-
  Plain facts, with no program in sight: two lists of numbers agree at every place, or there is a first place at which they part; the two pieces of a text at its first point. No condition.
-/
import Derived.Lib.Bytealg
import Derived.Lib.IndexLaws
namespace Go.Proofs.YtilbgmeklkkknaaDoor

/-- the number at a place, 0 where there is none -/
def nth (xs : List Int) (j : Nat) : Int := xs.getD j 0
def Same (xs ys : List Int) : Prop := ∀ j, nth xs j = nth ys j
def Part (xs ys : List Int) (k : Nat) : Prop := (∀ j, j < k → nth xs j = nth ys j) ∧ nth xs k ≠ nth ys k

theorem nth_none {xs : List Int} {j : Nat} (h : xs.length ≤ j) : nth xs j = 0 := by
  unfold nth
  simp [List.getD, List.getElem?_eq_none h]

theorem Part.lt {xs ys : List Int} {k : Nat} (h : Part xs ys k) : k < xs.length ∨ k < ys.length := by
  rcases Nat.lt_or_ge k xs.length with h1 | h1
  · exact .inl h1
  · rcases Nat.lt_or_ge k ys.length with h2 | h2
    · exact .inr h2
    · exact absurd (by rw [nth_none h1, nth_none h2]) h.2

theorem part_of_ne (xs ys : List Int) : ∀ n, nth xs n ≠ nth ys n → ∃ k, Part xs ys k := by
  intro n
  induction n using Nat.strongRecOn with
  | ind n ih =>
    intro h
    by_cases e : ∀ j, j < n → nth xs j = nth ys j
    · exact ⟨n, e, h⟩
    · obtain ⟨j, hj⟩ := Classical.not_forall.1 e
      obtain ⟨hjn, hne⟩ : j < n ∧ nth xs j ≠ nth ys j := Classical.not_imp.1 hj
      exact ih j hjn hne

theorem same_or_part (xs ys : List Int) : Same xs ys ∨ ∃ k, Part xs ys k := by
  by_cases h : Same xs ys
  · exact .inl h
  · obtain ⟨n, hn⟩ := Classical.not_forall.1 h
    exact .inr (part_of_ne xs ys n hn)

/-- how two versions compare, where the statement asks -/
def Cmp (xs : List Int) (s : ByteArray) (ys : List Int) (t : ByteArray) (r : Int) : Prop :=
  (∃ k, Part xs ys k ∧ nth ys k < nth xs k ∧ r = 1) ∨ (∃ k, Part xs ys k ∧ nth xs k < nth ys k ∧ r = -1) ∨
    (Same xs ys ∧ s = t ∧ r = 0) ∨ (Same xs ys ∧ s = ⟨#[]⟩ ∧ t ≠ ⟨#[]⟩ ∧ r = 1) ∨ (Same xs ys ∧ s ≠ ⟨#[]⟩ ∧ t = ⟨#[]⟩ ∧ r = -1)

theorem cmp_of_part {xs ys : List Int} {k : Nat} (h : Part xs ys k) (s t : ByteArray) : ∃ r, Cmp xs s ys t r ∧ r ≠ 0 := by
  rcases Int.lt_or_gt_of_ne h.2 with h1 | h1
  · exact ⟨_, .inr (.inl ⟨k, h, h1, rfl⟩), by decide⟩
  · exact ⟨_, .inl ⟨k, h, h1, rfl⟩, by decide⟩

/-- The statement's cases: the numbers agree and the texts are two that it does not ask about, or it is told how the versions compare. -/
theorem cases_of (xs ys : List Int) (s t : ByteArray) : (Same xs ys ∧ s ≠ ⟨#[]⟩ ∧ t ≠ ⟨#[]⟩ ∧ s ≠ t) ∨
    (∃ r, Cmp xs s ys t r ∧ ∃ r0, Cmp xs ⟨#[]⟩ ys ⟨#[]⟩ r0 ∧ (r0 ≠ 0 ∨ (r0 = 0 ∧ (s = ⟨#[]⟩ ∨ t = ⟨#[]⟩ ∨ s = t)))) := by
  rcases same_or_part xs ys with h | ⟨k, h⟩
  · have h0 : Cmp xs ⟨#[]⟩ ys ⟨#[]⟩ 0 := .inr (.inr (.inl ⟨h, rfl, rfl⟩))
    by_cases e : s = t
    · exact .inr ⟨0, .inr (.inr (.inl ⟨h, e, rfl⟩)), 0, h0, .inr ⟨rfl, .inr (.inr e)⟩⟩
    · by_cases es : s = ⟨#[]⟩
      · exact .inr ⟨1, .inr (.inr (.inr (.inl ⟨h, es, fun et => e (es.trans et.symm), rfl⟩))), 0, h0, .inr ⟨rfl, .inl es⟩⟩
      · by_cases et : t = ⟨#[]⟩
        · exact .inr ⟨-1, .inr (.inr (.inr (.inr ⟨h, es, et, rfl⟩))), 0, h0, .inr ⟨rfl, .inr (.inl et)⟩⟩
        · exact .inl ⟨h, es, et, e⟩
  · obtain ⟨r, hr, _⟩ := cmp_of_part h s t
    obtain ⟨r0, hr0, hne⟩ := cmp_of_part h ⟨#[]⟩ ⟨#[]⟩
    exact .inr ⟨r, hr, r0, hr0, .inl hne⟩

theorem indexByte_lt : ∀ (l : List UInt8) (c : UInt8), Lib.indexByte l c < l.length ∨ Lib.indexByte l c = -1
  | [], _ => .inr rfl
  | b :: l, c => by
    unfold Lib.indexByte
    have ih := indexByte_lt l c
    split
    · left; simp
    · split
      · exact .inr rfl
      · rename_i h
        left
        rcases ih with ih | ih
        · simp; omega
        · exact absurd ih (by simpa using h)

/-- the place of the first point, -1 if there is none -/
def pt (s : ByteArray) : Int := Lib.indexByte s.data.toList 46
/-- what stands ahead of the first point -/
def hd (s : ByteArray) : ByteArray := if pt s = -1 then s else s.extract 0 (pt s).toNat
/-- what stands behind it -/
def tl (s : ByteArray) : ByteArray := if pt s = -1 then ⟨#[]⟩ else s.extract ((pt s).toNat + 1) s.size

theorem pt_ge (s : ByteArray) : -1 ≤ pt s := Lib.indexByte_ge _ _
theorem pt_lt (s : ByteArray) : pt s < s.size ∨ pt s = -1 := by
  rcases indexByte_lt s.data.toList 46 with h | h
  · left; unfold pt; simpa using h
  · exact .inr h

theorem tl_lt (s : ByteArray) (h : 0 < s.size) : (tl s).size < s.size := by
  unfold tl
  split
  · exact h
  · simp [ByteArray.size_extract]; omega

theorem tl_le (s : ByteArray) : (tl s).size ≤ s.size := by
  unfold tl
  split
  · exact Nat.zero_le _
  · simp [ByteArray.size_extract]

end Go.Proofs.YtilbgmeklkkknaaDoor
