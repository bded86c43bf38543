/-
  The law FnCompare at two versions of which the statement speaks: it returns true, and nothing that was there turns. Conditions: the guards let the two versions in.
-/
import Derived.Test.YtilbgmeklkkknaaDoorLaw
import Derived.Deep.DeepCutAuto
import Derived.Deep.RegionWith
namespace Go.Proofs.YtilbgmeklkkknaaDoor
open Go.RowKit
set_option linter.unusedSimpArgs false

/-- Two versions in two new blocks. -/
def Two (w wx : World) (p q : Nat) (v0 v1 v2 v3 : Value) : Prop :=
  p ≠ q ∧ w.heap.size ≤ p ∧ w.heap.size ≤ q ∧ wx.heap[p]? = some (.cells #[v0, v1] 24 (0, 0)) ∧ wx.heap[q]? = some (.cells #[v2, v3] 24 (0, 0)) ∧ Below w.heap.size w wx

theorem two_a (w : World) (v0 v1 v2 v3 : Value) : Two w ((w.alloc (.cells #[v0, v1] 24)).alloc (.cells #[v2, v3] 24)).drew w.heap.size (w.heap.size + 1) v0 v1 v2 v3 := by
  refine ⟨by omega, Nat.le_refl _, by omega, ?_, ?_, (((Below.refl _ _).alloc (Nat.le_refl _) _).alloc (by simp) _).drew⟩
  · show ((w.alloc (.cells #[v0, v1] 24)).alloc (.cells #[v2, v3] 24)).heap[w.heap.size]? = _
    rw [Lib.alloc_old _ _ _ (by simp)]
    exact heap_alloc_new w _
  · show ((w.alloc (.cells #[v0, v1] 24)).alloc (.cells #[v2, v3] 24)).heap[w.heap.size + 1]? = _
    have := heap_alloc_new (w.alloc (.cells #[v0, v1] 24)) (.cells #[v2, v3] 24)
    simpa using this
theorem two_b (w : World) (v0 v1 v2 v3 : Value) : Two w ((w.alloc (.cells #[v2, v3] 24)).alloc (.cells #[v0, v1] 24)).drew (w.heap.size + 1) w.heap.size v0 v1 v2 v3 := by
  obtain ⟨h1, h2, h3, h4, h5, h6⟩ := two_a w v2 v3 v0 v1
  exact ⟨fun e => h1 e.symm, h3, h2, h5, h4, h6⟩

theorem set_one {u : World} {q : Nat} {a b : Value} {T : TypeId} (h : u.heap[q]? = some (.cells #[a, b] T (0, 0))) (y : Value) : (u.setCell ⟨q, 1, none⟩ y).heap[q]? = some (.cells #[a, y] T (0, 0)) := by
  simp [World.setCell, Array.getElem?_modify, h]

/-- .. with the texts struck out -/
theorem Two.struck {w wx : World} {p q : Nat} {v0 v1 v2 v3 : Value} (h : Two w wx p q v0 v1 v2 v3) (x y : Value) :
    Two w ((wx.setCell ⟨p, 1, none⟩ x).setCell ⟨q, 1, none⟩ y) p q v0 x v2 y := by
  obtain ⟨h1, h2, h3, h4, h5, h6⟩ := h
  refine ⟨h1, h2, h3, ?_, ?_, (h6.setCell (p := ⟨p, 1, none⟩) h2 _).setCell (p := ⟨q, 1, none⟩) h3 _⟩
  · rw [Below.heap_setCell _ _ _ _ (by show p ≠ q; exact h1)]
    exact set_one h4 x
  · exact set_one ((Below.heap_setCell _ _ _ _ (by show q ≠ p; exact fun e => h1 e.symm)).trans h5) y

theorem lt_of_cell {w : World} {a : Addr} {v : Value} (h : w.cell? a = some v) : a.block < w.heap.size := by
  rcases Nat.lt_or_ge a.block w.heap.size with e | e
  · exact e
  · simp [World.cell?, Array.getElem?_eq_none e] at h
theorem cell_kept {w1 w2 : World} {a : Addr} {v : Value} (hb : Below w1.heap.size w1 w2) (h : w1.cell? a = some v) : w2.cell? a = some v := by
  rw [hb.cell (lt_of_cell h)]
  exact h
/-- Eight cells, kept by whatever makes memory alone. -/
theorem keep8 {B : Nat} {W w1 w2 : World} {a0 a1 a2 a3 a4 a5 a6 a7 : Addr} {v0 v1 v2 v3 v4 v5 v6 v7 : Value} (hB : B ≤ W.heap.size)
    (h : Below B W w1 ∧ w1.cell? a0 = some v0 ∧ w1.cell? a1 = some v1 ∧ w1.cell? a2 = some v2 ∧ w1.cell? a3 = some v3 ∧ w1.cell? a4 = some v4 ∧ w1.cell? a5 = some v5 ∧ w1.cell? a6 = some v6 ∧ w1.cell? a7 = some v7)
    (hb : Below w1.heap.size w1 w2) :
    Below B W w2 ∧ w2.cell? a0 = some v0 ∧ w2.cell? a1 = some v1 ∧ w2.cell? a2 = some v2 ∧ w2.cell? a3 = some v3 ∧ w2.cell? a4 = some v4 ∧ w2.cell? a5 = some v5 ∧ w2.cell? a6 = some v6 ∧ w2.cell? a7 = some v7 := by
  obtain ⟨h, h0, h1, h2, h3, h4, h5, h6, h7⟩ := h
  exact ⟨h.trans (hb.mono (by have := h.size; omega)), cell_kept hb h0, cell_kept hb h1, cell_kept hb h2, cell_kept hb h3, cell_kept hb h4, cell_kept hb h5, cell_kept hb h6, cell_kept hb h7⟩

section
variable {P : Program} {ops : Array Oper} {Q : Exit → Act → World → Prop} {md : Region.Mode} {S : World → Prop}
/-- In a region that draws its order: an operation that its guard leaves out, taken first. -/
theorem skipH (i d : Nat) {oi : Oper} {fuel : Nat} {listed : Array Bool} {a : Act} {w : World} (hi : ops[i]? = some oi)
    (hs : Region.noSelect ops = true) (hf : Region.free md ops listed i = true) (hr : (Region.ready md ops listed).contains i = true)
    (hQ : ∀ c a w, Q (.panic c) (a.put oi.dst undef) w → Q (.panic c) a w) (hd : oi.dst = some d) (hw : Region.wanted oi (yielded ops a.tmps) = false) (hS : S w)
    (h : wpAnyH P md ops Q S fuel (listed.setIfInBounds i true) (a.put (some d) undef) w) : wpAnyH P md ops Q S (fuel + 1) listed a w :=
  wpAnyH_take hi hs hf hr hQ (Or.inr ⟨hw, rfl⟩) hS (by rw [hd]; exact h)
/-- .. and one that it does not leave out, and that yields v in every world that meets S. -/
theorem takeH (i d : Nat) (v : Value) {oi : Oper} {fuel : Nat} {listed : Array Bool} {a : Act} {w : World} (hi : ops[i]? = some oi)
    (hs : Region.noSelect ops = true) (hf : Region.free md ops listed i = true) (hr : (Region.ready md ops listed).contains i = true)
    (hQ : ∀ c a w, Q (.panic c) (a.put oi.dst v) w → Q (.panic c) a w) (hd : oi.dst = some d) (hw : Region.wanted oi (yielded ops a.tmps) = true)
    (hy : ∀ w, S w → (execOp a.eval oi).run P w = .ok (.value v) w) (hS : S w)
    (h : wpAnyH P md ops Q S fuel (listed.setIfInBounds i true) (a.put (some d) v) w) : wpAnyH P md ops Q S (fuel + 1) listed a w :=
  wpAnyH_take hi hs hf hr hQ (Or.inl ⟨hw, hy⟩) hS (by rw [hd]; exact h)
end

theorem fits_of {xs : List Int} (h : Ver xs) : Fits xs := by
  refine ⟨h.2, fun j => ?_⟩
  rcases Nat.lt_or_ge j xs.length with e | e
  · exact h.1 j e
  · rw [nth_none e]
    omega
theorem toList_beq {s t : ByteArray} (h : s ≠ t) : (s.toList == t.toList) = false := by
  rw [beq_eq_false_iff_ne, Lib.toList_data, Lib.toList_data]
  intro e
  apply h
  cases s
  cases t
  exact congrArg ByteArray.mk (Array.toList_inj.1 e)

/-- what the law's own test says: g, whether two different texts stand behind the same numbers -/
def Asked (s t : ByteArray) (r0 : Int) (g : Bool) : Prop :=
  (g = false ∧ r0 ≠ 0) ∨ (g = false ∧ r0 = 0 ∧ s = ⟨#[]⟩) ∨ (g = false ∧ r0 = 0 ∧ s ≠ ⟨#[]⟩ ∧ t = ⟨#[]⟩) ∨ (g = false ∧ r0 = 0 ∧ s ≠ ⟨#[]⟩ ∧ s = t) ∨
    (g = true ∧ r0 = 0 ∧ s ≠ ⟨#[]⟩ ∧ t ≠ ⟨#[]⟩ ∧ s ≠ t)

set_option maxHeartbeats 4000000 in
set_option maxRecDepth 100000 in
theorem law_yes (ao bo : Option Addr) (c d : Nat) (xs ys : List Int) (s t : ByteArray) (w : World) (hx : Ints w.heap.size w ao xs) (hy : Ints w.heap.size w bo ys)
    (hn : xs.length ≤ 2147483647) (hs : s.size ≤ 2147483647) (hm : ys.length ≤ 2147483647) (ht : t.size ≤ 2147483647) (h : Ver xs ∧ Ver ys)
    (r0 : Int) (h0 : Cmp xs ⟨#[]⟩ ys ⟨#[]⟩ r0) (g : Bool) (hg : Asked s t r0 g) (hr : g = false → ∃ r, Cmp xs s ys t r) :
    Calls Tryd.prog 3 #[.agg #[.slice ao xs.length c, .string s], .agg #[.slice bo ys.length d, .string t]] w fun e w' => e = .returned (.bool true) ∧ Below w.heap.size w w' := by
  have fx : Fits xs := fits_of h.1
  have fy : Fits ys := fits_of h.2
  obtain ⟨ba, ha1, ha2⟩ := isVersion xs hn
  obtain ⟨bb, hb1, hb2⟩ := isVersion ys hm
  have hf : (ba && bb) = true := by
    rw [Bool.and_eq_true]
    exact ⟨ha1.2 h.1, hb1.2 h.2⟩
  obtain ⟨c0, c1, c2, c3, hb⟩ := boxes w (.slice ao xs.length c) (.slice bo ys.length d) (.string s) (.string t) 24
  have hz : ((w.alloc (.cells #[.slice ao xs.length c, .string s] 24)).alloc (.cells #[.slice bo ys.length d, .string t] 24)).heap.size = w.heap.size + 2 := by simp
  have ZZ := Lib.hid hz
  have H2 := Lib.hid (And.intro ha2 hb2)
  clear hz ha1 hb1 ha2 hb2
  go_enter Tryd.func3, Tryd.ntmps3
  go_wp2_with fail
  generalize ((w.alloc (.cells #[.slice ao xs.length c, .string s] 24)).alloc (.cells #[.slice bo ys.length d, .string t] 24)) = W at *
  refine (zzFits _ _ _ _ _ hn hs).mono ?_
  rintro e w1 ⟨rfl, hw1⟩
  have q1 := keep4 ZZ ⟨Below.refl _ _, c0, c1, c2, c3⟩ hw1
  clear c0 c1 c2 c3
  obtain ⟨k0, c0, c1, c2, c3⟩ := id q1
  go_wp2_with fail
  refine (zzFits _ _ _ _ _ hm ht).mono ?_
  rintro e w2 ⟨rfl, hw2⟩
  have q2 := keep4 ZZ q1 hw2
  clear c0 c1 c2 c3 k0 q1
  obtain ⟨k0, c0, c1, c2, c3⟩ := id q2
  go_wp2_with fail
  have hw3 : Below w2.heap.size w2 (w2.alloc (.cells #[.slice ao xs.length c, .string s, .slice bo ys.length d, .string t] 24)) := (Below.refl _ _).alloc (Nat.le_refl _) _
  have q3 := keep4 ZZ q2 hw3
  refine (are_two w2.heap.size ao bo c d xs ys s t ba bb H2.out.1 H2.out.2 _ (ints4 ZZ hb hx q3) (ints4 ZZ hb hy q3) ?v0 ?v1 ?v2 ?v3 ?v4).mono ?_
  case v0 => simp
  case v1 => go_simp
  case v2 => go_simp
  case v3 => go_simp
  case v4 => go_simp
  rintro e w4 ⟨rfl, hw4⟩
  have q4 := keep4 ZZ q3 hw4
  clear c0 c1 c2 c3 k0 q2 q3 hw1 hw2 hw3 hw4 H2
  rw [hf]
  clear hf
  obtain ⟨k0, c0, c1, c2, c3⟩ := id q4
  go_upto_region 5 with fail
  have n0 := World.new_ne w4 _ c0
  have n1 := World.new_ne w4 _ c1
  have n2 := World.new_ne w4 _ c2
  have n3 := World.new_ne w4 _ c3
  go_cut [5, 6] (fun s5 s6 wx => ∃ p q : Nat, s5 = .pointer (some ⟨p, 0, none⟩) ∧ s6 = .pointer (some ⟨q, 0, none⟩) ∧ Two w4 wx p q (.slice ao xs.length c) (.string s) (.slice bo ys.length d) (.string t))
  case first =>
    go_region_held3 (fun w' => w'.cell? ⟨w.heap.size, 0, none⟩ = some (.slice ao xs.length c) ∧ w'.cell? ⟨w.heap.size, 1, none⟩ = some (.string s) ∧ w'.cell? ⟨w.heap.size + 1, 0, none⟩ = some (.slice bo ys.length d) ∧ w'.cell? ⟨w.heap.size + 1, 1, none⟩ = some (.string t)) (go_keep) (fail)
    all_goals go_wp2_with fail
    all_goals go_meet
    · exact ⟨_, _, rfl, rfl, two_a w4 _ _ _ _⟩
    · exact ⟨_, _, rfl, rfl, two_b w4 _ _ _ _⟩
  case rest =>
    obtain ⟨p, q, rfl, rfl, hT⟩ := hcut
    have hT7 := hT.struck (.string ⟨#[]⟩) (.string ⟨#[]⟩)
    have q7 := keep4 ZZ q4 hT7.2.2.2.2.2
    clear c0 c1 c2 c3 n0 n1 n2 n3 q4 k0
    have d0 : wc.cell? ⟨p, 1, none⟩ = some (.string s) := by rw [Lib.cell_of_heap hT.2.2.2.1]; rfl
    have d1 : wc.cell? ⟨q, 1, none⟩ = some (.string t) := by rw [Lib.cell_of_heap hT.2.2.2.2.1]; rfl
    have f0 : wc.frozen? ⟨p, 1, none⟩ = false := Lib.frozen_of_heap hT.2.2.2.1 1
    have f1 : wc.frozen? ⟨q, 1, none⟩ = false := Lib.frozen_of_heap hT.2.2.2.2.1 1
    have npq := hT.1
    have nqp : q ≠ p := fun e => npq e.symm
    go_upto_region 7 with fail
    clear d0 d1 f0 f1 npq nqp hT
    generalize ((wc.setCell ⟨p, 1, none⟩ (.string ⟨#[]⟩)).setCell ⟨q, 1, none⟩ (.string ⟨#[]⟩)) = W7 at *
    obtain ⟨k0, c0, c1, c2, c3⟩ := q7
    have d0 : W7.cell? ⟨p, 0, none⟩ = some (.slice ao xs.length c) := by rw [Lib.cell_of_heap hT7.2.2.2.1]; rfl
    have d1 : W7.cell? ⟨p, 1, none⟩ = some (.string ⟨#[]⟩) := by rw [Lib.cell_of_heap hT7.2.2.2.1]; rfl
    have d2 : W7.cell? ⟨q, 0, none⟩ = some (.slice bo ys.length d) := by rw [Lib.cell_of_heap hT7.2.2.2.2.1]; rfl
    have d3 : W7.cell? ⟨q, 1, none⟩ = some (.string ⟨#[]⟩) := by rw [Lib.cell_of_heap hT7.2.2.2.2.1]; rfl
    clear hT7
    have ZB : w.heap.size + 2 ≤ W.heap.size := by have := ZZ.out; omega
    go_cut [47] (fun s47 wx => s47 = .bool g ∧ Below (w.heap.size + 2) W wx ∧ wx.cell? ⟨w.heap.size, 0, none⟩ = some (.slice ao xs.length c) ∧ wx.cell? ⟨w.heap.size, 1, none⟩ = some (.string s) ∧ wx.cell? ⟨w.heap.size + 1, 0, none⟩ = some (.slice bo ys.length d) ∧ wx.cell? ⟨w.heap.size + 1, 1, none⟩ = some (.string t))
    case first =>
      have HC : Hid (∀ (ao bo : Option Addr) (c d : Nat) (w : World), Ints w.heap.size w ao xs → Ints w.heap.size w bo ys →
        Calls Tryd.prog 7 #[.agg #[.slice ao xs.length c, .string ⟨#[]⟩], .agg #[.slice bo ys.length d, .string ⟨#[]⟩]] w fun e w' => e = .returned (.int .i64 r0) ∧ Below w.heap.size w w') := Lib.hid (specCompare h0 fx fy)
      have q7d : Below (w.heap.size + 2) W W7.drew ∧ W7.drew.cell? ⟨w.heap.size, 0, none⟩ = some (.slice ao xs.length c) ∧ W7.drew.cell? ⟨w.heap.size, 1, none⟩ = some (.string s) ∧ W7.drew.cell? ⟨w.heap.size + 1, 0, none⟩ = some (.slice bo ys.length d) ∧ W7.drew.cell? ⟨w.heap.size + 1, 1, none⟩ = some (.string t) ∧ W7.drew.cell? ⟨p, 0, none⟩ = some (.slice ao xs.length c) ∧ W7.drew.cell? ⟨p, 1, none⟩ = some (.string ⟨#[]⟩) ∧ W7.drew.cell? ⟨q, 0, none⟩ = some (.slice bo ys.length d) ∧ W7.drew.cell? ⟨q, 1, none⟩ = some (.string ⟨#[]⟩) :=
        ⟨k0.drew, c0, c1, c2, c3, d0, d1, d2, d3⟩
      rcases hg with ⟨rfl, hne⟩ | ⟨rfl, rfl, rfl⟩ | ⟨rfl, rfl, hs0, rfl⟩ | ⟨rfl, rfl, hs0, rfl⟩ | ⟨rfl, rfl, hs0, ht0, hst⟩
      · have t1 : (r0 == 0) = false := by simpa using hne
        clear hne h0
        refine wp_region_noPanic ?_
        refine wp_region_held_drew (S := fun w' => Below (w.heap.size + 2) W w' ∧ w'.cell? ⟨w.heap.size, 0, none⟩ = some (.slice ao xs.length c) ∧ w'.cell? ⟨w.heap.size, 1, none⟩ = some (.string s) ∧ w'.cell? ⟨w.heap.size + 1, 0, none⟩ = some (.slice bo ys.length d) ∧ w'.cell? ⟨w.heap.size + 1, 1, none⟩ = some (.string t) ∧ w'.cell? ⟨p, 0, none⟩ = some (.slice ao xs.length c) ∧ w'.cell? ⟨p, 1, none⟩ = some (.string ⟨#[]⟩) ∧ w'.cell? ⟨q, 0, none⟩ = some (.slice bo ys.length d) ∧ w'.cell? ⟨q, 1, none⟩ = some (.string ⟨#[]⟩)) (by kernel_rfl) q7d (fun hHeld => ?_)
        clear q7d
        refine takeH 0 25 ?_ rfl (by kernel_rfl) (by kernel_rfl) (by kernel_rfl) (fun _ _ _ h => h) rfl (by rfl) ?_ hHeld ?_
        rotate_left 1
        · intro w hSw; go_simp; try with_reducible rfl
        simp only [Act.put, List.setIfInBounds_toArray, List.set_cons_zero, List.set_cons_succ]
        refine takeH 2 27 ?_ rfl (by kernel_rfl) (by kernel_rfl) (by kernel_rfl) (fun _ _ _ h => h) rfl (by rfl) ?_ hHeld ?_
        rotate_left 1
        · intro w hSw; go_simp; try with_reducible rfl
        simp only [Act.put, List.setIfInBounds_toArray, List.set_cons_zero, List.set_cons_succ]
        refine wpAnyH_ready (rs := [1]) (by kernel_rfl) (by simp) ?_
        refine AllReadyH.cons rfl (fun K hK => ?_) AllReadyH.nil
        go_simp
        refine (lawsOf _ _ _ _ _).mono ?_
        rintro e w' ⟨rfl, hb1⟩
        refine hK.out _ _ (keep8 ZB hHeld hb1) ?_
        clear hK K hHeld hb1
        intro hHeld
        try simp only [Act.put, List.setIfInBounds_toArray, List.set_cons_zero, List.set_cons_succ]
        refine wpAnyH_ready (rs := [3]) (by kernel_rfl) (by simp) ?_
        refine AllReadyH.cons rfl (fun K hK => ?_) AllReadyH.nil
        go_simp
        refine (lawsOf _ _ _ _ _).mono ?_
        rintro e w' ⟨rfl, hb1⟩
        refine hK.out _ _ (keep8 ZB hHeld hb1) ?_
        clear hK K hHeld hb1
        intro hHeld
        try simp only [Act.put, List.setIfInBounds_toArray, List.set_cons_zero, List.set_cons_succ]
        refine wpAnyH_ready (rs := [4]) (by kernel_rfl) (by simp) ?_
        refine AllReadyH.cons rfl (fun K hK => ?_) AllReadyH.nil
        go_simp
        refine (HC.out _ _ _ _ _ (ints4 ZZ hb hx hHeld) (ints4 ZZ hb hy hHeld)).mono ?_
        rintro e w' ⟨rfl, hb1⟩
        refine hK.out _ _ (keep8 ZB hHeld hb1) ?_
        clear hK K hHeld hb1
        intro hHeld
        try simp only [Act.put, List.setIfInBounds_toArray, List.set_cons_zero, List.set_cons_succ]
        refine takeH 5 30 ?_ rfl (by kernel_rfl) (by kernel_rfl) (by kernel_rfl) (fun _ _ _ h => h) rfl (by rfl) ?_ hHeld ?_
        rotate_left 1
        · intro w hSw; go_simp; try with_reducible rfl
        simp only [Act.put, List.setIfInBounds_toArray, List.set_cons_zero, List.set_cons_succ]
        refine takeH 6 31 ?_ rfl (by kernel_rfl) (by kernel_rfl) (by kernel_rfl) (fun _ _ _ h => h) rfl (by rfl) ?_ hHeld ?_
        rotate_left 1
        · intro w hSw; go_simp; try with_reducible rfl
        simp only [Act.put, List.setIfInBounds_toArray, List.set_cons_zero, List.set_cons_succ]
        refine skipH 7 32 rfl (by kernel_rfl) (by kernel_rfl) (by kernel_rfl) (fun _ _ _ h => h) rfl (by rfl) hHeld ?_
        simp only [Act.put, List.setIfInBounds_toArray, List.set_cons_zero, List.set_cons_succ]
        refine skipH 8 33 rfl (by kernel_rfl) (by kernel_rfl) (by kernel_rfl) (fun _ _ _ h => h) rfl (by rfl) hHeld ?_
        simp only [Act.put, List.setIfInBounds_toArray, List.set_cons_zero, List.set_cons_succ]
        refine skipH 9 34 rfl (by kernel_rfl) (by kernel_rfl) (by kernel_rfl) (fun _ _ _ h => h) rfl (by rfl) hHeld ?_
        simp only [Act.put, List.setIfInBounds_toArray, List.set_cons_zero, List.set_cons_succ]
        refine takeH 10 35 ?_ rfl (by kernel_rfl) (by kernel_rfl) (by kernel_rfl) (fun _ _ _ h => h) rfl (by rfl) ?_ hHeld ?_
        rotate_left 1
        · intro w hSw; go_simp; try with_reducible rfl
        simp only [Act.put, List.setIfInBounds_toArray, List.set_cons_zero, List.set_cons_succ]
        refine takeH 11 36 ?_ rfl (by kernel_rfl) (by kernel_rfl) (by kernel_rfl) (fun _ _ _ h => h) rfl (by rfl) ?_ hHeld ?_
        rotate_left 1
        · intro w hSw; go_simp; try with_reducible rfl
        simp only [Act.put, List.setIfInBounds_toArray, List.set_cons_zero, List.set_cons_succ]
        refine skipH 12 37 rfl (by kernel_rfl) (by kernel_rfl) (by kernel_rfl) (fun _ _ _ h => h) rfl (by rfl) hHeld ?_
        simp only [Act.put, List.setIfInBounds_toArray, List.set_cons_zero, List.set_cons_succ]
        refine skipH 13 38 rfl (by kernel_rfl) (by kernel_rfl) (by kernel_rfl) (fun _ _ _ h => h) rfl (by rfl) hHeld ?_
        simp only [Act.put, List.setIfInBounds_toArray, List.set_cons_zero, List.set_cons_succ]
        refine skipH 14 39 rfl (by kernel_rfl) (by kernel_rfl) (by kernel_rfl) (fun _ _ _ h => h) rfl (by rfl) hHeld ?_
        simp only [Act.put, List.setIfInBounds_toArray, List.set_cons_zero, List.set_cons_succ]
        refine takeH 15 40 ?_ rfl (by kernel_rfl) (by kernel_rfl) (by kernel_rfl) (fun _ _ _ h => h) rfl (by rfl) ?_ hHeld ?_
        rotate_left 1
        · intro w hSw; go_simp; try with_reducible rfl
        simp only [Act.put, List.setIfInBounds_toArray, List.set_cons_zero, List.set_cons_succ]
        refine takeH 16 41 ?_ rfl (by kernel_rfl) (by kernel_rfl) (by kernel_rfl) (fun _ _ _ h => h) rfl (by rfl) ?_ hHeld ?_
        rotate_left 1
        · intro w hSw; go_simp; try with_reducible rfl
        simp only [Act.put, List.setIfInBounds_toArray, List.set_cons_zero, List.set_cons_succ]
        refine skipH 17 42 rfl (by kernel_rfl) (by kernel_rfl) (by kernel_rfl) (fun _ _ _ h => h) rfl (by rfl) hHeld ?_
        simp only [Act.put, List.setIfInBounds_toArray, List.set_cons_zero, List.set_cons_succ]
        refine skipH 18 43 rfl (by kernel_rfl) (by kernel_rfl) (by kernel_rfl) (fun _ _ _ h => h) rfl (by rfl) hHeld ?_
        simp only [Act.put, List.setIfInBounds_toArray, List.set_cons_zero, List.set_cons_succ]
        refine skipH 19 44 rfl (by kernel_rfl) (by kernel_rfl) (by kernel_rfl) (fun _ _ _ h => h) rfl (by rfl) hHeld ?_
        simp only [Act.put, List.setIfInBounds_toArray, List.set_cons_zero, List.set_cons_succ]
        refine skipH 20 45 rfl (by kernel_rfl) (by kernel_rfl) (by kernel_rfl) (fun _ _ _ h => h) rfl (by rfl) hHeld ?_
        simp only [Act.put, List.setIfInBounds_toArray, List.set_cons_zero, List.set_cons_succ]
        refine skipH 21 46 rfl (by kernel_rfl) (by kernel_rfl) (by kernel_rfl) (fun _ _ _ h => h) rfl (by rfl) hHeld ?_
        simp only [Act.put, List.setIfInBounds_toArray, List.set_cons_zero, List.set_cons_succ]
        refine takeH 22 47 ?_ rfl (by kernel_rfl) (by kernel_rfl) (by kernel_rfl) (fun _ _ _ h => h) rfl (by rfl) ?_ hHeld ?_
        rotate_left 1
        · intro w hSw; go_simp; try with_reducible rfl
        simp only [Act.put, List.setIfInBounds_toArray, List.set_cons_zero, List.set_cons_succ]
        refine wpAnyH_done (by kernel_rfl) ?_ _
        refine NoPanic.normal ?_
        go_wp2_with fail
        go_meet
        exact ⟨rfl, hHeld.1, hHeld.2.1, hHeld.2.2.1, hHeld.2.2.2.1, hHeld.2.2.2.2.1⟩
      · clear h0
        refine wp_region_noPanic ?_
        refine wp_region_held_drew (S := fun w' => Below (w.heap.size + 2) W w' ∧ w'.cell? ⟨w.heap.size, 0, none⟩ = some (.slice ao xs.length c) ∧ w'.cell? ⟨w.heap.size, 1, none⟩ = some (.string ⟨#[]⟩) ∧ w'.cell? ⟨w.heap.size + 1, 0, none⟩ = some (.slice bo ys.length d) ∧ w'.cell? ⟨w.heap.size + 1, 1, none⟩ = some (.string t) ∧ w'.cell? ⟨p, 0, none⟩ = some (.slice ao xs.length c) ∧ w'.cell? ⟨p, 1, none⟩ = some (.string ⟨#[]⟩) ∧ w'.cell? ⟨q, 0, none⟩ = some (.slice bo ys.length d) ∧ w'.cell? ⟨q, 1, none⟩ = some (.string ⟨#[]⟩)) (by kernel_rfl) q7d (fun hHeld => ?_)
        clear q7d
        refine takeH 0 25 ?_ rfl (by kernel_rfl) (by kernel_rfl) (by kernel_rfl) (fun _ _ _ h => h) rfl (by rfl) ?_ hHeld ?_
        rotate_left 1
        · intro w hSw; go_simp; try with_reducible rfl
        simp only [Act.put, List.setIfInBounds_toArray, List.set_cons_zero, List.set_cons_succ]
        refine takeH 2 27 ?_ rfl (by kernel_rfl) (by kernel_rfl) (by kernel_rfl) (fun _ _ _ h => h) rfl (by rfl) ?_ hHeld ?_
        rotate_left 1
        · intro w hSw; go_simp; try with_reducible rfl
        simp only [Act.put, List.setIfInBounds_toArray, List.set_cons_zero, List.set_cons_succ]
        refine wpAnyH_ready (rs := [1]) (by kernel_rfl) (by simp) ?_
        refine AllReadyH.cons rfl (fun K hK => ?_) AllReadyH.nil
        go_simp
        refine (lawsOf _ _ _ _ _).mono ?_
        rintro e w' ⟨rfl, hb1⟩
        refine hK.out _ _ (keep8 ZB hHeld hb1) ?_
        clear hK K hHeld hb1
        intro hHeld
        try simp only [Act.put, List.setIfInBounds_toArray, List.set_cons_zero, List.set_cons_succ]
        refine wpAnyH_ready (rs := [3]) (by kernel_rfl) (by simp) ?_
        refine AllReadyH.cons rfl (fun K hK => ?_) AllReadyH.nil
        go_simp
        refine (lawsOf _ _ _ _ _).mono ?_
        rintro e w' ⟨rfl, hb1⟩
        refine hK.out _ _ (keep8 ZB hHeld hb1) ?_
        clear hK K hHeld hb1
        intro hHeld
        try simp only [Act.put, List.setIfInBounds_toArray, List.set_cons_zero, List.set_cons_succ]
        refine wpAnyH_ready (rs := [4]) (by kernel_rfl) (by simp) ?_
        refine AllReadyH.cons rfl (fun K hK => ?_) AllReadyH.nil
        go_simp
        refine (HC.out _ _ _ _ _ (ints4 ZZ hb hx hHeld) (ints4 ZZ hb hy hHeld)).mono ?_
        rintro e w' ⟨rfl, hb1⟩
        refine hK.out _ _ (keep8 ZB hHeld hb1) ?_
        clear hK K hHeld hb1
        intro hHeld
        try simp only [Act.put, List.setIfInBounds_toArray, List.set_cons_zero, List.set_cons_succ]
        refine takeH 5 30 ?_ rfl (by kernel_rfl) (by kernel_rfl) (by kernel_rfl) (fun _ _ _ h => h) rfl (by rfl) ?_ hHeld ?_
        rotate_left 1
        · intro w hSw; go_simp; try with_reducible rfl
        simp only [Act.put, List.setIfInBounds_toArray, List.set_cons_zero, List.set_cons_succ]
        refine takeH 6 31 ?_ rfl (by kernel_rfl) (by kernel_rfl) (by kernel_rfl) (fun _ _ _ h => h) rfl (by rfl) ?_ hHeld ?_
        rotate_left 1
        · intro w hSw; go_simp; try with_reducible rfl
        simp only [Act.put, List.setIfInBounds_toArray, List.set_cons_zero, List.set_cons_succ]
        refine takeH 7 32 ?_ rfl (by kernel_rfl) (by kernel_rfl) (by kernel_rfl) (fun _ _ _ h => h) rfl (by rfl) ?_ hHeld ?_
        rotate_left 1
        · intro w hSw; go_simp; try with_reducible rfl
        simp only [Act.put, List.setIfInBounds_toArray, List.set_cons_zero, List.set_cons_succ]
        refine takeH 8 33 ?_ rfl (by kernel_rfl) (by kernel_rfl) (by kernel_rfl) (fun _ _ _ h => h) rfl (by rfl) ?_ hHeld ?_
        rotate_left 1
        · intro w hSw; go_simp; try with_reducible rfl
        simp only [Act.put, List.setIfInBounds_toArray, List.set_cons_zero, List.set_cons_succ]
        refine takeH 9 34 ?_ rfl (by kernel_rfl) (by kernel_rfl) (by kernel_rfl) (fun _ _ _ h => h) rfl (by rfl) ?_ hHeld ?_
        rotate_left 1
        · intro w hSw; go_simp; try with_reducible rfl
        simp only [Act.put, List.setIfInBounds_toArray, List.set_cons_zero, List.set_cons_succ]
        refine takeH 10 35 ?_ rfl (by kernel_rfl) (by kernel_rfl) (by kernel_rfl) (fun _ _ _ h => h) rfl (by rfl) ?_ hHeld ?_
        rotate_left 1
        · intro w hSw; go_simp; try with_reducible rfl
        simp only [Act.put, List.setIfInBounds_toArray, List.set_cons_zero, List.set_cons_succ]
        refine takeH 11 36 ?_ rfl (by kernel_rfl) (by kernel_rfl) (by kernel_rfl) (fun _ _ _ h => h) rfl (by rfl) ?_ hHeld ?_
        rotate_left 1
        · intro w hSw; go_simp; try with_reducible rfl
        simp only [Act.put, List.setIfInBounds_toArray, List.set_cons_zero, List.set_cons_succ]
        refine skipH 12 37 rfl (by kernel_rfl) (by kernel_rfl) (by kernel_rfl) (fun _ _ _ h => h) rfl (by rfl) hHeld ?_
        simp only [Act.put, List.setIfInBounds_toArray, List.set_cons_zero, List.set_cons_succ]
        refine skipH 13 38 rfl (by kernel_rfl) (by kernel_rfl) (by kernel_rfl) (fun _ _ _ h => h) rfl (by rfl) hHeld ?_
        simp only [Act.put, List.setIfInBounds_toArray, List.set_cons_zero, List.set_cons_succ]
        refine skipH 14 39 rfl (by kernel_rfl) (by kernel_rfl) (by kernel_rfl) (fun _ _ _ h => h) rfl (by rfl) hHeld ?_
        simp only [Act.put, List.setIfInBounds_toArray, List.set_cons_zero, List.set_cons_succ]
        refine takeH 15 40 ?_ rfl (by kernel_rfl) (by kernel_rfl) (by kernel_rfl) (fun _ _ _ h => h) rfl (by rfl) ?_ hHeld ?_
        rotate_left 1
        · intro w hSw; go_simp; try with_reducible rfl
        simp only [Act.put, List.setIfInBounds_toArray, List.set_cons_zero, List.set_cons_succ]
        refine takeH 16 41 ?_ rfl (by kernel_rfl) (by kernel_rfl) (by kernel_rfl) (fun _ _ _ h => h) rfl (by rfl) ?_ hHeld ?_
        rotate_left 1
        · intro w hSw; go_simp; try with_reducible rfl
        simp only [Act.put, List.setIfInBounds_toArray, List.set_cons_zero, List.set_cons_succ]
        refine skipH 17 42 rfl (by kernel_rfl) (by kernel_rfl) (by kernel_rfl) (fun _ _ _ h => h) rfl (by rfl) hHeld ?_
        simp only [Act.put, List.setIfInBounds_toArray, List.set_cons_zero, List.set_cons_succ]
        refine skipH 18 43 rfl (by kernel_rfl) (by kernel_rfl) (by kernel_rfl) (fun _ _ _ h => h) rfl (by rfl) hHeld ?_
        simp only [Act.put, List.setIfInBounds_toArray, List.set_cons_zero, List.set_cons_succ]
        refine skipH 19 44 rfl (by kernel_rfl) (by kernel_rfl) (by kernel_rfl) (fun _ _ _ h => h) rfl (by rfl) hHeld ?_
        simp only [Act.put, List.setIfInBounds_toArray, List.set_cons_zero, List.set_cons_succ]
        refine skipH 20 45 rfl (by kernel_rfl) (by kernel_rfl) (by kernel_rfl) (fun _ _ _ h => h) rfl (by rfl) hHeld ?_
        simp only [Act.put, List.setIfInBounds_toArray, List.set_cons_zero, List.set_cons_succ]
        refine skipH 21 46 rfl (by kernel_rfl) (by kernel_rfl) (by kernel_rfl) (fun _ _ _ h => h) rfl (by rfl) hHeld ?_
        simp only [Act.put, List.setIfInBounds_toArray, List.set_cons_zero, List.set_cons_succ]
        refine takeH 22 47 ?_ rfl (by kernel_rfl) (by kernel_rfl) (by kernel_rfl) (fun _ _ _ h => h) rfl (by rfl) ?_ hHeld ?_
        rotate_left 1
        · intro w hSw; go_simp; try with_reducible rfl
        simp only [Act.put, List.setIfInBounds_toArray, List.set_cons_zero, List.set_cons_succ]
        refine wpAnyH_done (by kernel_rfl) ?_ _
        refine NoPanic.normal ?_
        go_wp2_with fail
        go_meet
        exact ⟨rfl, hHeld.1, hHeld.2.1, hHeld.2.2.1, hHeld.2.2.2.1, hHeld.2.2.2.2.1⟩
      · have ts := toList_ne' hs0
        clear hs0 h0
        refine wp_region_noPanic ?_
        refine wp_region_held_drew (S := fun w' => Below (w.heap.size + 2) W w' ∧ w'.cell? ⟨w.heap.size, 0, none⟩ = some (.slice ao xs.length c) ∧ w'.cell? ⟨w.heap.size, 1, none⟩ = some (.string s) ∧ w'.cell? ⟨w.heap.size + 1, 0, none⟩ = some (.slice bo ys.length d) ∧ w'.cell? ⟨w.heap.size + 1, 1, none⟩ = some (.string ⟨#[]⟩) ∧ w'.cell? ⟨p, 0, none⟩ = some (.slice ao xs.length c) ∧ w'.cell? ⟨p, 1, none⟩ = some (.string ⟨#[]⟩) ∧ w'.cell? ⟨q, 0, none⟩ = some (.slice bo ys.length d) ∧ w'.cell? ⟨q, 1, none⟩ = some (.string ⟨#[]⟩)) (by kernel_rfl) q7d (fun hHeld => ?_)
        clear q7d
        refine takeH 0 25 ?_ rfl (by kernel_rfl) (by kernel_rfl) (by kernel_rfl) (fun _ _ _ h => h) rfl (by rfl) ?_ hHeld ?_
        rotate_left 1
        · intro w hSw; go_simp; try with_reducible rfl
        simp only [Act.put, List.setIfInBounds_toArray, List.set_cons_zero, List.set_cons_succ]
        refine takeH 2 27 ?_ rfl (by kernel_rfl) (by kernel_rfl) (by kernel_rfl) (fun _ _ _ h => h) rfl (by rfl) ?_ hHeld ?_
        rotate_left 1
        · intro w hSw; go_simp; try with_reducible rfl
        simp only [Act.put, List.setIfInBounds_toArray, List.set_cons_zero, List.set_cons_succ]
        refine wpAnyH_ready (rs := [1]) (by kernel_rfl) (by simp) ?_
        refine AllReadyH.cons rfl (fun K hK => ?_) AllReadyH.nil
        go_simp
        refine (lawsOf _ _ _ _ _).mono ?_
        rintro e w' ⟨rfl, hb1⟩
        refine hK.out _ _ (keep8 ZB hHeld hb1) ?_
        clear hK K hHeld hb1
        intro hHeld
        try simp only [Act.put, List.setIfInBounds_toArray, List.set_cons_zero, List.set_cons_succ]
        refine wpAnyH_ready (rs := [3]) (by kernel_rfl) (by simp) ?_
        refine AllReadyH.cons rfl (fun K hK => ?_) AllReadyH.nil
        go_simp
        refine (lawsOf _ _ _ _ _).mono ?_
        rintro e w' ⟨rfl, hb1⟩
        refine hK.out _ _ (keep8 ZB hHeld hb1) ?_
        clear hK K hHeld hb1
        intro hHeld
        try simp only [Act.put, List.setIfInBounds_toArray, List.set_cons_zero, List.set_cons_succ]
        refine wpAnyH_ready (rs := [4]) (by kernel_rfl) (by simp) ?_
        refine AllReadyH.cons rfl (fun K hK => ?_) AllReadyH.nil
        go_simp
        refine (HC.out _ _ _ _ _ (ints4 ZZ hb hx hHeld) (ints4 ZZ hb hy hHeld)).mono ?_
        rintro e w' ⟨rfl, hb1⟩
        refine hK.out _ _ (keep8 ZB hHeld hb1) ?_
        clear hK K hHeld hb1
        intro hHeld
        try simp only [Act.put, List.setIfInBounds_toArray, List.set_cons_zero, List.set_cons_succ]
        refine takeH 5 30 ?_ rfl (by kernel_rfl) (by kernel_rfl) (by kernel_rfl) (fun _ _ _ h => h) rfl (by rfl) ?_ hHeld ?_
        rotate_left 1
        · intro w hSw; go_simp; try with_reducible rfl
        simp only [Act.put, List.setIfInBounds_toArray, List.set_cons_zero, List.set_cons_succ]
        refine takeH 6 31 ?_ rfl (by kernel_rfl) (by kernel_rfl) (by kernel_rfl) (fun _ _ _ h => h) rfl (by rfl) ?_ hHeld ?_
        rotate_left 1
        · intro w hSw; go_simp; try with_reducible rfl
        simp only [Act.put, List.setIfInBounds_toArray, List.set_cons_zero, List.set_cons_succ]
        refine takeH 7 32 ?_ rfl (by kernel_rfl) (by kernel_rfl) (by kernel_rfl) (fun _ _ _ h => h) rfl (by rfl) ?_ hHeld ?_
        rotate_left 1
        · intro w hSw; go_simp; try with_reducible rfl
        simp only [Act.put, List.setIfInBounds_toArray, List.set_cons_zero, List.set_cons_succ]
        refine takeH 8 33 ?_ rfl (by kernel_rfl) (by kernel_rfl) (by kernel_rfl) (fun _ _ _ h => h) rfl (by rfl) ?_ hHeld ?_
        rotate_left 1
        · intro w hSw; go_simp; try with_reducible rfl
        simp only [Act.put, List.setIfInBounds_toArray, List.set_cons_zero, List.set_cons_succ]
        refine takeH 9 34 ?_ rfl (by kernel_rfl) (by kernel_rfl) (by kernel_rfl) (fun _ _ _ h => h) rfl (by rfl) ?_ hHeld ?_
        rotate_left 1
        · intro w hSw; go_simp; try with_reducible rfl
        simp only [Act.put, List.setIfInBounds_toArray, List.set_cons_zero, List.set_cons_succ]
        refine takeH 10 35 ?_ rfl (by kernel_rfl) (by kernel_rfl) (by kernel_rfl) (fun _ _ _ h => h) rfl (by rfl) ?_ hHeld ?_
        rotate_left 1
        · intro w hSw; go_simp; try with_reducible rfl
        simp only [Act.put, List.setIfInBounds_toArray, List.set_cons_zero, List.set_cons_succ]
        refine takeH 11 36 ?_ rfl (by kernel_rfl) (by kernel_rfl) (by kernel_rfl) (fun _ _ _ h => h) rfl (by rfl) ?_ hHeld ?_
        rotate_left 1
        · intro w hSw; go_simp; try with_reducible rfl
        simp only [Act.put, List.setIfInBounds_toArray, List.set_cons_zero, List.set_cons_succ]
        refine takeH 12 37 ?_ rfl (by kernel_rfl) (by kernel_rfl) (by kernel_rfl) (fun _ _ _ h => h) rfl (by rfl) ?_ hHeld ?_
        rotate_left 1
        · intro w hSw; go_simp; try with_reducible rfl
        simp only [Act.put, List.setIfInBounds_toArray, List.set_cons_zero, List.set_cons_succ]
        refine takeH 13 38 ?_ rfl (by kernel_rfl) (by kernel_rfl) (by kernel_rfl) (fun _ _ _ h => h) rfl (by rfl) ?_ hHeld ?_
        rotate_left 1
        · intro w hSw; go_simp; try with_reducible rfl
        simp only [Act.put, List.setIfInBounds_toArray, List.set_cons_zero, List.set_cons_succ]
        refine takeH 14 39 ?_ rfl (by kernel_rfl) (by kernel_rfl) (by kernel_rfl) (fun _ _ _ h => h) rfl (by rfl) ?_ hHeld ?_
        rotate_left 1
        · intro w hSw; go_simp; try with_reducible rfl
        simp only [Act.put, List.setIfInBounds_toArray, List.set_cons_zero, List.set_cons_succ]
        refine takeH 15 40 ?_ rfl (by kernel_rfl) (by kernel_rfl) (by kernel_rfl) (fun _ _ _ h => h) rfl (by rfl) ?_ hHeld ?_
        rotate_left 1
        · intro w hSw; go_simp; try with_reducible rfl
        simp only [Act.put, List.setIfInBounds_toArray, List.set_cons_zero, List.set_cons_succ]
        refine takeH 16 41 ?_ rfl (by kernel_rfl) (by kernel_rfl) (by kernel_rfl) (fun _ _ _ h => h) rfl (by rfl) ?_ hHeld ?_
        rotate_left 1
        · intro w hSw; go_simp; try with_reducible rfl
        simp only [Act.put, List.setIfInBounds_toArray, List.set_cons_zero, List.set_cons_succ]
        refine skipH 17 42 rfl (by kernel_rfl) (by kernel_rfl) (by kernel_rfl) (fun _ _ _ h => h) rfl (by rfl) hHeld ?_
        simp only [Act.put, List.setIfInBounds_toArray, List.set_cons_zero, List.set_cons_succ]
        refine skipH 18 43 rfl (by kernel_rfl) (by kernel_rfl) (by kernel_rfl) (fun _ _ _ h => h) rfl (by rfl) hHeld ?_
        simp only [Act.put, List.setIfInBounds_toArray, List.set_cons_zero, List.set_cons_succ]
        refine skipH 19 44 rfl (by kernel_rfl) (by kernel_rfl) (by kernel_rfl) (fun _ _ _ h => h) rfl (by rfl) hHeld ?_
        simp only [Act.put, List.setIfInBounds_toArray, List.set_cons_zero, List.set_cons_succ]
        refine skipH 20 45 rfl (by kernel_rfl) (by kernel_rfl) (by kernel_rfl) (fun _ _ _ h => h) rfl (by rfl) hHeld ?_
        simp only [Act.put, List.setIfInBounds_toArray, List.set_cons_zero, List.set_cons_succ]
        refine skipH 21 46 rfl (by kernel_rfl) (by kernel_rfl) (by kernel_rfl) (fun _ _ _ h => h) rfl (by rfl) hHeld ?_
        simp only [Act.put, List.setIfInBounds_toArray, List.set_cons_zero, List.set_cons_succ]
        refine takeH 22 47 ?_ rfl (by kernel_rfl) (by kernel_rfl) (by kernel_rfl) (fun _ _ _ h => h) rfl (by rfl) ?_ hHeld ?_
        rotate_left 1
        · intro w hSw; go_simp; try with_reducible rfl
        simp only [Act.put, List.setIfInBounds_toArray, List.set_cons_zero, List.set_cons_succ]
        refine wpAnyH_done (by kernel_rfl) ?_ _
        refine NoPanic.normal ?_
        go_wp2_with fail
        go_meet
        exact ⟨rfl, hHeld.1, hHeld.2.1, hHeld.2.2.1, hHeld.2.2.2.1, hHeld.2.2.2.2.1⟩
      · have ts := toList_ne' hs0
        clear hs0 h0
        refine wp_region_noPanic ?_
        refine wp_region_held_drew (S := fun w' => Below (w.heap.size + 2) W w' ∧ w'.cell? ⟨w.heap.size, 0, none⟩ = some (.slice ao xs.length c) ∧ w'.cell? ⟨w.heap.size, 1, none⟩ = some (.string s) ∧ w'.cell? ⟨w.heap.size + 1, 0, none⟩ = some (.slice bo ys.length d) ∧ w'.cell? ⟨w.heap.size + 1, 1, none⟩ = some (.string s) ∧ w'.cell? ⟨p, 0, none⟩ = some (.slice ao xs.length c) ∧ w'.cell? ⟨p, 1, none⟩ = some (.string ⟨#[]⟩) ∧ w'.cell? ⟨q, 0, none⟩ = some (.slice bo ys.length d) ∧ w'.cell? ⟨q, 1, none⟩ = some (.string ⟨#[]⟩)) (by kernel_rfl) q7d (fun hHeld => ?_)
        clear q7d
        refine takeH 0 25 ?_ rfl (by kernel_rfl) (by kernel_rfl) (by kernel_rfl) (fun _ _ _ h => h) rfl (by rfl) ?_ hHeld ?_
        rotate_left 1
        · intro w hSw; go_simp; try with_reducible rfl
        simp only [Act.put, List.setIfInBounds_toArray, List.set_cons_zero, List.set_cons_succ]
        refine takeH 2 27 ?_ rfl (by kernel_rfl) (by kernel_rfl) (by kernel_rfl) (fun _ _ _ h => h) rfl (by rfl) ?_ hHeld ?_
        rotate_left 1
        · intro w hSw; go_simp; try with_reducible rfl
        simp only [Act.put, List.setIfInBounds_toArray, List.set_cons_zero, List.set_cons_succ]
        refine wpAnyH_ready (rs := [1]) (by kernel_rfl) (by simp) ?_
        refine AllReadyH.cons rfl (fun K hK => ?_) AllReadyH.nil
        go_simp
        refine (lawsOf _ _ _ _ _).mono ?_
        rintro e w' ⟨rfl, hb1⟩
        refine hK.out _ _ (keep8 ZB hHeld hb1) ?_
        clear hK K hHeld hb1
        intro hHeld
        try simp only [Act.put, List.setIfInBounds_toArray, List.set_cons_zero, List.set_cons_succ]
        refine wpAnyH_ready (rs := [3]) (by kernel_rfl) (by simp) ?_
        refine AllReadyH.cons rfl (fun K hK => ?_) AllReadyH.nil
        go_simp
        refine (lawsOf _ _ _ _ _).mono ?_
        rintro e w' ⟨rfl, hb1⟩
        refine hK.out _ _ (keep8 ZB hHeld hb1) ?_
        clear hK K hHeld hb1
        intro hHeld
        try simp only [Act.put, List.setIfInBounds_toArray, List.set_cons_zero, List.set_cons_succ]
        refine wpAnyH_ready (rs := [4]) (by kernel_rfl) (by simp) ?_
        refine AllReadyH.cons rfl (fun K hK => ?_) AllReadyH.nil
        go_simp
        refine (HC.out _ _ _ _ _ (ints4 ZZ hb hx hHeld) (ints4 ZZ hb hy hHeld)).mono ?_
        rintro e w' ⟨rfl, hb1⟩
        refine hK.out _ _ (keep8 ZB hHeld hb1) ?_
        clear hK K hHeld hb1
        intro hHeld
        try simp only [Act.put, List.setIfInBounds_toArray, List.set_cons_zero, List.set_cons_succ]
        refine takeH 5 30 ?_ rfl (by kernel_rfl) (by kernel_rfl) (by kernel_rfl) (fun _ _ _ h => h) rfl (by rfl) ?_ hHeld ?_
        rotate_left 1
        · intro w hSw; go_simp; try with_reducible rfl
        simp only [Act.put, List.setIfInBounds_toArray, List.set_cons_zero, List.set_cons_succ]
        refine takeH 6 31 ?_ rfl (by kernel_rfl) (by kernel_rfl) (by kernel_rfl) (fun _ _ _ h => h) rfl (by rfl) ?_ hHeld ?_
        rotate_left 1
        · intro w hSw; go_simp; try with_reducible rfl
        simp only [Act.put, List.setIfInBounds_toArray, List.set_cons_zero, List.set_cons_succ]
        refine takeH 7 32 ?_ rfl (by kernel_rfl) (by kernel_rfl) (by kernel_rfl) (fun _ _ _ h => h) rfl (by rfl) ?_ hHeld ?_
        rotate_left 1
        · intro w hSw; go_simp; try with_reducible rfl
        simp only [Act.put, List.setIfInBounds_toArray, List.set_cons_zero, List.set_cons_succ]
        refine takeH 8 33 ?_ rfl (by kernel_rfl) (by kernel_rfl) (by kernel_rfl) (fun _ _ _ h => h) rfl (by rfl) ?_ hHeld ?_
        rotate_left 1
        · intro w hSw; go_simp; try with_reducible rfl
        simp only [Act.put, List.setIfInBounds_toArray, List.set_cons_zero, List.set_cons_succ]
        refine takeH 9 34 ?_ rfl (by kernel_rfl) (by kernel_rfl) (by kernel_rfl) (fun _ _ _ h => h) rfl (by rfl) ?_ hHeld ?_
        rotate_left 1
        · intro w hSw; go_simp; try with_reducible rfl
        simp only [Act.put, List.setIfInBounds_toArray, List.set_cons_zero, List.set_cons_succ]
        refine takeH 10 35 ?_ rfl (by kernel_rfl) (by kernel_rfl) (by kernel_rfl) (fun _ _ _ h => h) rfl (by rfl) ?_ hHeld ?_
        rotate_left 1
        · intro w hSw; go_simp; try with_reducible rfl
        simp only [Act.put, List.setIfInBounds_toArray, List.set_cons_zero, List.set_cons_succ]
        refine takeH 11 36 ?_ rfl (by kernel_rfl) (by kernel_rfl) (by kernel_rfl) (fun _ _ _ h => h) rfl (by rfl) ?_ hHeld ?_
        rotate_left 1
        · intro w hSw; go_simp; try with_reducible rfl
        simp only [Act.put, List.setIfInBounds_toArray, List.set_cons_zero, List.set_cons_succ]
        refine takeH 12 37 ?_ rfl (by kernel_rfl) (by kernel_rfl) (by kernel_rfl) (fun _ _ _ h => h) rfl (by rfl) ?_ hHeld ?_
        rotate_left 1
        · intro w hSw; go_simp; try with_reducible rfl
        simp only [Act.put, List.setIfInBounds_toArray, List.set_cons_zero, List.set_cons_succ]
        refine takeH 13 38 ?_ rfl (by kernel_rfl) (by kernel_rfl) (by kernel_rfl) (fun _ _ _ h => h) rfl (by rfl) ?_ hHeld ?_
        rotate_left 1
        · intro w hSw; go_simp; try with_reducible rfl
        simp only [Act.put, List.setIfInBounds_toArray, List.set_cons_zero, List.set_cons_succ]
        refine takeH 14 39 ?_ rfl (by kernel_rfl) (by kernel_rfl) (by kernel_rfl) (fun _ _ _ h => h) rfl (by rfl) ?_ hHeld ?_
        rotate_left 1
        · intro w hSw; go_simp; try with_reducible rfl
        simp only [Act.put, List.setIfInBounds_toArray, List.set_cons_zero, List.set_cons_succ]
        refine takeH 15 40 ?_ rfl (by kernel_rfl) (by kernel_rfl) (by kernel_rfl) (fun _ _ _ h => h) rfl (by rfl) ?_ hHeld ?_
        rotate_left 1
        · intro w hSw; go_simp; try with_reducible rfl
        simp only [Act.put, List.setIfInBounds_toArray, List.set_cons_zero, List.set_cons_succ]
        refine takeH 16 41 ?_ rfl (by kernel_rfl) (by kernel_rfl) (by kernel_rfl) (fun _ _ _ h => h) rfl (by rfl) ?_ hHeld ?_
        rotate_left 1
        · intro w hSw; go_simp; try with_reducible rfl
        simp only [Act.put, List.setIfInBounds_toArray, List.set_cons_zero, List.set_cons_succ]
        refine takeH 17 42 ?_ rfl (by kernel_rfl) (by kernel_rfl) (by kernel_rfl) (fun _ _ _ h => h) rfl (by rfl) ?_ hHeld ?_
        rotate_left 1
        · intro w hSw; go_simp; try with_reducible rfl
        simp only [Act.put, List.setIfInBounds_toArray, List.set_cons_zero, List.set_cons_succ]
        refine takeH 18 43 ?_ rfl (by kernel_rfl) (by kernel_rfl) (by kernel_rfl) (fun _ _ _ h => h) rfl (by rfl) ?_ hHeld ?_
        rotate_left 1
        · intro w hSw; go_simp; try with_reducible rfl
        simp only [Act.put, List.setIfInBounds_toArray, List.set_cons_zero, List.set_cons_succ]
        refine takeH 19 44 ?_ rfl (by kernel_rfl) (by kernel_rfl) (by kernel_rfl) (fun _ _ _ h => h) rfl (by rfl) ?_ hHeld ?_
        rotate_left 1
        · intro w hSw; go_simp; try with_reducible rfl
        simp only [Act.put, List.setIfInBounds_toArray, List.set_cons_zero, List.set_cons_succ]
        refine takeH 20 45 ?_ rfl (by kernel_rfl) (by kernel_rfl) (by kernel_rfl) (fun _ _ _ h => h) rfl (by rfl) ?_ hHeld ?_
        rotate_left 1
        · intro w hSw; go_simp; try with_reducible rfl
        simp only [Act.put, List.setIfInBounds_toArray, List.set_cons_zero, List.set_cons_succ]
        refine takeH 21 46 ?_ rfl (by kernel_rfl) (by kernel_rfl) (by kernel_rfl) (fun _ _ _ h => h) rfl (by rfl) ?_ hHeld ?_
        rotate_left 1
        · intro w hSw; go_simp; try with_reducible rfl
        simp only [Act.put, List.setIfInBounds_toArray, List.set_cons_zero, List.set_cons_succ]
        refine takeH 22 47 ?_ rfl (by kernel_rfl) (by kernel_rfl) (by kernel_rfl) (fun _ _ _ h => h) rfl (by rfl) ?_ hHeld ?_
        rotate_left 1
        · intro w hSw; go_simp; try with_reducible rfl
        simp only [Act.put, List.setIfInBounds_toArray, List.set_cons_zero, List.set_cons_succ]
        refine wpAnyH_done (by kernel_rfl) ?_ _
        refine NoPanic.normal ?_
        go_wp2_with fail
        go_meet
        exact ⟨rfl, hHeld.1, hHeld.2.1, hHeld.2.2.1, hHeld.2.2.2.1, hHeld.2.2.2.2.1⟩
      · have ts := toList_ne' hs0
        have tt := toList_ne' ht0
        clear hs0 ht0 h0
        refine wp_region_noPanic ?_
        refine wp_region_held_drew (S := fun w' => Below (w.heap.size + 2) W w' ∧ w'.cell? ⟨w.heap.size, 0, none⟩ = some (.slice ao xs.length c) ∧ w'.cell? ⟨w.heap.size, 1, none⟩ = some (.string s) ∧ w'.cell? ⟨w.heap.size + 1, 0, none⟩ = some (.slice bo ys.length d) ∧ w'.cell? ⟨w.heap.size + 1, 1, none⟩ = some (.string t) ∧ w'.cell? ⟨p, 0, none⟩ = some (.slice ao xs.length c) ∧ w'.cell? ⟨p, 1, none⟩ = some (.string ⟨#[]⟩) ∧ w'.cell? ⟨q, 0, none⟩ = some (.slice bo ys.length d) ∧ w'.cell? ⟨q, 1, none⟩ = some (.string ⟨#[]⟩)) (by kernel_rfl) q7d (fun hHeld => ?_)
        clear q7d
        refine takeH 0 25 ?_ rfl (by kernel_rfl) (by kernel_rfl) (by kernel_rfl) (fun _ _ _ h => h) rfl (by rfl) ?_ hHeld ?_
        rotate_left 1
        · intro w hSw; go_simp; try with_reducible rfl
        simp only [Act.put, List.setIfInBounds_toArray, List.set_cons_zero, List.set_cons_succ]
        refine takeH 2 27 ?_ rfl (by kernel_rfl) (by kernel_rfl) (by kernel_rfl) (fun _ _ _ h => h) rfl (by rfl) ?_ hHeld ?_
        rotate_left 1
        · intro w hSw; go_simp; try with_reducible rfl
        simp only [Act.put, List.setIfInBounds_toArray, List.set_cons_zero, List.set_cons_succ]
        refine wpAnyH_ready (rs := [1]) (by kernel_rfl) (by simp) ?_
        refine AllReadyH.cons rfl (fun K hK => ?_) AllReadyH.nil
        go_simp
        refine (lawsOf _ _ _ _ _).mono ?_
        rintro e w' ⟨rfl, hb1⟩
        refine hK.out _ _ (keep8 ZB hHeld hb1) ?_
        clear hK K hHeld hb1
        intro hHeld
        try simp only [Act.put, List.setIfInBounds_toArray, List.set_cons_zero, List.set_cons_succ]
        refine wpAnyH_ready (rs := [3]) (by kernel_rfl) (by simp) ?_
        refine AllReadyH.cons rfl (fun K hK => ?_) AllReadyH.nil
        go_simp
        refine (lawsOf _ _ _ _ _).mono ?_
        rintro e w' ⟨rfl, hb1⟩
        refine hK.out _ _ (keep8 ZB hHeld hb1) ?_
        clear hK K hHeld hb1
        intro hHeld
        try simp only [Act.put, List.setIfInBounds_toArray, List.set_cons_zero, List.set_cons_succ]
        refine wpAnyH_ready (rs := [4]) (by kernel_rfl) (by simp) ?_
        refine AllReadyH.cons rfl (fun K hK => ?_) AllReadyH.nil
        go_simp
        refine (HC.out _ _ _ _ _ (ints4 ZZ hb hx hHeld) (ints4 ZZ hb hy hHeld)).mono ?_
        rintro e w' ⟨rfl, hb1⟩
        refine hK.out _ _ (keep8 ZB hHeld hb1) ?_
        clear hK K hHeld hb1
        intro hHeld
        try simp only [Act.put, List.setIfInBounds_toArray, List.set_cons_zero, List.set_cons_succ]
        refine takeH 5 30 ?_ rfl (by kernel_rfl) (by kernel_rfl) (by kernel_rfl) (fun _ _ _ h => h) rfl (by rfl) ?_ hHeld ?_
        rotate_left 1
        · intro w hSw; go_simp; try with_reducible rfl
        simp only [Act.put, List.setIfInBounds_toArray, List.set_cons_zero, List.set_cons_succ]
        refine takeH 6 31 ?_ rfl (by kernel_rfl) (by kernel_rfl) (by kernel_rfl) (fun _ _ _ h => h) rfl (by rfl) ?_ hHeld ?_
        rotate_left 1
        · intro w hSw; go_simp; try with_reducible rfl
        simp only [Act.put, List.setIfInBounds_toArray, List.set_cons_zero, List.set_cons_succ]
        refine takeH 7 32 ?_ rfl (by kernel_rfl) (by kernel_rfl) (by kernel_rfl) (fun _ _ _ h => h) rfl (by rfl) ?_ hHeld ?_
        rotate_left 1
        · intro w hSw; go_simp; try with_reducible rfl
        simp only [Act.put, List.setIfInBounds_toArray, List.set_cons_zero, List.set_cons_succ]
        refine takeH 8 33 ?_ rfl (by kernel_rfl) (by kernel_rfl) (by kernel_rfl) (fun _ _ _ h => h) rfl (by rfl) ?_ hHeld ?_
        rotate_left 1
        · intro w hSw; go_simp; try with_reducible rfl
        simp only [Act.put, List.setIfInBounds_toArray, List.set_cons_zero, List.set_cons_succ]
        refine takeH 9 34 ?_ rfl (by kernel_rfl) (by kernel_rfl) (by kernel_rfl) (fun _ _ _ h => h) rfl (by rfl) ?_ hHeld ?_
        rotate_left 1
        · intro w hSw; go_simp; try with_reducible rfl
        simp only [Act.put, List.setIfInBounds_toArray, List.set_cons_zero, List.set_cons_succ]
        refine takeH 10 35 ?_ rfl (by kernel_rfl) (by kernel_rfl) (by kernel_rfl) (fun _ _ _ h => h) rfl (by rfl) ?_ hHeld ?_
        rotate_left 1
        · intro w hSw; go_simp; try with_reducible rfl
        simp only [Act.put, List.setIfInBounds_toArray, List.set_cons_zero, List.set_cons_succ]
        refine takeH 11 36 ?_ rfl (by kernel_rfl) (by kernel_rfl) (by kernel_rfl) (fun _ _ _ h => h) rfl (by rfl) ?_ hHeld ?_
        rotate_left 1
        · intro w hSw; go_simp; try with_reducible rfl
        simp only [Act.put, List.setIfInBounds_toArray, List.set_cons_zero, List.set_cons_succ]
        refine takeH 12 37 ?_ rfl (by kernel_rfl) (by kernel_rfl) (by kernel_rfl) (fun _ _ _ h => h) rfl (by rfl) ?_ hHeld ?_
        rotate_left 1
        · intro w hSw; go_simp; try with_reducible rfl
        simp only [Act.put, List.setIfInBounds_toArray, List.set_cons_zero, List.set_cons_succ]
        refine takeH 13 38 ?_ rfl (by kernel_rfl) (by kernel_rfl) (by kernel_rfl) (fun _ _ _ h => h) rfl (by rfl) ?_ hHeld ?_
        rotate_left 1
        · intro w hSw; go_simp; try with_reducible rfl
        simp only [Act.put, List.setIfInBounds_toArray, List.set_cons_zero, List.set_cons_succ]
        refine takeH 14 39 ?_ rfl (by kernel_rfl) (by kernel_rfl) (by kernel_rfl) (fun _ _ _ h => h) rfl (by rfl) ?_ hHeld ?_
        rotate_left 1
        · intro w hSw; go_simp; try with_reducible rfl
        simp only [Act.put, List.setIfInBounds_toArray, List.set_cons_zero, List.set_cons_succ]
        refine takeH 15 40 ?_ rfl (by kernel_rfl) (by kernel_rfl) (by kernel_rfl) (fun _ _ _ h => h) rfl (by rfl) ?_ hHeld ?_
        rotate_left 1
        · intro w hSw; go_simp; try with_reducible rfl
        simp only [Act.put, List.setIfInBounds_toArray, List.set_cons_zero, List.set_cons_succ]
        refine takeH 16 41 ?_ rfl (by kernel_rfl) (by kernel_rfl) (by kernel_rfl) (fun _ _ _ h => h) rfl (by rfl) ?_ hHeld ?_
        rotate_left 1
        · intro w hSw; go_simp; try with_reducible rfl
        simp only [Act.put, List.setIfInBounds_toArray, List.set_cons_zero, List.set_cons_succ]
        refine takeH 17 42 ?_ rfl (by kernel_rfl) (by kernel_rfl) (by kernel_rfl) (fun _ _ _ h => h) rfl (by rfl) ?_ hHeld ?_
        rotate_left 1
        · intro w hSw; go_simp; try with_reducible rfl
        simp only [Act.put, List.setIfInBounds_toArray, List.set_cons_zero, List.set_cons_succ]
        refine takeH 18 43 ?_ rfl (by kernel_rfl) (by kernel_rfl) (by kernel_rfl) (fun _ _ _ h => h) rfl (by rfl) ?_ hHeld ?_
        rotate_left 1
        · intro w hSw; go_simp; try with_reducible rfl
        simp only [Act.put, List.setIfInBounds_toArray, List.set_cons_zero, List.set_cons_succ]
        refine takeH 19 44 ?_ rfl (by kernel_rfl) (by kernel_rfl) (by kernel_rfl) (fun _ _ _ h => h) rfl (by rfl) ?_ hHeld ?_
        rotate_left 1
        · intro w hSw; go_simp; try with_reducible rfl
        simp only [Act.put, List.setIfInBounds_toArray, List.set_cons_zero, List.set_cons_succ]
        refine takeH 20 45 ?_ rfl (by kernel_rfl) (by kernel_rfl) (by kernel_rfl) (fun _ _ _ h => h) rfl (by rfl) ?_ hHeld ?_
        rotate_left 1
        · intro w hSw; go_simp; try with_reducible rfl
        simp only [Act.put, List.setIfInBounds_toArray, List.set_cons_zero, List.set_cons_succ]
        refine takeH 21 46 ?_ rfl (by kernel_rfl) (by kernel_rfl) (by kernel_rfl) (fun _ _ _ h => h) rfl (by rfl) ?_ hHeld ?_
        rotate_left 1
        · intro w hSw; go_simp; try with_reducible rfl
        simp only [Act.put, List.setIfInBounds_toArray, List.set_cons_zero, List.set_cons_succ]
        refine takeH 22 47 ?_ rfl (by kernel_rfl) (by kernel_rfl) (by kernel_rfl) (fun _ _ _ h => h) rfl (by rfl) ?_ hHeld ?_
        rotate_left 1
        · intro w hSw; go_simp; try with_reducible rfl
        simp only [Act.put, List.setIfInBounds_toArray, List.set_cons_zero, List.set_cons_succ]
        refine wpAnyH_done (by kernel_rfl) ?_ _
        refine NoPanic.normal ?_
        go_wp2_with fail
        go_meet
        exact ⟨by rw [toList_beq hst]; rfl, hHeld.1, hHeld.2.1, hHeld.2.2.1, hHeld.2.2.2.1, hHeld.2.2.2.2.1⟩
    case rest =>
      obtain ⟨rfl, hcut⟩ := hcut
      cases g
      · obtain ⟨r, hC⟩ := hr rfl
        have q9 : Below (w.heap.size + 2) W wc.drew ∧ wc.drew.cell? ⟨w.heap.size, 0, none⟩ = some (.slice ao xs.length c) ∧ wc.drew.cell? ⟨w.heap.size, 1, none⟩ = some (.string s) ∧ wc.drew.cell? ⟨w.heap.size + 1, 0, none⟩ = some (.slice bo ys.length d) ∧ wc.drew.cell? ⟨w.heap.size + 1, 1, none⟩ = some (.string t) :=
          ⟨hcut.1.drew, hcut.2.1, hcut.2.2.1, hcut.2.2.2.1, hcut.2.2.2.2⟩
        have HI : Hid (∀ (ao bo : Option Addr) (c d : Nat) (w : World), Ints w.heap.size w ao xs → Ints w.heap.size w bo ys →
          Calls Tryd.prog 9 #[.agg #[.slice ao xs.length c, .string s], .agg #[.slice bo ys.length d, .string t]] w fun e w' => e = .returned (.int .i64 r) ∧ Below w.heap.size w w') := Lib.hid (implCompare hC fx fy hs ht)
        have HS : Hid (∀ (ao bo : Option Addr) (c d : Nat) (w : World), Ints w.heap.size w ao xs → Ints w.heap.size w bo ys →
          Calls Tryd.prog 7 #[.agg #[.slice ao xs.length c, .string s], .agg #[.slice bo ys.length d, .string t]] w fun e w' => e = .returned (.int .i64 r) ∧ Below w.heap.size w w') := Lib.hid (specCompare hC fx fy)
        clear hcut hC h0 hg hr
        go_wp2_with fail
        go_region_held3 (fun w' => Below (w.heap.size + 2) W w' ∧ w'.cell? ⟨w.heap.size, 0, none⟩ = some (.slice ao xs.length c) ∧ w'.cell? ⟨w.heap.size, 1, none⟩ = some (.string s) ∧ w'.cell? ⟨w.heap.size + 1, 0, none⟩ = some (.slice bo ys.length d) ∧ w'.cell? ⟨w.heap.size + 1, 1, none⟩ = some (.string t))
          (first | exact q9 | exact keep4 ZZ (by assumption) (by assumption))
          (first
            | (go_at_call 9; refine (HI.out _ _ _ _ _ (ints4 ZZ hb hx (by assumption)) (ints4 ZZ hb hy (by assumption))).mono ?_; rintro e w' ⟨rfl, hb1⟩)
            | (go_at_call 8; refine (lawsOf _ _ _ _ _).mono ?_; rintro e w' ⟨rfl, hb1⟩)
            | (go_at_call 7; refine (HS.out _ _ _ _ _ (ints4 ZZ hb hx (by assumption)) (ints4 ZZ hb hy (by assumption))).mono ?_; rintro e w' ⟨rfl, hb1⟩)
            | (go_at_call 6; refine (wakes _).mono ?_; rintro e w' ⟨rfl, hb1⟩))
        rename_i hHeld
        have hh : Below w.heap.size w w' := hb.trans (hHeld.1.mono (by omega))
        clear hHeld
        go_wp2
        go_ret
        exact ⟨rfl, hh⟩
      · have k4 := hcut.1
        clear hcut hx hy
        go_wp2_with fail
        refine (wakes _).mono ?_
        rintro e w5 ⟨rfl, hw5⟩
        go_wp2
        go_ret
        exact ⟨rfl, hb.trans ((k4.mono (by omega)).trans (hw5.mono (by have := k4.size; omega)))⟩
end Go.Proofs.YtilbgmeklkkknaaDoor
