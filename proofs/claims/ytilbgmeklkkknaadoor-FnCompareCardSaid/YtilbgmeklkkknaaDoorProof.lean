/-
  The law FnCompare, whole: for every two versions it returns true and leaves them as they were (the row), and the row's card, tied to the program's text. Conditions: none beyond the given row's own.
-/
import Derived.Test.YtilbgmeklkkknaaDoorCards
import Derived.Test.YtilbgmeklkkknaaDoorTie
import Derived.Test.YtilbgmeklkkknaaDoorYes
import Derived.WalkKit
import Derived.ProofKit
import Derived.OpenShut
import Derived.ShutString
import Derived.SizedLaws
import Derived.Lib.SmallJoins
import Derived.Deep.DeepHandedRow
import Derived.Deep.DeepLaidRun
import Derived.Lib.LaidTab
namespace Go.Proofs.YtilbgmeklkkknaaDoor
open Go.RowKit

theorem law (ao bo : Option Addr) (c d : Nat) (xs ys : List Int) (s t : ByteArray) (w : World) (hx : Ints w.heap.size w ao xs) (hy : Ints w.heap.size w bo ys)
    (hn : xs.length ≤ maxLen) (hs : s.size ≤ maxLen) (hm : ys.length ≤ maxLen) (ht : t.size ≤ maxLen) :
    Calls Tryd.prog 3 #[.agg #[.slice ao xs.length c, .string s], .agg #[.slice bo ys.length d, .string t]] w fun e w' => e = .returned (.bool true) ∧ Below w.heap.size w w' := by
  by_cases h1 : 2147483647 < xs.length ∨ 2147483647 < s.size
  · exact law_unfit1 ao bo xs.length c ys.length d s t w hn hs h1
  · by_cases h2 : 2147483647 < ys.length ∨ 2147483647 < t.size
    · exact law_unfit2 ao bo xs.length c ys.length d s t w (by omega) (by omega) hm ht h2
    · by_cases h3 : Ver xs ∧ Ver ys
      · rcases cases_of xs ys s t with ⟨hsame, es, et, hne⟩ | ⟨r, hC, r0, h0, hcond⟩
        · exact law_yes ao bo c d xs ys s t w hx hy (by omega) (by omega) (by omega) (by omega) h3 0 (.inr (.inr (.inl ⟨hsame, rfl, rfl⟩))) true
            (.inr (.inr (.inr (.inr ⟨rfl, rfl, es, et, hne⟩)))) (fun e => by cases e)
        · refine law_yes ao bo c d xs ys s t w hx hy (by omega) (by omega) (by omega) (by omega) h3 r0 h0 false ?_ (fun _ => ⟨r, hC⟩)
          rcases hcond with hne | ⟨hz, hq⟩
          · exact .inl ⟨rfl, hne⟩
          · by_cases es : s = ⟨#[]⟩
            · exact .inr (.inl ⟨rfl, hz, es⟩)
            · rcases hq with e | e | e
              · exact absurd e es
              · exact .inr (.inr (.inl ⟨rfl, hz, es, e⟩))
              · exact .inr (.inr (.inr (.inl ⟨rfl, hz, es, e⟩)))
      · exact law_not ao bo c d xs ys s t w hx hy (by omega) (by omega) (by omega) (by omega) h3
end Go.Proofs.YtilbgmeklkkknaaDoor
namespace Go.Proofs.YtilbgmeklkkknaaDoor.fnCompare
open Go.ChangeShapes Go.WideShapes Go.ChangeAt Go.RowKit

theorem own : ownKnob Tryd.prog.godebug = none := by kernel_rfl
theorem laidOut : laidOutB Tryd.prog = true := by kernel_rfl
theorem cells24 : Tryd.prog.cellsOf 24 = 2 := by kernel_rfl
theorem cells3 : Tryd.prog.cellsOf 3 = 1 := by kernel_rfl

set_option maxRecDepth 100000 in
/-- A version that came in: its slice as a walk meets it, and its text. -/
theorem open_version {H : Type} {enc : TypeId × Value → H} {W : World} {base : Nat} {v : Value} {d : DataW H} {p : List MemPlace}
    (hv : Value.okWide Tryd.prog W .any base 24 v) (h : DataW.Trod enc Tryd.prog W 0 (fun _ => true) true 24 v d p) :
    ∃ (ao : Option Addr) (xs : List Int) (c : Nat) (s : ByteArray), v = .agg #[.slice ao xs.length c, .string s] ∧ Ints W.heap.size W ao xs ∧ xs.length ≤ maxLen ∧ s.size ≤ maxLen := by
  obtain ⟨v0, v1, y0, y1, n, rfl, -, -, h0, h1⟩ := Joins.open_agg2 Tryd.underlying24 (by kernel_rfl) cells24 hv h
  obtain ⟨s, hs, -, hsz⟩ := DataW.trod_string Tryd.underlying9 h1
  obtain rfl : v1 = .string s := by simpa using hs
  rcases open_ints Tryd.underlying22 Tryd.underlying3 cells3 h0 with ⟨hcs, -⟩ | ⟨a, len, cap, zs, hcs, -, hl, hm, hz, -, hcell, -⟩
  · obtain rfl : v0 = .slice none 0 0 := by simpa using hcs
    exact ⟨none, [], 0, s, rfl, fun k hk => absurd hk (Nat.not_lt_zero k), Nat.zero_le _, hsz⟩
  · obtain rfl : v0 = .slice (some a) len cap := by simpa using hcs
    simp only [if_true] at hz
    have hlen : (zs.take len).length = len := by rw [List.length_take]; omega
    refine ⟨some a, zs.take len, cap, s, by rw [hlen], fun k hk => ?_, by omega, hsz⟩
    have hkz : k < zs.length := by omega
    obtain ⟨b, off, spot⟩ := a
    have hspot : spot = none := by simpa [Addr.add] using World.cell?_spot (hcell 0 (by omega))
    subst hspot
    have hc := hcell k hkz
    rw [add_plain] at hc
    refine ⟨b, off, lt_of_cell hc, rfl, ?_⟩
    rw [hc]
    have hkl : k < len := by omega
    unfold nth
    simp [List.getD, hkl]

set_option maxRecDepth 100000 in
/-- What the walk gives, for every two arguments. -/
theorem contract (H : Type) (enc : TypeId × Value → H) (W : World) (base : Nat) (args : Array Value) (ds gs : List (DataW H)) (before : List MemPlace)
    (hval0 : ∀ (j : Nat) t v, Tryd.f3.params[j]? = some t → args[j]? = some v → Value.okWide Tryd.prog W .any base t v)
    (hW : DataW.Whole enc Tryd.prog Tryd.f3.params.toList Rows.fnCompareSpec.vars false W args.toList ds gs before) :
    Calls Tryd.prog 3 args W fun e W' => ∃ v, e = .returned v ∧ Rows.fnCompareSpec.post enc Tryd.prog Tryd.f3 false true false false W args v W' := by
  have hval : ∀ (j : Nat) t v, Tryd.f3.params[j]? = some t → args[j]? = some v → Value.okWide Tryd.prog W .any base t v := hval0
  have hW' := hW
  obtain ⟨p, q, hA0, hV, rfl, hfz, hnd⟩ := hW
  have hA : DataW.TrodAll enc Tryd.prog W 0 (fun _ => true) true Tryd.f3.params.toList args.toList ds p := hA0
  rw [Tryd.params3] at hA hval
  obtain ⟨v0, v1, d0, d1, p0, p1, rfl, rfl, rfl, h0, h1⟩ := trodAll_two hA
  obtain ⟨rfl, rfl⟩ := trodVars_none hV
  have k0 := h0
  have k1 := h1
  have lt0 : ∀ x ∈ p0, x.block < W.heap.size := by obtain ⟨m, hm⟩ := k0; exact DataW.trod_lt m _ _ _ hm
  have lt1 : ∀ x ∈ p1, x.block < W.heap.size := by obtain ⟨m, hm⟩ := k1; exact DataW.trod_lt m _ _ _ hm
  obtain ⟨ao, xs, c, s, rfl, hx, hn, hs⟩ := open_version (hval 0 24 v0 rfl rfl) h0
  obtain ⟨bo, ys, d, t, rfl, hy, hm, ht⟩ := open_version (hval 1 24 v1 rfl rfl) h1
  clear hA0 hval0
  refine (law ao bo c d xs ys s t W hx hy hn hs hm ht).mono fun e W' ⟨he, bel⟩ => ?_
  subst he
  exact ⟨_, rfl, _, _, _, [], _, [], hW', trodAll_mk1 (shut_bool Tryd.underlying4 _),
    trodAll_mk2 (Below.trod laidOut (by kernel_rfl) (of_decide_eq_true (by kernel_rfl)) k0 bel lt0) (Below.trod laidOut (by kernel_rfl) (of_decide_eq_true (by kernel_rfl)) k1 bel lt1), rfl, bel.frame _, fun h => by cases h⟩

/-! ### One start that fits: the five listed variables as the program's text lays them -/
abbrev synS : ByteArray := { data := #[105, 110, 118, 97, 108, 105, 100, 32, 115, 121, 110, 116, 97, 120] }
abbrev rngS : ByteArray := { data := #[118, 97, 108, 117, 101, 32, 111, 117, 116, 32, 111, 102, 32, 114, 97, 110, 103, 101] }
/-- So many blocks has the settled world. -/
noncomputable def low : Nat := (World.holding Tryd.prog default ⟨#[], #[], []⟩).heap.size
noncomputable def laidWorld (os : Os) : World :=
  let w0 := World.holding Tryd.prog os ⟨#[.cells #[.string synS] 104, .cells #[.string rngS] 104], #[], []⟩
  { w0 with heap := ((((w0.heap.modify 1 fun
      | .cells _ t frozen => .cells #[.iface 102 (.pointer (some ⟨low, 0, none⟩))] t frozen
      | o => o).modify 2 fun
      | .cells _ t frozen => .cells #[.iface 102 (.pointer (some ⟨low + 1, 0, none⟩))] t frozen
      | o => o).modify 3 fun
      | .cells _ t frozen => .cells #[.int .u64 1, .int .u64 10, .int .u64 100, .int .u64 1000, .int .u64 10000, .int .u64 100000, .int .u64 1000000, .int .u64 10000000, .int .u64 100000000, .int .u64 1000000000, .int .u64 10000000000, .int .u64 100000000000, .int .u64 1000000000000, .int .u64 10000000000000, .int .u64 100000000000000, .int .u64 1000000000000000, .int .u64 10000000000000000, .int .u64 100000000000000000, .int .u64 1000000000000000000, .int .u64 10000000000000000000] t frozen
      | o => o).modify 4 fun
      | .cells _ t frozen => .cells #[.int .u8 0, .int .u8 1, .int .u8 28, .int .u8 2, .int .u8 29, .int .u8 14, .int .u8 24, .int .u8 3, .int .u8 30, .int .u8 22, .int .u8 20, .int .u8 15, .int .u8 25, .int .u8 17, .int .u8 4, .int .u8 8, .int .u8 31, .int .u8 27, .int .u8 13, .int .u8 23, .int .u8 21, .int .u8 19, .int .u8 16, .int .u8 7, .int .u8 26, .int .u8 12, .int .u8 18, .int .u8 6, .int .u8 11, .int .u8 5, .int .u8 10, .int .u8 9] t frozen
      | o => o).modify 5 fun
      | .cells _ t frozen => .cells #[.int .u8 0, .int .u8 1, .int .u8 56, .int .u8 2, .int .u8 57, .int .u8 49, .int .u8 28, .int .u8 3, .int .u8 61, .int .u8 58, .int .u8 42, .int .u8 50, .int .u8 38, .int .u8 29, .int .u8 17, .int .u8 4, .int .u8 62, .int .u8 47, .int .u8 59, .int .u8 36, .int .u8 45, .int .u8 43, .int .u8 51, .int .u8 22, .int .u8 53, .int .u8 39, .int .u8 33, .int .u8 30, .int .u8 24, .int .u8 18, .int .u8 12, .int .u8 5, .int .u8 63, .int .u8 55, .int .u8 48, .int .u8 27, .int .u8 60, .int .u8 41, .int .u8 37, .int .u8 16, .int .u8 46, .int .u8 35, .int .u8 44, .int .u8 21, .int .u8 52, .int .u8 32, .int .u8 23, .int .u8 11, .int .u8 54, .int .u8 26, .int .u8 40, .int .u8 15, .int .u8 34, .int .u8 20, .int .u8 31, .int .u8 10, .int .u8 25, .int .u8 14, .int .u8 19, .int .u8 9, .int .u8 13, .int .u8 8, .int .u8 7, .int .u8 6] t frozen
      | o => o }
set_option maxRecDepth 100000 in
theorem laid_met (os : Os) (args : Array Value) : laidMet Tryd.prog Rows.fnCompareRow.laid ((laidWorld os).forCall (fun _ _ => 0) ⟨#[], args, []⟩).memory :=
  laidMet_of_run3 8 (by kernel_rfl) (by kernel_rfl) (by kernel_rfl)

abbrev zeroArg : Value := .agg #[.slice none 0 0, .string ⟨#[]⟩]
set_option maxRecDepth 100000 in
theorem reads (os : Os) {H : Type} (enc : TypeId × Value → H) : ∃ places, DataW.whole enc Tryd.prog ((laidWorld os).forCall (fun _ _ => 0) ⟨#[], #[zeroArg, zeroArg], []⟩).memory Tryd.f3.params.toList Rows.fnCompareSpec.vars false #[zeroArg, zeroArg].toList 8 = some ([.agg [.nil, .lit (.string [])], .agg [.nil, .lit (.string [])]], [], places) :=
  ⟨[], by kernel_rfl⟩

set_option maxRecDepth 100000 in
theorem lifted (os : Os) (started : os.Started) (H : Type) (enc : TypeId × Value → H) (F : Stop.Interp) :
    ReturnsInHanded {} Tryd.checked os 3 .any ((OpenSpec.ofChange Rows.fnCompareSpec).preRow enc Tryd.prog Tryd.f3 Rows.fnCompareRow.domain false Rows.fnCompareRow.laid) (((OpenSpec.ofChange Rows.fnCompareSpec).at F).post enc Tryd.prog Tryd.f3 false true false false) := by
  obtain ⟨places, hx⟩ := reads os enc
  refine returnsInHanded_of_row (C := Tryd.checked) (s := OpenSpec.ofChange Rows.fnCompareSpec) own started (by kernel_rfl) Tryd.func3
    (witness_row_at (enc := enc) (C := Tryd.checked) false (laidWorld os) #[zeroArg, zeroArg] rfl (by kernel_rfl) (by kernel_rfl) (by kernel_rfl)
      (OpenSpec.preRow_of_cond 8 hx (by kernel_rfl) (fun k hk => by cases hk) (by kernel_rfl) (laid_met os _))) ?_
  intro W base args ds gs before hval hW _ _ _ _ _ _
  exact contract H enc W base args ds gs before hval hW

theorem said : Rows.FnCompareSaid :=
  OpenClaim.holds_of_cond 3 Tryd.f3 rfl rfl rfl rfl rfl rfl rfl ⟨rfl, rfl, rfl, rfl, rfl⟩ rfl rfl rfl rfl rfl (by kernel_rfl) Tryd.func3 (by kernel_rfl)
    (of_decide_eq_true (by kernel_rfl)) (by unfold Func.isWrapper; first | (rw [if_pos (by decide +kernel)]; kernel_rfl) | (rw [if_neg (by decide +kernel)]; exact ⟨rfl, rfl⟩))
    (fun os started H enc _ F => by rw [OpenClaim.pre_eq_preRow]; exact lifted os started H enc F)

/-- No parameter wants a stand-in: what the card asks. -/
theorem plain (f : FuncId) (fn : Func) (hf : Tryd.pinned.checked.prog.funcNamed Rows.fnCompareRow.func = some f) (hfn : Tryd.pinned.checked.prog.funcs[f]? = some fn) :
    true = Tryd.pinned.checked.prog.looks [] ∧ ∀ (j : Nat) t, fn.params[j]? = some t → Tryd.pinned.checked.prog.wantsStandIn t = false := by
  obtain rfl : f = 3 := Option.some.inj ((show Tryd.prog.funcNamed Rows.fnCompareRow.func = some 3 by kernel_rfl).symm.trans hf) |>.symm
  obtain rfl : fn = Tryd.f3 := (Option.some.inj (Tryd.func3.symm.trans hfn)).symm
  refine ⟨by kernel_rfl, fun j t ht => ?_⟩
  rw [Tryd.params3] at ht
  obtain rfl : t = 24 := by simpa using Array.mem_of_getElem? ht
  exact (show Tryd.prog.wantsStandIn 24 = false by kernel_rfl)

/-- The card. -/
theorem card : Rows.FnCompareCardSaid :=
  Claim7.holds_tied_plain_at .later [] _ _ _ _ said (fun _ h => by cases h) (by kernel_rfl) (fun _ h => by cases h) fnCompare_row_tie rfl ⟨rfl, rfl⟩ (by kernel_rfl) rfl plain (by kernel_rfl)
end Go.Proofs.YtilbgmeklkkknaaDoor.fnCompare
namespace Go.Proofs.YtilbgmeklkkknaaDoor
/-- The tied card, under a short name, for the claim. -/
theorem fnCompare_card : Rows.FnCompareCardSaid := fnCompare.card
end Go.Proofs.YtilbgmeklkkknaaDoor
