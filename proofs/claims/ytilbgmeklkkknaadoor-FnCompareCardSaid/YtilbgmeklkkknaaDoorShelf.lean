/-
  Contracts of Go's library at this dump: Len and String of a Builder, IndexByte, TrimPrefix, Itoa below 100, each by one application of the shelf's theorem. Laid by the kit's lay-shelf.mjs and lay-plain.mjs; cut down to what is used. Conditions: as each states.
-/
import Derived.Shelf.Strings.BuilderK
import Derived.Shelf.Small.Strs
import Derived.Shelf.Strconv.Itoa3
import Derived.Shelf.Strings.Prefix
import Derived.Test.YtilbgmeklkkknaaDoorProg
namespace Go.Proofs.YtilbgmeklkkknaaDoor
open Go.Shelf
def Tryd.lays170_ren : Go.Shelf.Ren := ⟨fun | 170 => 21 | n => n, fun | 70 => 56 | 3 => 3 | 0 => 0 | 72 => 59 | 37 => 57 | 5 => 5 | n => n, fun | n => n⟩
theorem Tryd.lays170 : Go.Proofs.Lays.n170 Tryd.prog Tryd.lays170_ren := {
  mixed := by kernel_rfl
  f170 := Tryd.func21.trans (congrArg some (by kernel_rfl))
  t0 := Tryd.underlying0
  a0 := Tryd.isAgg0
  z0 := Tryd.sizeOf0
  v0 := Tryd.zeroValue0
  t3 := Tryd.underlying3
  a3 := Tryd.isAgg3
  z3 := Tryd.sizeOf3
  v3 := Tryd.zeroValue3
  t37 := Tryd.underlying57
  a37 := Tryd.isAgg57
  z37 := Tryd.sizeOf57
  v37 := Tryd.zeroValue57
  t70 := Tryd.underlying56
  a70 := Tryd.isAgg56
  z70 := Tryd.sizeOf56
  v70 := Tryd.zeroValue56
  t72 := Tryd.underlying59
  a72 := Tryd.isAgg59
  z72 := Tryd.sizeOf59
  v72 := Tryd.zeroValue59 }
open Go.RowKit in
theorem Tryd.Builder_Len_f (B b : Nat) (bs : List Value) (w : World) (h : Lib.IsBuilderF 59 5 B b bs w) :
    Calls Tryd.prog 21 #[.pointer (some ⟨b, 0, none⟩)] w fun e w' => e = .returned (.int .i64 bs.length) ∧ w' = w := Any.Builder_Len_f Tryd.lays170 B b bs w h
def Tryd.lays169_ren : Go.Shelf.Ren := ⟨fun | 169 => 25 | n => n, fun | 70 => 56 | 9 => 9 | 0 => 0 | 72 => 59 | 37 => 57 | 127 => 69 | 3 => 3 | 5 => 5 | n => n, fun | n => n⟩
theorem Tryd.lays169 : Go.Proofs.Lays.n169 Tryd.prog Tryd.lays169_ren := {
  mixed := by kernel_rfl
  f169 := Tryd.func25.trans (congrArg some (by kernel_rfl))
  t0 := Tryd.underlying0
  a0 := Tryd.isAgg0
  z0 := Tryd.sizeOf0
  v0 := Tryd.zeroValue0
  t3 := Tryd.underlying3
  a3 := Tryd.isAgg3
  z3 := Tryd.sizeOf3
  v3 := Tryd.zeroValue3
  t9 := Tryd.underlying9
  a9 := Tryd.isAgg9
  z9 := Tryd.sizeOf9
  v9 := Tryd.zeroValue9
  t37 := Tryd.underlying57
  a37 := Tryd.isAgg57
  z37 := Tryd.sizeOf57
  v37 := Tryd.zeroValue57
  t70 := Tryd.underlying56
  a70 := Tryd.isAgg56
  z70 := Tryd.sizeOf56
  v70 := Tryd.zeroValue56
  t72 := Tryd.underlying59
  a72 := Tryd.isAgg59
  z72 := Tryd.sizeOf59
  v72 := Tryd.zeroValue59
  t127 := Tryd.underlying69
  a127 := Tryd.isAgg69
  z127 := Tryd.sizeOf69
  v127 := Tryd.zeroValue69 }
theorem Tryd.Builder_Extra_169 : Builder.Extra Tryd.prog Tryd.lays169_ren := {
  sizeBuilder := by kernel_rfl
  liesBuilder := by kernel_rfl
  t5 := Tryd.underlying5
  a5 := Tryd.isAgg5
  z5 := Tryd.sizeOf5
  v5 := Tryd.zeroValue5
  infoByte := by kernel_rfl
  cellsByte := by kernel_rfl
  sizeByte := by kernel_rfl
  neB5 := by decide }
open Go.RowKit in
theorem Tryd.Builder_String_any_k (B b : Nat) (l : List UInt8) (w : World) (h : Lib.IsBuilderF 59 5 B b (Lib.byteCells l) w) (hBw : B ≤ w.heap.size) :
    Calls Tryd.prog 25 #[.pointer (some ⟨b, 0, none⟩)] w fun e w' => e = .returned (.string ⟨l.toArray⟩) ∧ (Lib.IsBuilderF 59 5 B b (Lib.byteCells l) w' ∧ Below B w w' ∧ Lib.OthersKept 5 (some b) w w') := Any.Builder_String_any_k Tryd.lays169 Tryd.Builder_Extra_169 B b l w h hBw
def Tryd.lays137_ren : Go.Shelf.Ren := ⟨fun | 137 => 27 | 217 => 33 | 266 => 39 | n => n, fun | 9 => 9 | 5 => 5 | 3 => 3 | n => n, fun | n => n⟩
theorem Tryd.lays137 : Go.Proofs.Lays.n137 Tryd.prog Tryd.lays137_ren := {
  mixed := by kernel_rfl
  f137 := Tryd.func27.trans (congrArg some (by kernel_rfl))
  f217 := Tryd.func33.trans (congrArg some (by kernel_rfl))
  f266 := Tryd.func39.trans (congrArg some (by kernel_rfl))
  t3 := Tryd.underlying3
  a3 := Tryd.isAgg3
  z3 := Tryd.sizeOf3
  v3 := Tryd.zeroValue3
  t5 := Tryd.underlying5
  a5 := Tryd.isAgg5
  z5 := Tryd.sizeOf5
  v5 := Tryd.zeroValue5
  t9 := Tryd.underlying9
  a9 := Tryd.isAgg9
  z9 := Tryd.sizeOf9
  v9 := Tryd.zeroValue9 }
open Go.RowKit in
theorem Tryd.strings_IndexByte (s : ByteArray) (c : Int) (w : World) :
    Calls Tryd.prog 27 #[.string s, .int .u8 c] w fun e w' => e = .returned (.int .i64 (Lib.indexByte s.data.toList c.toNat.toUInt8)) ∧ w' = w := Any.strings_IndexByte Tryd.lays137 s c w
def Tryd.lays171_ren : Go.Shelf.Ren := ⟨fun | 171 => 24 | 243 => 31 | 246 => 38 | 283 => 45 | 284 => 46 | 285 => 47 | 286 => 48 | 129 => 53 | 317 => 52 | 318 => 54 | 319 => 55 | 320 => 56 | 337 => 59 | 338 => 60 | n => n, fun | 3 => 3 | 9 => 9 | 2 => 2 | 4 => 4 | 171 => 83 | 0 => 0 | 53 => 84 | 37 => 57 | 5 => 5 | 173 => 87 | 212 => 96 | 51 => 74 | 20 => 20 | 213 => 97 | 46 => 82 | 232 => 106 | 233 => 107 | n => n, fun | 17 => 3 | 18 => 4 | 19 => 5 | n => n⟩
theorem Tryd.lays171 : Go.Proofs.Lays.n171 Tryd.prog Tryd.lays171_ren := {
  mixed := by kernel_rfl
  f129 := Tryd.func53.trans (congrArg some (by kernel_rfl))
  f171 := Tryd.func24.trans (congrArg some (by kernel_rfl))
  f243 := Tryd.func31.trans (congrArg some (by kernel_rfl))
  f246 := Tryd.func38.trans (congrArg some (by kernel_rfl))
  f283 := Tryd.func45.trans (congrArg some (by kernel_rfl))
  f284 := Tryd.func46.trans (congrArg some (by kernel_rfl))
  f285 := Tryd.func47.trans (congrArg some (by kernel_rfl))
  f286 := Tryd.func48.trans (congrArg some (by kernel_rfl))
  f317 := Tryd.func52.trans (congrArg some (by kernel_rfl))
  f318 := Tryd.func54.trans (congrArg some (by kernel_rfl))
  f319 := Tryd.func55.trans (congrArg some (by kernel_rfl))
  f320 := Tryd.func56.trans (congrArg some (by kernel_rfl))
  f337 := Tryd.func59.trans (congrArg some (by kernel_rfl))
  f338 := Tryd.func60.trans (congrArg some (by kernel_rfl))
  t0 := Tryd.underlying0
  a0 := Tryd.isAgg0
  z0 := Tryd.sizeOf0
  v0 := Tryd.zeroValue0
  t2 := Tryd.underlying2
  a2 := Tryd.isAgg2
  z2 := Tryd.sizeOf2
  v2 := Tryd.zeroValue2
  t3 := Tryd.underlying3
  a3 := Tryd.isAgg3
  z3 := Tryd.sizeOf3
  v3 := Tryd.zeroValue3
  t4 := Tryd.underlying4
  a4 := Tryd.isAgg4
  z4 := Tryd.sizeOf4
  v4 := Tryd.zeroValue4
  t5 := Tryd.underlying5
  a5 := Tryd.isAgg5
  z5 := Tryd.sizeOf5
  v5 := Tryd.zeroValue5
  t9 := Tryd.underlying9
  a9 := Tryd.isAgg9
  z9 := Tryd.sizeOf9
  v9 := Tryd.zeroValue9
  t20 := Tryd.underlying20
  a20 := Tryd.isAgg20
  z20 := Tryd.sizeOf20
  v20 := Tryd.zeroValue20
  t37 := Tryd.underlying57
  a37 := Tryd.isAgg57
  z37 := Tryd.sizeOf57
  v37 := Tryd.zeroValue57
  t46 := Tryd.underlying82
  a46 := Tryd.isAgg82
  z46 := Tryd.sizeOf82
  v46 := Tryd.zeroValue82
  t51 := Tryd.underlying74
  a51 := Tryd.isAgg74
  z51 := Tryd.sizeOf74
  v51 := Tryd.zeroValue74
  t53 := Tryd.underlying84
  a53 := Tryd.isAgg84
  z53 := Tryd.sizeOf84
  v53 := Tryd.zeroValue84
  t171 := Tryd.underlying83
  a171 := Tryd.isAgg83
  z171 := Tryd.sizeOf83
  v171 := Tryd.zeroValue83
  t173 := Tryd.underlying87
  a173 := Tryd.isAgg87
  z173 := Tryd.sizeOf87
  v173 := Tryd.zeroValue87
  t212 := Tryd.underlying96
  a212 := Tryd.isAgg96
  z212 := Tryd.sizeOf96
  v212 := Tryd.zeroValue96
  t213 := Tryd.underlying97
  a213 := Tryd.isAgg97
  z213 := Tryd.sizeOf97
  t232 := Tryd.underlying106
  a232 := Tryd.isAgg106
  z232 := Tryd.sizeOf106
  v232 := Tryd.zeroValue106
  t233 := Tryd.underlying107
  a233 := Tryd.isAgg107
  z233 := Tryd.sizeOf107
  v233 := Tryd.zeroValue107
  g17 := by kernel_rfl
  g18 := by kernel_rfl
  g19 := by kernel_rfl }
open Go.RowKit Go.Sort Go.Lib in
theorem Tryd.strconv_Itoa_small (i : Nat) (hi : i < 100) (w : World) :
    Calls Tryd.prog 24 #[.int .i64 i] w fun e w' => e = .returned (.string ⟨(Lib.decDigits i).toArray⟩) ∧ w' = w := Any.strconv_Itoa_small Tryd.lays171 i hi w
def Tryd.lays101_ren : Go.Shelf.Ren := ⟨fun | 101 => 18 | 208 => 26 | 206 => 32 | n => n, fun | 9 => 9 | 4 => 4 | 3 => 3 | n => n, fun | n => n⟩
theorem Tryd.lays101 : Go.Proofs.Lays.n101 Tryd.prog Tryd.lays101_ren := {
  mixed := by kernel_rfl
  f101 := Tryd.func18.trans (congrArg some (by kernel_rfl))
  f206 := Tryd.func32.trans (congrArg some (by kernel_rfl))
  f208 := Tryd.func26.trans (congrArg some (by kernel_rfl))
  t3 := Tryd.underlying3
  a3 := Tryd.isAgg3
  z3 := Tryd.sizeOf3
  v3 := Tryd.zeroValue3
  t4 := Tryd.underlying4
  a4 := Tryd.isAgg4
  z4 := Tryd.sizeOf4
  v4 := Tryd.zeroValue4
  t9 := Tryd.underlying9
  a9 := Tryd.isAgg9
  z9 := Tryd.sizeOf9
  v9 := Tryd.zeroValue9 }
open Go.RowKit Go.Lib in
theorem Tryd.strings_TrimPrefix (s p : ByteArray) (w : World) :
    Calls Tryd.prog 18 #[.string s, .string p] w fun e w' => e = .returned (.string ⟨(Lib.trimPrefix s.data.toList p.data.toList).toArray⟩) ∧ w' = w := Any.strings_TrimPrefix Tryd.lays101 s p w
end Go.Proofs.YtilbgmeklkkknaaDoor
