/- Contracts of the shelf, laid in plain words (the kit's tools wrote this text). -/
import Derived.Shelf.Small.Utf8
import Derived.Shelf.Small.Strs
import Derived.Shelf.Utf8.RuneCount
import Derived.Shelf.Strings.Search1
import Derived.Shelf.Lays7
import Derived.Shelf.Spec.DecodeLastRune
import Derived.Shelf.Spec.NilArms
import Derived.Test.YtlmcglaajmjanaaGreatDoorProg
namespace Go.Proofs
open Go.Shelf
def Tryz.lays118_ren : Go.Shelf.Ren := ⟨fun | 118 => 154 | n => n, fun | 21 => 21 | 3 => 3 | 4 => 4 | n => n, fun | n => n⟩
theorem Tryz.lays118 : Go.Proofs.Lays.n118 Tryz.prog Tryz.lays118_ren := {
  mixed := by kernel_rfl
  f118 := Tryz.func154.trans (congrArg some (by kernel_rfl))
  t3 := Tryz.underlying3
  a3 := Tryz.isAgg3
  z3 := Tryz.sizeOf3
  v3 := Tryz.zeroValue3
  t4 := Tryz.underlying4
  a4 := Tryz.isAgg4
  z4 := Tryz.sizeOf4
  v4 := Tryz.zeroValue4
  t21 := Tryz.underlying21
  a21 := Tryz.isAgg21
  z21 := Tryz.sizeOf21
  v21 := Tryz.zeroValue21 }
theorem Tryz.utf8_RuneLen (r : Int) (w : World) :
    Calls Tryz.prog 154 #[.int .i32 r] w fun e w' => e = .returned (.int .i64 (Lib.runeLen r)) ∧ w' = w := Any.utf8_RuneLen Tryz.lays118 r w
def Tryz.lays119_ren : Go.Shelf.Ren := ⟨fun | 119 => 73 | n => n, fun | 21 => 21 | 4 => 4 | n => n, fun | n => n⟩
theorem Tryz.lays119 : Go.Proofs.Lays.n119 Tryz.prog Tryz.lays119_ren := {
  mixed := by kernel_rfl
  f119 := Tryz.func73.trans (congrArg some (by kernel_rfl))
  t4 := Tryz.underlying4
  a4 := Tryz.isAgg4
  z4 := Tryz.sizeOf4
  v4 := Tryz.zeroValue4
  t21 := Tryz.underlying21
  a21 := Tryz.isAgg21
  z21 := Tryz.sizeOf21
  v21 := Tryz.zeroValue21 }
theorem Tryz.utf8_ValidRune (r : Int) (w : World) :
    Calls Tryz.prog 73 #[.int .i32 r] w fun e w' => e = .returned (.bool (Lib.validRune r)) ∧ w' = w := Any.utf8_ValidRune Tryz.lays119 r w
def Tryz.lays195_ren : Go.Shelf.Ren := ⟨fun | 195 => 157 | n => n, fun | 9 => 9 | 3 => 3 | 0 => 0 | 4 => 4 | n => n, fun | n => n⟩
theorem Tryz.lays195 : Go.Proofs.Lays.n195 Tryz.prog Tryz.lays195_ren := {
  mixed := by kernel_rfl
  f195 := Tryz.func157.trans (congrArg some (by kernel_rfl))
  t0 := Tryz.underlying0
  a0 := Tryz.isAgg0
  z0 := Tryz.sizeOf0
  v0 := Tryz.zeroValue0
  t3 := Tryz.underlying3
  a3 := Tryz.isAgg3
  z3 := Tryz.sizeOf3
  v3 := Tryz.zeroValue3
  t4 := Tryz.underlying4
  a4 := Tryz.isAgg4
  z4 := Tryz.sizeOf4
  v4 := Tryz.zeroValue4
  t9 := Tryz.underlying9
  a9 := Tryz.isAgg9
  z9 := Tryz.sizeOf9
  v9 := Tryz.zeroValue9 }
open Go.RowKit in
theorem Tryz.utf8_RuneCountInString (s : ByteArray) (w : World) (hs : s.size < 9223372036854775807) :
    Calls Tryz.prog 157 #[.string s] w fun e w' => e = .returned (.int .i64 (Lib.runeCount s)) ∧ ∃ pos, w' = w.iter s pos := Any.utf8_RuneCountInString Tryz.lays195 s w hs
def Tryz.lays137_ren : Go.Shelf.Ren := ⟨fun | 137 => 80 | 217 => 107 | 266 => 142 | n => n, fun | 9 => 9 | 5 => 5 | 3 => 3 | n => n, fun | n => n⟩
theorem Tryz.lays137 : Go.Proofs.Lays.n137 Tryz.prog Tryz.lays137_ren := {
  mixed := by kernel_rfl
  f137 := Tryz.func80.trans (congrArg some (by kernel_rfl))
  f217 := Tryz.func107.trans (congrArg some (by kernel_rfl))
  f266 := Tryz.func142.trans (congrArg some (by kernel_rfl))
  t3 := Tryz.underlying3
  a3 := Tryz.isAgg3
  z3 := Tryz.sizeOf3
  v3 := Tryz.zeroValue3
  t5 := Tryz.underlying5
  a5 := Tryz.isAgg5
  z5 := Tryz.sizeOf5
  v5 := Tryz.zeroValue5
  t9 := Tryz.underlying9
  a9 := Tryz.isAgg9
  z9 := Tryz.sizeOf9
  v9 := Tryz.zeroValue9 }
open Go.RowKit in
theorem Tryz.strings_IndexByte (s : ByteArray) (c : Int) (w : World) :
    Calls Tryz.prog 80 #[.string s, .int .u8 c] w fun e w' => e = .returned (.int .i64 (Lib.indexByte s.data.toList c.toNat.toUInt8)) ∧ w' = w := Any.strings_IndexByte Tryz.lays137 s c w
def Tryz.lays7_33_ren : Go.Shelf.Ren := ⟨fun | 33 => 112 | 50 => 144 | 32 => 145 | 49 => 172 | n => n, fun | 30 => 31 | 21 => 21 | 3 => 3 | 4 => 4 | 0 => 0 | 5 => 5 | 33 => 125 | 66 => 180 | 25 => 154 | 69 => 183 | 68 => 182 | n => n, fun | 2 => 1 | 3 => 2 | n => n⟩
theorem Tryz.lays7_33 : Go.Proofs.Lays7.n33 Tryz.prog Tryz.lays7_33_ren := {
  mixed := by kernel_rfl
  f32 := Tryz.func145.trans (congrArg some (by kernel_rfl))
  f33 := Tryz.func112.trans (congrArg some (by kernel_rfl))
  f49 := Tryz.func172.trans (congrArg some (by kernel_rfl))
  f50 := Tryz.func144.trans (congrArg some (by kernel_rfl))
  t0 := Tryz.underlying0
  a0 := Tryz.isAgg0
  z0 := Tryz.sizeOf0
  v0 := Tryz.zeroValue0
  i0 := by kernel_rfl
  t3 := Tryz.underlying3
  a3 := Tryz.isAgg3
  z3 := Tryz.sizeOf3
  v3 := Tryz.zeroValue3
  i3 := by kernel_rfl
  t4 := Tryz.underlying4
  a4 := Tryz.isAgg4
  z4 := Tryz.sizeOf4
  v4 := Tryz.zeroValue4
  i4 := by kernel_rfl
  t5 := Tryz.underlying5
  a5 := Tryz.isAgg5
  z5 := Tryz.sizeOf5
  v5 := Tryz.zeroValue5
  i5 := by kernel_rfl
  t21 := Tryz.underlying21
  a21 := Tryz.isAgg21
  z21 := Tryz.sizeOf21
  v21 := Tryz.zeroValue21
  i21 := by kernel_rfl
  t25 := Tryz.underlying154
  a25 := Tryz.isAgg154
  z25 := Tryz.sizeOf154
  v25 := Tryz.zeroValue154
  i25 := by kernel_rfl
  t30 := Tryz.underlying31
  a30 := Tryz.isAgg31
  z30 := Tryz.sizeOf31
  v30 := Tryz.zeroValue31
  i30 := by kernel_rfl
  t33 := Tryz.underlying125
  a33 := Tryz.isAgg125
  z33 := Tryz.sizeOf125
  v33 := Tryz.zeroValue125
  i33 := by kernel_rfl
  t66 := Tryz.underlying180
  a66 := Tryz.isAgg180
  z66 := Tryz.sizeOf180
  t68 := Tryz.underlying182
  a68 := Tryz.isAgg182
  z68 := Tryz.sizeOf182
  v68 := Tryz.zeroValue182
  i68 := by kernel_rfl
  t69 := Tryz.underlying183
  a69 := Tryz.isAgg183
  z69 := Tryz.sizeOf183
  v69 := Tryz.zeroValue183
  i69 := by kernel_rfl
  g2 := by kernel_rfl
  g3 := by kernel_rfl }
open Go.RowKit in
theorem Tryz.utf8_DecodeLastRune (s : ByteArray) (b off cap : Nat) (w : World) (hcap : s.size ≤ cap) (hp : ∀ j, j < s.size → w.cell? ⟨b, off + j, none⟩ = some (.int .u8 (s.get! j).toNat)) (hs : s.size ≤ 9223372036854775807) (hT : Lib.Utf8Tabs (Tryz.lays7_33_ren.g 2) (Tryz.lays7_33_ren.g 3) w) :
    Calls Tryz.prog 112 #[.slice (some ⟨b, off, none⟩) s.size cap] w fun e w' => e = .returned (.tuple #[.int .i32 (Lib.decodeLastL s.data.toList).1, .int .i64 (Lib.decodeLastL s.data.toList).2]) ∧ Below w.heap.size w w' := Any7.utf8_DecodeLastRune Tryz.lays7_33 s b off cap w hcap hp hs hT
theorem Tryz.utf8_DecodeLastRune_nil (w : World) :
    Calls Tryz.prog 112 #[.slice none 0 0] w fun e w' => e = .returned (.tuple #[.int .i32 65533, .int .i64 0]) ∧ w' = w := Any7.utf8_DecodeLastRune_nil Tryz.lays7_33 w
end Go.Proofs
