/- The shelf's contract on bytes.IndexByte, laid in this program's numbers; and over slices told by what they read. -/
import Derived.Shelf.Bytes.IndexByte
import Derived.Test.YtlmcglaajmjanaaGreatDoorZc
namespace Go.Proofs
open Go.Shelf
def Tryz.lays187_ren : Go.Shelf.Ren := ⟨fun | 187 => 108 | 255 => 143 | n => n, fun | 37 => 31 | 3 => 3 | 5 => 5 | n => n, fun | n => n⟩
theorem Tryz.lays187 : Go.Proofs.Lays.n187 Tryz.prog Tryz.lays187_ren := {
  mixed := by kernel_rfl
  f187 := Tryz.func108.trans (congrArg some (by kernel_rfl))
  f255 := Tryz.func143.trans (congrArg some (by kernel_rfl))
  t3 := Tryz.underlying3
  a3 := Tryz.isAgg3
  z3 := Tryz.sizeOf3
  v3 := Tryz.zeroValue3
  t5 := Tryz.underlying5
  a5 := Tryz.isAgg5
  z5 := Tryz.sizeOf5
  v5 := Tryz.zeroValue5
  t37 := Tryz.underlying31
  a37 := Tryz.isAgg31
  z37 := Tryz.sizeOf31
  v37 := Tryz.zeroValue31 }
namespace YtlmcglaajmjanaaGreatDoor
open Go.RowKit
theorem bytesOf_nats (l : List UInt8) : Lib.bytesOf (l.map fun x => (x.toNat : Int)) = l := by
  unfold Lib.bytesOf
  rw [List.map_map]
  conv => rhs; rw [← List.map_id l]
  congr 1
  funext x
  simp
theorem indexByte_any (b o c : Nat) (l : List UInt8) (x : UInt8) (w : World) (hc : ∀ j (h : j < l.length), w.cell? ⟨b, o + j, none⟩ = some (.int .u8 ((l[j]'h).toNat : Int))) :
    Calls Tryz.prog 108 #[.slice (some ⟨b, o, none⟩) l.length c, .int .u8 (x.toNat : Int)] w fun e w' => e = .returned (.int .i64 (Lib.indexByte l x)) ∧ w = w' := by
  have h := Any.bytes_IndexByte Tryz.lays187 b o l.length c (l.map fun x => (x.toNat : Int)) (x.toNat : Int) w (by simp) (fun i hi => by rw [hc i hi]; simp [List.getD, hi])
  rw [bytesOf_nats] at h
  refine h.mono ?_
  rintro e w' ⟨rfl, rfl⟩
  exact ⟨by simp, rfl⟩
end YtlmcglaajmjanaaGreatDoor
end Go.Proofs
