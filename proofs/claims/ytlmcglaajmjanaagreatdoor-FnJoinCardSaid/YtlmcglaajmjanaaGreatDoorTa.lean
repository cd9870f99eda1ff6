/- Closed facts: what a type assertion on an argument says. -/
import Derived.Test.YtlmcglaajmjanaaGreatDoorProg
import Derived.KernelRfl
import Derived.WalkKit
namespace Go.Proofs.YtlmcglaajmjanaaGreatDoor
open Go.RowKit
theorem ta_str_sw (v : Value) (w : World) : (Instr.typeAssert (.iface 9 v) 20 142 true).run Tryz.prog w = .ok (.tuple #[.agg #[.nilIface], .bool false]) w := by kernel_rfl
theorem ta_str_uw (v : Value) (w : World) : (Instr.typeAssert (.iface 9 v) 20 147 true).run Tryz.prog w = .ok (.tuple #[.agg #[.nilIface], .bool false]) w := by kernel_rfl
theorem ta_str_bool (v : Value) (w : World) : (Instr.typeAssert (.iface 9 v) 20 4 true).run Tryz.prog w = .ok (.tuple #[.bool false, .bool false]) w := by kernel_rfl
theorem ta_str_int (v : Value) (w : World) : (Instr.typeAssert (.iface 9 v) 20 3 true).run Tryz.prog w = .ok (.tuple #[.int .i64 0, .bool false]) w := by kernel_rfl
theorem ta_str_int8 (v : Value) (w : World) : (Instr.typeAssert (.iface 9 v) 20 152 true).run Tryz.prog w = .ok (.tuple #[.int .i8 0, .bool false]) w := by kernel_rfl
theorem ta_str_int16 (v : Value) (w : World) : (Instr.typeAssert (.iface 9 v) 20 153 true).run Tryz.prog w = .ok (.tuple #[.int .i16 0, .bool false]) w := by kernel_rfl
theorem ta_str_int32 (v : Value) (w : World) : (Instr.typeAssert (.iface 9 v) 20 21 true).run Tryz.prog w = .ok (.tuple #[.int .i32 0, .bool false]) w := by kernel_rfl
theorem ta_str_int64 (v : Value) (w : World) : (Instr.typeAssert (.iface 9 v) 20 2 true).run Tryz.prog w = .ok (.tuple #[.int .i64 0, .bool false]) w := by kernel_rfl
theorem ta_str_uint (v : Value) (w : World) : (Instr.typeAssert (.iface 9 v) 20 154 true).run Tryz.prog w = .ok (.tuple #[.int .u64 0, .bool false]) w := by kernel_rfl
theorem ta_str_uint8 (v : Value) (w : World) : (Instr.typeAssert (.iface 9 v) 20 5 true).run Tryz.prog w = .ok (.tuple #[.int .u8 0, .bool false]) w := by kernel_rfl
theorem ta_str_uint16 (v : Value) (w : World) : (Instr.typeAssert (.iface 9 v) 20 155 true).run Tryz.prog w = .ok (.tuple #[.int .u16 0, .bool false]) w := by kernel_rfl
theorem ta_str_uint32 (v : Value) (w : World) : (Instr.typeAssert (.iface 9 v) 20 156 true).run Tryz.prog w = .ok (.tuple #[.int .u32 0, .bool false]) w := by kernel_rfl
theorem ta_str_uint64 (v : Value) (w : World) : (Instr.typeAssert (.iface 9 v) 20 151 true).run Tryz.prog w = .ok (.tuple #[.int .u64 0, .bool false]) w := by kernel_rfl
theorem ta_str_uintptr (v : Value) (w : World) : (Instr.typeAssert (.iface 9 v) 20 12 true).run Tryz.prog w = .ok (.tuple #[.int .u64 0, .bool false]) w := by kernel_rfl
theorem ta_str_str (v : Value) (w : World) : (Instr.typeAssert (.iface 9 v) 20 9 true).run Tryz.prog w = .ok (.tuple #[v, .bool true]) w := by kernel_rfl
theorem ta_i64_sw (v : Value) (w : World) : (Instr.typeAssert (.iface 2 v) 20 142 true).run Tryz.prog w = .ok (.tuple #[.agg #[.nilIface], .bool false]) w := by kernel_rfl
theorem ta_i64_uw (v : Value) (w : World) : (Instr.typeAssert (.iface 2 v) 20 147 true).run Tryz.prog w = .ok (.tuple #[.agg #[.nilIface], .bool false]) w := by kernel_rfl
theorem ta_i64_bool (v : Value) (w : World) : (Instr.typeAssert (.iface 2 v) 20 4 true).run Tryz.prog w = .ok (.tuple #[.bool false, .bool false]) w := by kernel_rfl
theorem ta_i64_int (v : Value) (w : World) : (Instr.typeAssert (.iface 2 v) 20 3 true).run Tryz.prog w = .ok (.tuple #[.int .i64 0, .bool false]) w := by kernel_rfl
theorem ta_i64_int8 (v : Value) (w : World) : (Instr.typeAssert (.iface 2 v) 20 152 true).run Tryz.prog w = .ok (.tuple #[.int .i8 0, .bool false]) w := by kernel_rfl
theorem ta_i64_int16 (v : Value) (w : World) : (Instr.typeAssert (.iface 2 v) 20 153 true).run Tryz.prog w = .ok (.tuple #[.int .i16 0, .bool false]) w := by kernel_rfl
theorem ta_i64_int32 (v : Value) (w : World) : (Instr.typeAssert (.iface 2 v) 20 21 true).run Tryz.prog w = .ok (.tuple #[.int .i32 0, .bool false]) w := by kernel_rfl
theorem ta_i64_int64 (v : Value) (w : World) : (Instr.typeAssert (.iface 2 v) 20 2 true).run Tryz.prog w = .ok (.tuple #[v, .bool true]) w := by kernel_rfl
theorem ta_rstr_sw (v : Value) (w : World) : (Instr.typeAssert (.iface 50 v) 20 142 true).run Tryz.prog w = .ok (.tuple #[.agg #[.nilIface], .bool false]) w := by kernel_rfl
theorem ta_rstr_uw (v : Value) (w : World) : (Instr.typeAssert (.iface 50 v) 20 147 true).run Tryz.prog w = .ok (.tuple #[.agg #[.nilIface], .bool false]) w := by kernel_rfl
theorem ta_rstr_bool (v : Value) (w : World) : (Instr.typeAssert (.iface 50 v) 20 4 true).run Tryz.prog w = .ok (.tuple #[.bool false, .bool false]) w := by kernel_rfl
theorem ta_rstr_int (v : Value) (w : World) : (Instr.typeAssert (.iface 50 v) 20 3 true).run Tryz.prog w = .ok (.tuple #[.int .i64 0, .bool false]) w := by kernel_rfl
theorem ta_rstr_int8 (v : Value) (w : World) : (Instr.typeAssert (.iface 50 v) 20 152 true).run Tryz.prog w = .ok (.tuple #[.int .i8 0, .bool false]) w := by kernel_rfl
theorem ta_rstr_int16 (v : Value) (w : World) : (Instr.typeAssert (.iface 50 v) 20 153 true).run Tryz.prog w = .ok (.tuple #[.int .i16 0, .bool false]) w := by kernel_rfl
theorem ta_rstr_int32 (v : Value) (w : World) : (Instr.typeAssert (.iface 50 v) 20 21 true).run Tryz.prog w = .ok (.tuple #[.int .i32 0, .bool false]) w := by kernel_rfl
theorem ta_rstr_int64 (v : Value) (w : World) : (Instr.typeAssert (.iface 50 v) 20 2 true).run Tryz.prog w = .ok (.tuple #[.int .i64 0, .bool false]) w := by kernel_rfl
theorem ta_rstr_uint (v : Value) (w : World) : (Instr.typeAssert (.iface 50 v) 20 154 true).run Tryz.prog w = .ok (.tuple #[.int .u64 0, .bool false]) w := by kernel_rfl
theorem ta_rstr_uint8 (v : Value) (w : World) : (Instr.typeAssert (.iface 50 v) 20 5 true).run Tryz.prog w = .ok (.tuple #[.int .u8 0, .bool false]) w := by kernel_rfl
theorem ta_rstr_uint16 (v : Value) (w : World) : (Instr.typeAssert (.iface 50 v) 20 155 true).run Tryz.prog w = .ok (.tuple #[.int .u16 0, .bool false]) w := by kernel_rfl
theorem ta_rstr_uint32 (v : Value) (w : World) : (Instr.typeAssert (.iface 50 v) 20 156 true).run Tryz.prog w = .ok (.tuple #[.int .u32 0, .bool false]) w := by kernel_rfl
theorem ta_rstr_uint64 (v : Value) (w : World) : (Instr.typeAssert (.iface 50 v) 20 151 true).run Tryz.prog w = .ok (.tuple #[.int .u64 0, .bool false]) w := by kernel_rfl
theorem ta_rstr_uintptr (v : Value) (w : World) : (Instr.typeAssert (.iface 50 v) 20 12 true).run Tryz.prog w = .ok (.tuple #[.int .u64 0, .bool false]) w := by kernel_rfl
theorem ta_rstr_str (v : Value) (w : World) : (Instr.typeAssert (.iface 50 v) 20 9 true).run Tryz.prog w = .ok (.tuple #[.string ⟨#[]⟩, .bool false]) w := by kernel_rfl
theorem ta_rstr_bytes (v : Value) (w : World) : (Instr.typeAssert (.iface 50 v) 20 31 true).run Tryz.prog w = .ok (.tuple #[.slice none 0 0, .bool false]) w := by kernel_rfl
theorem ta_rstr_sstr (v : Value) (w : World) : (Instr.typeAssert (.iface 50 v) 20 98 true).run Tryz.prog w = .ok (.tuple #[.string ⟨#[]⟩, .bool false]) w := by kernel_rfl
theorem ta_rstr_sint (v : Value) (w : World) : (Instr.typeAssert (.iface 50 v) 20 101 true).run Tryz.prog w = .ok (.tuple #[.int .i64 0, .bool false]) w := by kernel_rfl
theorem ta_rstr_suint (v : Value) (w : World) : (Instr.typeAssert (.iface 50 v) 20 159 true).run Tryz.prog w = .ok (.tuple #[.int .u64 0, .bool false]) w := by kernel_rfl
theorem ta_rstr_rstr (v : Value) (w : World) : (Instr.typeAssert (.iface 50 v) 20 50 true).run Tryz.prog w = .ok (.tuple #[v, .bool true]) w := by kernel_rfl
theorem ta_sint_sw (v : Value) (w : World) : (Instr.typeAssert (.iface 101 v) 20 142 true).run Tryz.prog w = .ok (.tuple #[.agg #[.nilIface], .bool false]) w := by kernel_rfl
theorem ta_sint_uw (v : Value) (w : World) : (Instr.typeAssert (.iface 101 v) 20 147 true).run Tryz.prog w = .ok (.tuple #[.agg #[.nilIface], .bool false]) w := by kernel_rfl
theorem ta_sint_sv (v : Value) (w : World) : (Instr.typeAssert (.iface 101 v) 20 120 true).run Tryz.prog w = .ok (.tuple #[.iface 101 v, .bool true]) w := by kernel_rfl
theorem ta_sint_bool (v : Value) (w : World) : (Instr.typeAssert (.iface 101 v) 20 4 true).run Tryz.prog w = .ok (.tuple #[.bool false, .bool false]) w := by kernel_rfl
theorem ta_sint_int (v : Value) (w : World) : (Instr.typeAssert (.iface 101 v) 20 3 true).run Tryz.prog w = .ok (.tuple #[.int .i64 0, .bool false]) w := by kernel_rfl
theorem ta_sint_int8 (v : Value) (w : World) : (Instr.typeAssert (.iface 101 v) 20 152 true).run Tryz.prog w = .ok (.tuple #[.int .i8 0, .bool false]) w := by kernel_rfl
theorem ta_sint_int16 (v : Value) (w : World) : (Instr.typeAssert (.iface 101 v) 20 153 true).run Tryz.prog w = .ok (.tuple #[.int .i16 0, .bool false]) w := by kernel_rfl
theorem ta_sint_int32 (v : Value) (w : World) : (Instr.typeAssert (.iface 101 v) 20 21 true).run Tryz.prog w = .ok (.tuple #[.int .i32 0, .bool false]) w := by kernel_rfl
theorem ta_sint_int64 (v : Value) (w : World) : (Instr.typeAssert (.iface 101 v) 20 2 true).run Tryz.prog w = .ok (.tuple #[.int .i64 0, .bool false]) w := by kernel_rfl
theorem ta_sint_uint (v : Value) (w : World) : (Instr.typeAssert (.iface 101 v) 20 154 true).run Tryz.prog w = .ok (.tuple #[.int .u64 0, .bool false]) w := by kernel_rfl
theorem ta_sint_uint8 (v : Value) (w : World) : (Instr.typeAssert (.iface 101 v) 20 5 true).run Tryz.prog w = .ok (.tuple #[.int .u8 0, .bool false]) w := by kernel_rfl
theorem ta_sint_uint16 (v : Value) (w : World) : (Instr.typeAssert (.iface 101 v) 20 155 true).run Tryz.prog w = .ok (.tuple #[.int .u16 0, .bool false]) w := by kernel_rfl
theorem ta_sint_uint32 (v : Value) (w : World) : (Instr.typeAssert (.iface 101 v) 20 156 true).run Tryz.prog w = .ok (.tuple #[.int .u32 0, .bool false]) w := by kernel_rfl
theorem ta_sint_uint64 (v : Value) (w : World) : (Instr.typeAssert (.iface 101 v) 20 151 true).run Tryz.prog w = .ok (.tuple #[.int .u64 0, .bool false]) w := by kernel_rfl
theorem ta_sint_uintptr (v : Value) (w : World) : (Instr.typeAssert (.iface 101 v) 20 12 true).run Tryz.prog w = .ok (.tuple #[.int .u64 0, .bool false]) w := by kernel_rfl
theorem ta_sint_str (v : Value) (w : World) : (Instr.typeAssert (.iface 101 v) 20 9 true).run Tryz.prog w = .ok (.tuple #[.string ⟨#[]⟩, .bool false]) w := by kernel_rfl
theorem ta_sint_bytes (v : Value) (w : World) : (Instr.typeAssert (.iface 101 v) 20 31 true).run Tryz.prog w = .ok (.tuple #[.slice none 0 0, .bool false]) w := by kernel_rfl
theorem ta_sint_sstr (v : Value) (w : World) : (Instr.typeAssert (.iface 101 v) 20 98 true).run Tryz.prog w = .ok (.tuple #[.string ⟨#[]⟩, .bool false]) w := by kernel_rfl
theorem ta_sint_sint (v : Value) (w : World) : (Instr.typeAssert (.iface 101 v) 20 101 true).run Tryz.prog w = .ok (.tuple #[v, .bool true]) w := by kernel_rfl
theorem ta_sw_sw (v : Value) (w : World) : (Instr.typeAssert (.iface 142 v) 20 142 true).run Tryz.prog w = .ok (.tuple #[v, .bool true]) w := by kernel_rfl
theorem ta_uw_sw (v : Value) (w : World) : (Instr.typeAssert (.iface 147 v) 20 142 true).run Tryz.prog w = .ok (.tuple #[.agg #[.nilIface], .bool false]) w := by kernel_rfl
theorem ta_uw_uw (v : Value) (w : World) : (Instr.typeAssert (.iface 147 v) 20 147 true).run Tryz.prog w = .ok (.tuple #[v, .bool true]) w := by kernel_rfl
theorem part_one (p : String → Bool) (s : String) : List.partition p [s] = ([s], []) ∨ List.partition p [s] = ([], [s]) := by
  cases hc : p s with
  | true => exact .inl (by unfold List.partition List.partition.loop; rw [hc]; rfl)
  | false => exact .inr (by unfold List.partition List.partition.loop; rw [hc]; rfl)
theorem missing_one (want : Array (String × TypeId)) (got : Array Method) (x : String × TypeId) (h : want.toList.filter (fun (name, sig) => !got.any fun m => m.name == name && m.sig == sig) = [x]) : ∃ m, Instr.missingMethod want got = some m := by
  unfold Instr.missingMethod
  simp only [h, List.map_cons, List.map_nil]
  rcases part_one (fun s : String => s.contains (Char.ofNat 46)) x.1 with e | e
  · rw [e]; exact ⟨_, rfl⟩
  · rw [e]; exact ⟨_, rfl⟩
theorem und_sv : Tryz.prog.underlying 120 = some (.interface #[("SafeValue", 1)]) := by kernel_rfl
theorem ta_sv_no (X : TypeId) (hX : (Tryz.prog.info? X).map (fun i => i.methods.any fun m => m.name == "SafeValue" && m.sig == 1) = some false) (v : Value) (w : World) : (Instr.typeAssert (.iface X v) 20 120 true).run Tryz.prog w = .ok (.tuple #[.nilIface, .bool false]) w := by
  obtain ⟨i, hi, hmi⟩ : ∃ i, Tryz.prog.info? X = some i ∧ (i.methods.any fun m => m.name == "SafeValue" && m.sig == 1) = false := by
    cases h : Tryz.prog.info? X with
    | none => rw [h] at hX; cases hX
    | some i => rw [h] at hX; exact ⟨i, rfl, by simpa using hX⟩
  obtain ⟨m, hm⟩ := missing_one #[("SafeValue", 1)] i.methods ("SafeValue", 1) (by simp only [List.filter_cons, hmi]; rfl)
  unfold Instr.typeAssert
  simp [run_underlying und_sv, typeInfo, hi, hm]
theorem ta_str_sv (v : Value) (w : World) : (Instr.typeAssert (.iface 9 v) 20 120 true).run Tryz.prog w = .ok (.tuple #[.nilIface, .bool false]) w := ta_sv_no _ (by kernel_rfl) v w
theorem ta_i64_sv (v : Value) (w : World) : (Instr.typeAssert (.iface 2 v) 20 120 true).run Tryz.prog w = .ok (.tuple #[.nilIface, .bool false]) w := ta_sv_no _ (by kernel_rfl) v w
theorem ta_rstr_sv (v : Value) (w : World) : (Instr.typeAssert (.iface 50 v) 20 120 true).run Tryz.prog w = .ok (.tuple #[.nilIface, .bool false]) w := ta_sv_no _ (by kernel_rfl) v w
end Go.Proofs.YtlmcglaajmjanaaGreatDoor
