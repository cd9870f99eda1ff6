/- Walks of package redactfmt: a printer. -/
import Derived.Test.YtlmcglaajmjanaaGreatDoorBufD
namespace Go.Proofs.YtlmcglaajmjanaaGreatDoor
open Go.RowKit
/-- The world behind fmt.init. -/
def initW (w : World) (p : Nat) : World := (((((((((w.setCell ⟨p, 6, none⟩ (.pointer (some ⟨p, 0, none⟩))).setCell ⟨p, 7, none⟩ (.bool false)).setCell ⟨p, 8, none⟩ (.bool false)).setCell ⟨p, 9, none⟩ (.bool false)).setCell ⟨p, 10, none⟩ (.bool false)).setCell ⟨p, 11, none⟩ (.bool false)).setCell ⟨p, 12, none⟩ (.bool false)).setCell ⟨p, 13, none⟩ (.bool false)).setCell ⟨p, 14, none⟩ (.bool false)).setCell ⟨p, 15, none⟩ (.bool false)
set_option maxRecDepth 100000 in
theorem init_any (w : World) (p : Nat) (cs : Array Value) (T : TypeId) (hh : w.heap[p]? = some (.cells cs T (0, 0))) (hs : cs.size = 89) :
    Calls Tryz.prog 100 #[.pointer (some ⟨p, 6, none⟩), .pointer (some ⟨p, 0, none⟩)] w fun e w' => e = .returned (.tuple #[]) ∧ w' = initW w p := by
  have hf : ∀ i, w.frozen? ⟨p, i, none⟩ = false := fun i => by simp [World.frozen?, hh]
  have c6 : w.cell? ⟨p, 6, none⟩ = some (cs[6]'(by omega)) := by simp [World.cell?, hh, show 6 < cs.size by omega]
  have f6 := hf 6
  have c7 : w.cell? ⟨p, 7, none⟩ = some (cs[7]'(by omega)) := by simp [World.cell?, hh, show 7 < cs.size by omega]
  have f7 := hf 7
  have c8 : w.cell? ⟨p, 8, none⟩ = some (cs[8]'(by omega)) := by simp [World.cell?, hh, show 8 < cs.size by omega]
  have f8 := hf 8
  have c9 : w.cell? ⟨p, 9, none⟩ = some (cs[9]'(by omega)) := by simp [World.cell?, hh, show 9 < cs.size by omega]
  have f9 := hf 9
  have c10 : w.cell? ⟨p, 10, none⟩ = some (cs[10]'(by omega)) := by simp [World.cell?, hh, show 10 < cs.size by omega]
  have f10 := hf 10
  have c11 : w.cell? ⟨p, 11, none⟩ = some (cs[11]'(by omega)) := by simp [World.cell?, hh, show 11 < cs.size by omega]
  have f11 := hf 11
  have c12 : w.cell? ⟨p, 12, none⟩ = some (cs[12]'(by omega)) := by simp [World.cell?, hh, show 12 < cs.size by omega]
  have f12 := hf 12
  have c13 : w.cell? ⟨p, 13, none⟩ = some (cs[13]'(by omega)) := by simp [World.cell?, hh, show 13 < cs.size by omega]
  have f13 := hf 13
  have c14 : w.cell? ⟨p, 14, none⟩ = some (cs[14]'(by omega)) := by simp [World.cell?, hh, show 14 < cs.size by omega]
  have f14 := hf 14
  have c15 : w.cell? ⟨p, 15, none⟩ = some (cs[15]'(by omega)) := by simp [World.cell?, hh, show 15 < cs.size by omega]
  have f15 := hf 15
  clear hf hh
  go_enter Tryz.func100, Tryz.ntmps100
  go_wp2
  go_end0
  exact ⟨rfl, rfl⟩
/-- The cells of a printer behind its buffer. -/
structure PPR (p : Nat) (R : Nat → Option Value) (ov : Int) : Prop where
  ov : R 4 = some (.int .i64 ov)
  arg : ∃ v, R 5 = some v
  fb : R 6 = some (.pointer (some ⟨p, 0, none⟩))
  fl : ∀ i, 7 ≤ i → i < 16 → R i = some (.bool false)
  wd : R 16 = some (.int .i64 0)
  pr : R 17 = some (.int .i64 0)
  ib : ∀ i, 18 ≤ i → i < 86 → ∃ b : UInt8, R i = some (.int .u8 (b.toNat : Int))
  er : ∀ i, 86 ≤ i → i < 89 → ∃ b, R i = some (.bool b)
noncomputable def Z0 : Array Value := Tryz.zeroCells89.setIfInBounds 88 (.bool false)
theorem z0_size : Z0.size = 89 := by kernel_rfl
set_option maxRecDepth 100000 in
theorem newPrinter_any (w : World) : Calls Tryz.prog 75 #[] w fun e w' => e = .returned (.pointer (some ⟨w.heap.size, 0, none⟩)) ∧ w' = initW (w.alloc (.cells Z0 89)).drew w.heap.size := by
  go_enter Tryz.func75, Tryz.ntmps75
  go_wp2_with fail
  go_region_with (go_at_call 100; refine (init_any _ w.heap.size Z0 89 (by exact heap_alloc_new w _) z0_size).mono ?_; rintro e w8 ⟨rfl, rfl⟩)
  all_goals
    go_wp2_with fail
    go_ret
    exact ⟨rfl, rfl⟩
noncomputable def Z1 (p : Nat) : Array Value := (((((((((Z0.setIfInBounds 6 (.pointer (some ⟨p, 0, none⟩))).setIfInBounds 7 (.bool false)).setIfInBounds 8 (.bool false)).setIfInBounds 9 (.bool false)).setIfInBounds 10 (.bool false)).setIfInBounds 11 (.bool false)).setIfInBounds 12 (.bool false)).setIfInBounds 13 (.bool false)).setIfInBounds 14 (.bool false)).setIfInBounds 15 (.bool false)
theorem initW_heap (w : World) : (initW (w.alloc (.cells Z0 89)).drew w.heap.size).heap[w.heap.size]? = some (.cells (Z1 w.heap.size) 89 (0, 0)) := by
  have h : (w.alloc (.cells Z0 89)).drew.heap[w.heap.size]? = some (.cells Z0 89 (0, 0)) := heap_alloc_new w _
  unfold initW Z1
  exact Lib.heap_setCell_same (i := 15) (Lib.heap_setCell_same (i := 14) (Lib.heap_setCell_same (i := 13) (Lib.heap_setCell_same (i := 12) (Lib.heap_setCell_same (i := 11) (Lib.heap_setCell_same (i := 10) (Lib.heap_setCell_same (i := 9) (Lib.heap_setCell_same (i := 8) (Lib.heap_setCell_same (i := 7) (Lib.heap_setCell_same (i := 6) h _) _) _) _) _) _) _) _) _) _
theorem z1_tail (p : Nat) : ((Z1 p).toList.drop 18).take 68 = List.replicate 68 (.int .u8 0) := by kernel_rfl
theorem z1_0 (p : Nat) : (Z1 p)[0]? = some (.slice none 0 0) := by kernel_rfl
theorem z1_1 (p : Nat) : (Z1 p)[1]? = some (.int .i64 0) := by kernel_rfl
theorem z1_2 (p : Nat) : (Z1 p)[2]? = some (.int .i64 0) := by kernel_rfl
theorem z1_3 (p : Nat) : (Z1 p)[3]? = some (.bool false) := by kernel_rfl
theorem z1_4 (p : Nat) : (Z1 p)[4]? = some (.int .i64 0) := by kernel_rfl
theorem z1_5 (p : Nat) : (Z1 p)[5]? = some (.nilIface) := by kernel_rfl
theorem z1_6 (p : Nat) : (Z1 p)[6]? = some (.pointer (some ⟨p, 0, none⟩)) := by kernel_rfl
theorem z1_7 (p : Nat) : (Z1 p)[7]? = some (.bool false) := by kernel_rfl
theorem z1_8 (p : Nat) : (Z1 p)[8]? = some (.bool false) := by kernel_rfl
theorem z1_9 (p : Nat) : (Z1 p)[9]? = some (.bool false) := by kernel_rfl
theorem z1_10 (p : Nat) : (Z1 p)[10]? = some (.bool false) := by kernel_rfl
theorem z1_11 (p : Nat) : (Z1 p)[11]? = some (.bool false) := by kernel_rfl
theorem z1_12 (p : Nat) : (Z1 p)[12]? = some (.bool false) := by kernel_rfl
theorem z1_13 (p : Nat) : (Z1 p)[13]? = some (.bool false) := by kernel_rfl
theorem z1_14 (p : Nat) : (Z1 p)[14]? = some (.bool false) := by kernel_rfl
theorem z1_15 (p : Nat) : (Z1 p)[15]? = some (.bool false) := by kernel_rfl
theorem z1_16 (p : Nat) : (Z1 p)[16]? = some (.int .i64 0) := by kernel_rfl
theorem z1_17 (p : Nat) : (Z1 p)[17]? = some (.int .i64 0) := by kernel_rfl
theorem z1_86 (p : Nat) : (Z1 p)[86]? = some (.bool false) := by kernel_rfl
theorem z1_87 (p : Nat) : (Z1 p)[87]? = some (.bool false) := by kernel_rfl
theorem z1_88 (p : Nat) : (Z1 p)[88]? = some (.bool false) := by kernel_rfl
theorem newPP {K : Nat → Prop} (w : World) (hK : ∀ k, K k → k < w.heap.size) : ∃ R, PPR w.heap.size R 0 ∧ BufL K (initW (w.alloc (.cells Z0 89)).drew w.heap.size) w.heap.size [] 0 0 false R := by
  refine ⟨fun i => (Z1 w.heap.size)[i]?, ⟨z1_4 _, ⟨_, z1_5 _⟩, z1_6 _, ?_, z1_16 _, z1_17 _, ?_, ?_⟩, none, 0, fun k hk => Nat.lt_of_lt_of_le (hK k hk) (by simp [initW, World.setCell]), fun hk => Nat.lt_irrefl _ (hK _ hk), ⟨_, _, by decide, initW_heap w, z1_0 _, z1_1 _, z1_2 _, z1_3 _, fun i _ => rfl⟩, .inl ⟨rfl, rfl, rfl, rfl⟩⟩
  · intro i h1 h2
    have : i = 7 ∨ i = 8 ∨ i = 9 ∨ i = 10 ∨ i = 11 ∨ i = 12 ∨ i = 13 ∨ i = 14 ∨ i = 15 := by omega
    rcases this with rfl | rfl | rfl | rfl | rfl | rfl | rfl | rfl | rfl
    · exact z1_7 _
    · exact z1_8 _
    · exact z1_9 _
    · exact z1_10 _
    · exact z1_11 _
    · exact z1_12 _
    · exact z1_13 _
    · exact z1_14 _
    · exact z1_15 _
  · intro i h1 h2
    have h := congrArg (fun l => l[i - 18]?) (z1_tail w.heap.size)
    simp only [List.getElem?_take_of_lt (show i - 18 < 68 by omega), List.getElem?_drop, List.getElem?_replicate, if_pos (show i - 18 < 68 by omega), show 18 + (i - 18) = i by omega, Array.getElem?_toList] at h
    exact ⟨0, h⟩
  · intro i h1 h2
    have : i = 86 ∨ i = 87 ∨ i = 88 := by omega
    rcases this with rfl | rfl | rfl
    · exact ⟨false, z1_86 _⟩
    · exact ⟨false, z1_87 _⟩
    · exact ⟨false, z1_88 _⟩
end Go.Proofs.YtlmcglaajmjanaaGreatDoor
