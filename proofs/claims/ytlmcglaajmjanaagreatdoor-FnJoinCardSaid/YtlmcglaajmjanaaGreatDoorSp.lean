/- Walks of package impl: argsOk, tried, Sprint. -/
import Derived.Test.YtlmcglaajmjanaaGreatDoorOk
import Derived.Deep.OwnRows
import Derived.Deep.DeepCutAuto
namespace Go.Proofs.YtlmcglaajmjanaaGreatDoor
open Go.RowKit
theorem contains_no (v : Value) (l : List AArg) (kinds : Int) (kb : Nat) (w : World) (hA : ArgsAt w v l) (hc : w.cell? ⟨kb, 0, none⟩ = some (.int .i64 kinds)) (hl : l.length ≤ 20) (ht : AllTaken kinds l) :
    Calls Tryz.prog 71 #[v, .func (.func 72) #[] #[.pointer (some ⟨kb, 0, none⟩)]] w (ValQ (.bool false) w) := by
  have HI := Lib.hid (indexFunc_no v l kinds kb w hA hc hl ht)
  clear hA hc ht
  go_enter Tryz.func71, Tryz.ntmps71
  go_wp2_with fail
  refine HI.out.mono ?_
  rintro e w2 ⟨rfl, hb2⟩
  go_wp2_with fail
  go_ret
  exact ⟨rfl, hb2⟩
theorem argsOk_yes (v : Value) (l : List AArg) (kinds : Int) (w : World) (hA : ArgsAt w v l) (hl : l.length ≤ 20) (ht : AllTaken kinds l) :
    Calls Tryz.prog 46 #[v, .int .i64 kinds] w (ValQ (.bool true) w) := by
  have hlen := fun ty => hA.len ty
  have hmf : ∀ (fn : Fn) (first cap : Array Value) (w : World), (Instr.makeFunc fn first cap).run Tryz.prog w = .ok (.func fn first cap) w := fun _ _ _ _ => rfl
  have hdl : decide ((l.length : Int) ≤ 20) = true := by simp; omega
  have HC := Lib.hid (contains_no v l kinds w.heap.size (w.alloc (.cells #[.int .i64 kinds] 3)) (hA.below ((Below.refl _ w).alloc (Nat.le_refl _) _)) (cell_new _ _ _ _) hl ht)
  clear hA ht
  go_enter Tryz.func46, Tryz.ntmps46
  go_wp2_with fail
  refine HC.out.mono ?_
  rintro e w2 ⟨rfl, hb2⟩
  go_wp2_with fail
  go_ret
  exact ⟨rfl, ((Below.refl _ w).alloc (Nat.le_refl _) _).trans (hb2.mono (by simp))⟩
/-- tried's own closure, where nothing panicked. -/
theorem tried1_idle (w : World) (r : Nat) :
    CallsD Tryz.prog 74 #[.pointer (some ⟨r, 0, none⟩)] .returning w fun e u' w' => e = .returned (.tuple #[]) ∧ u' = .returning ∧ w' = w := by
  refine callsD_of_wpS Tryz.func74 rfl fun c₀ cs hu => ?_
  apply wpS_seq
  apply wpS_region
  simp [wpOpsS, go_sem, recoverD, hu, Tryz.ntmps74, Exit.thenS]
  refine wpS_cond (t := false) (by simp [Act.eval, Array.replicate]) ?_
  simp only [Bool.false_eq_true, if_false]
  refine wpS_of_wp (wp_skip ?_)
  cases c₀
  simp_all [bodyPostS, results, Tryz.results74]
/-- All old blocks but ob. -/
def But (w : World) (ob : Nat) (k : Nat) : Prop := k < w.heap.size ∧ k ≠ ob
/-- What a closure leaves that lays its answer into the variable at ob. -/
def CloQ (ob : Nat) (l : List UInt8) (w : World) (e : Ending) (w' : World) : Prop := ∃ y : ByteArray, e = .returned (.tuple #[]) ∧ Hid (y.data.toList = l) ∧ w'.cell? ⟨ob, 0, none⟩ = some (.string y) ∧ Kp (But w ob) w w'
theorem cell_set {w : World} {b i : Nat} {x v : Value} (h : w.cell? ⟨b, i, none⟩ = some x) : (w.setCell ⟨b, i, none⟩ v).cell? ⟨b, i, none⟩ = some v := World.cell?_setCell_same _ _ _ h
theorem sprintClo_any (v : Value) (l : List AArg) (lb ob : Nat) (s0 : ByteArray) (w : World) (hT : TabW w) (hA : ArgsAt w v l) (hl : l.length ≤ 10) (hok : ∀ a ∈ l, a.Ok)
    (cl : w.cell? ⟨lb, 0, none⟩ = some v) (co : w.cell? ⟨ob, 0, none⟩ = some (.string s0)) (fo : w.frozen? ⟨ob, 0, none⟩ = false) :
    Calls Tryz.prog 48 #[.pointer (some ⟨lb, 0, none⟩), .pointer (some ⟨ob, 0, none⟩)] w (CloQ ob (encs (sprG [] none l)) w) := by
  have hob := World.block_lt_of_cell? w _ co
  have HV := Lib.hid (valuesOf_any v l w hA (by omega) (fun a ha => (hok a ha).kd))
  have HOK := Lib.hid hok
  have HT := Lib.hid hT
  clear hA hok hT
  generalize hg : encs (sprG [] none l) = g
  have HG := Lib.hid hg; clear hg
  go_enter Tryz.func48, Tryz.ntmps48
  go_wp2_with fail
  refine HV.out.mono ?_
  rintro e w1 ⟨v1, rfl, hi, hb1⟩
  have HS := Lib.hid (rfmtSprint_any v1 l w1 (HT.out.below hb1) hi.out hl HOK.out)
  rw [HG.out] at HS
  clear hi
  go_wp2_with fail
  refine HS.out.mono ?_
  rintro e w2 ⟨y, rfl, hy, hb2⟩
  have hb := hb1.trans (hb2.mono hb1.size)
  have co2 := (hb.cell (p := ⟨ob, 0, none⟩) hob).trans co
  have fo2 := (hb.frozen (p := ⟨ob, 0, none⟩) hob).trans fo
  clear hb1 hb2 co fo
  go_wp2_with fail
  first | go_end0 | ((try simp only [Exit.inBlock, Exit.then]); refine bodyPost_ret (results_none rfl _ _ _) rfl ?_)
  exact ⟨y, rfl, hy, cell_set co2, (Kp.of_below (fun k hk => hk.1) hb).setCell (fun hk => hk.2 rfl) _ _⟩
/-- What tried leaves. -/
def TriQ (ob : Nat) (l : List UInt8) (w : World) (e : Ending) (w' : World) : Prop := ∃ y : ByteArray, e = .returned (.bool true) ∧ Hid (y.data.toList = l) ∧ w'.cell? ⟨ob, 0, none⟩ = some (.string y) ∧ Kp (But w ob) w w'
theorem tried_sprint (lb : Nat) (ob : Nat) (l : List UInt8) (w : World) (hob : ob < w.heap.size)
    (hC : Calls Tryz.prog 48 #[.pointer (some ⟨lb, 0, none⟩), .pointer (some ⟨ob, 0, none⟩)] (w.alloc (.cells #[.bool false] 4)) (CloQ ob l (w.alloc (.cells #[.bool false] 4)))) :
    Calls Tryz.prog 47 #[.func (.func 48) #[] #[.pointer (some ⟨lb, 0, none⟩), .pointer (some ⟨ob, 0, none⟩)]] w (TriQ ob l w) := by
  have hmf : ∀ (fn : Fn) (first cap : Array Value) (w : World), (Instr.makeFunc fn first cap).run Tryz.prog w = .ok (.func fn first cap) w := fun _ _ _ _ => rfl
  have HC := Lib.hid hC; clear hC
  go_enter_defers Tryz.func47, Tryz.ntmps47
  go_wp2_with fail
  refine HC.out.mono ?_
  rintro e w1 ⟨y, rfl, hy, hcy, hb⟩
  have hrb : But (w.alloc (.cells #[.bool false] 4)) ob w.heap.size := ⟨by simp, by omega⟩
  have hr : w1.cell? ⟨w.heap.size, 0, none⟩ = some (.bool false) := (hb.cell hrb 0).trans (cell_new _ _ _ _)
  have hf : w1.frozen? ⟨w.heap.size, 0, none⟩ = false := (hb.frozen hrb 0).trans (frozen_new _ _ _ _)
  have HY := Lib.hid (And.intro hcy hb); clear hcy hb
  go_wp2_with fail
  refine leaves_cons (f := 74) (args := #[.pointer (some ⟨w.heap.size, 0, none⟩)]) (by simp) (by simp [go_sem]) ?_
  refine (tried1_idle _ _).mono ?_
  rintro e u' w'' ⟨rfl, rfl, rfl⟩
  have hcell := cell_set (v := .bool true) hr
  simp only [Leaves, settle]
  refine ⟨.bool true, by simp [results, Tryz.results47, go_sem, hr], y, rfl, hy, ?_, ?_⟩
  · exact (World.cell?_of_block (Below.heap_setCell _ _ _ _ (show ob ≠ w.heap.size by omega))).trans HY.out.1
  · exact (((Kp.of_below (fun k hk => hk.1) ((Below.refl _ w).alloc (Nat.le_refl _) _) : Kp (But w ob) w _)).trans (HY.out.2.anti fun k hk => ⟨Nat.lt_of_lt_of_le hk.1 (by simp), hk.2⟩)).setCell (fun hk => Nat.lt_irrefl _ hk.1) _ _
theorem ArgsAt.slice_ {w : World} {v : Value} {l : List AArg} (h : ArgsAt w v l) : ∃ q n c, v = .slice q n c := by
  obtain ⟨p, a, c, rfl, _⟩ := h
  exact ⟨_, _, _, rfl⟩
/-- From the frame of what changes the variable at ob alone to that of what changes nothing old. -/
theorem Kp.below_but {w w0 w' : World} {B ob : Nat} (hb : Below B w w0) (hB : B ≤ w0.heap.size) (ho : B ≤ ob) (h : Kp (But w0 ob) w0 w') : Below B w w' :=
  hb.trans ⟨h.os, h.tape, h.output, h.size, fun k hk => h.block k ⟨by omega, by omega⟩⟩
theorem AArg.Ok.taken {a : AArg} (h : a.Ok) : Taken 7 a := ⟨by rcases h.kd with h | h | h | h | h | h <;> omega, by rcases h.kd with h | h | h | h | h | h <;> omega, by have := h.tx.le; omega, fun h7 => by rcases h.kd with h | h | h | h | h | h <;> omega⟩
set_option maxHeartbeats 1000000 in
theorem implSprint_any (v : Value) (l : List AArg) (w : World) (hT : TabW w) (hA : ArgsAt w v l) (hl : l.length ≤ 10) (hok : ∀ a ∈ l, a.Ok) :
    Calls Tryz.prog 18 #[v] w (SprQ w (encs (sprG [] none l))) := by
  obtain ⟨q, n, c, rfl⟩ := hA.slice_
  have hmf : ∀ (fn : Fn) (first cap : Array Value) (w : World), (Instr.makeFunc fn first cap).run Tryz.prog w = .ok (.func fn first cap) w := fun _ _ _ _ => rfl
  generalize hW : (w.alloc (.cells #[.slice q n c] 22)).alloc (.cells #[.string ⟨#[]⟩] 9) = W
  have hbW : Below w.heap.size w W := by rw [← hW]; exact ((Below.refl _ w).alloc (Nat.le_refl _) _).alloc (by simp) _
  have hsz : W.heap.size = w.heap.size + 2 := by rw [← hW]; simp
  have hl0 : W.cell? ⟨w.heap.size, 0, none⟩ = some (.slice q n c) := by
    rw [← hW]
    have h1 := cell_new w #[.slice q n c] 22 0
    exact (World.cell?_alloc_past _ _ _ (by simp)).trans h1
  have ho0 : W.cell? ⟨w.heap.size + 1, 0, none⟩ = some (.string ⟨#[]⟩) := by
    have h1 := cell_new (w.alloc (.cells #[.slice q n c] 22)) #[.string ⟨#[]⟩] 9 0
    rw [show (w.alloc (.cells #[.slice q n c] 22)).heap.size = w.heap.size + 1 by simp, hW] at h1
    exact h1
  have hf0 : W.frozen? ⟨w.heap.size + 1, 0, none⟩ = false := by
    have h1 := frozen_new (w.alloc (.cells #[.slice q n c] 22)) #[.string ⟨#[]⟩] 9 0
    rw [show (w.alloc (.cells #[.slice q n c] 22)).heap.size = w.heap.size + 1 by simp, hW] at h1
    exact h1
  have hAW := hA.below hbW
  have HOKA := Lib.hid (argsOk_yes _ l 7 W hAW (by omega) (fun a ha => (hok a ha).taken))
  have HR := Lib.hid (And.intro hbW (And.intro hsz (And.intro hl0 (And.intro ho0 hf0)))); clear hbW hsz ho0 hf0
  have HA := Lib.hid hAW; clear hAW hA
  have HOK := Lib.hid hok; clear hok
  have HT := Lib.hid hT; clear hT
  have HW := Lib.hid hW; clear hW
  generalize hg : sprG [] none l = g
  have HG := Lib.hid hg; clear hg
  go_enter Tryz.func18, Tryz.ntmps18
  go_upto_region 2 with fail
  rw [HW.out]
  go_wp2_with fail
  refine HOKA.out.mono ?_
  rintro e w3 ⟨rfl, hb3⟩
  clear hl0
  obtain ⟨hbW, hsz, hl0, ho0, hf0⟩ := HR.out
  have hb3s := hb3.size
  have hba : Below W.heap.size W (w3.alloc (.cells #[.bool false] 4)) := hb3.alloc hb3s _
  have hl1 := (hba.cell (p := ⟨w.heap.size, 0, none⟩) (by show w.heap.size < _; omega)).trans hl0
  have ho1 := (hba.cell (p := ⟨w.heap.size + 1, 0, none⟩) (by show w.heap.size + 1 < _; omega)).trans ho0
  have hf1 := (hba.frozen (p := ⟨w.heap.size + 1, 0, none⟩) (by show w.heap.size + 1 < _; omega)).trans hf0
  have hT3 : TabW (w3.alloc (.cells #[.bool false] 4)) := (HT.out.below hbW).below hba
  have HTR := Lib.hid (tried_sprint w.heap.size (w.heap.size + 1) _ w3 (by omega) (sprintClo_any _ l w.heap.size (w.heap.size + 1) _ _ hT3 (HA.out.below hba) hl HOK.out hl1 ho1 hf1))
  have HB3 := Lib.hid (And.intro hsz hb3)
  rw [HG.out] at HTR
  clear hbW hsz hl0 ho0 hf0 hl1 ho1 hf1 hT3 hba hb3
  go_wp2_with fail
  refine HTR.out.mono ?_
  rintro e w4 ⟨y, rfl, hy, hcy, hk4⟩
  go_wp2_with fail
  go_ret
  exact ⟨y, rfl, hy, Kp.below_but (HR.out.1.trans (HB3.out.2.mono (by have := HB3.out.1; omega))) (by have := HB3.out.1; omega) (by omega) hk4⟩
end Go.Proofs.YtlmcglaajmjanaaGreatDoor
