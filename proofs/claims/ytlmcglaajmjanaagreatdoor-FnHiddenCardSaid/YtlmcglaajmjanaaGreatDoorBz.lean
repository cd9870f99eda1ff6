/- Walks: impl.Build; spec.Put of all that is put into a builder, spec.Build. -/
import Derived.Test.YtlmcglaajmjanaaGreatDoorBx
import Derived.Test.YtlmcglaajmjanaaGreatDoorZk
namespace Go.Proofs.YtlmcglaajmjanaaGreatDoor
open Go.RowKit
attribute [local irreducible] Utf8.encode Utf8.decode
section
variable {K : Nat → Prop} {w : World} {bp : Nat} {o : List Nat} {c : Nat} {m : Int}
/-- What a builder's end reads. -/
theorem BM.read (h : BM K w bp m o c) (hg : GoodT o (410 * c)) (hc : c ≤ 20) : ∃ a cp l vu m mo R, Buf K w bp a l.length cp (Lib.byteCells l) vu m mo R ∧ (m = 0 ∨ m = 1 ∨ m = 2) ∧ l.length ≤ 50000 ∧ (finE l vu m).length ≤ 90000 ∧ vu ≤ l.length ∧ badEnd l = false ∧ (mo = true → finE l vu m ≠ []) ∧ finL l vu m mo = encs o := by
  have hle := hg.le
  obtain ⟨R, ⟨_, o0, s, rfl, hg0, hs, hsl, h⟩ | ⟨_, h⟩ | ⟨_, a, t, rfl, hn, h⟩ | ⟨_, vu, hv, h⟩⟩ := h
  · obtain ⟨a, cp, h⟩ := h
    have := hg0.le
    have s0 := sm_0 hg0.sc hg0.mkd hs (by omega)
    exact ⟨a, cp, _, _, 0, true, R, h, .inl rfl, s0.hl, s0.hl2, s0.hv, s0.hbad, s0.hn, smL_0 hg0.sc hg0.mkd hs⟩
  · obtain ⟨a, cp, h⟩ := h
    have s0 := sm_shut (l := encs o) (by omega) (badEnd_enc hg.sc)
    exact ⟨a, cp, _, _, 0, false, R, h, .inl rfl, s0.hl, s0.hl2, s0.hv, s0.hbad, s0.hn, smE_shut _⟩
  · obtain ⟨a1, cp, h⟩ := h
    have s0 := sm_1 hg.sc hn (by omega)
    exact ⟨a1, cp, _, _, 1, false, R, h, .inr (.inl rfl), s0.hl, s0.hl2, s0.hv, s0.hbad, s0.hn, fin_1 hg.sc hn⟩
  · obtain ⟨a1, cp, h⟩ := h
    have s0 := sm_raw (l := encs o) (by omega) hv (badEnd_enc hg.sc)
    exact ⟨a1, cp, _, _, 2, false, R, h, .inr (.inr rfl), s0.hl, s0.hl2, s0.hv, s0.hbad, s0.hn, rfl⟩
theorem newBM (w : World) (T : TypeId) (hT : T ≠ 5) : BM (· < w.heap.size) (w.alloc (.cells #[.slice none 0 0, .int .i64 0, .int .i64 0, .bool false] T)) w.heap.size 0 [] 0 := by
  obtain ⟨R, ⟨_, h⟩ | h⟩ := newB w T hT
  · exact ⟨R, .inr (.inl ⟨rfl, h⟩)⟩
  · exact absurd h.hp (fun hn => hn |> fun _ => by
      obtain ⟨a, cp, h⟩ := h
      have h2 := h.c2
      rw [cell_new] at h2
      injection h2 with h2
      injection h2 with _ h2
      cases h2)
end
set_option maxHeartbeats 2000000 in
set_option maxRecDepth 100000 in
theorem buildClo_any (v : Value) (l : List AArg) (lb ob : Nat) (s0 : ByteArray) (w : World) (hT : TabW w) (hA : ArgsAt w v l) (hl : l.length ≤ 10) (hok : ∀ a ∈ l, a.OkB)
    (cl : w.cell? ⟨lb, 0, none⟩ = some v) (co : w.cell? ⟨ob, 0, none⟩ = some (.string s0)) (fo : w.frozen? ⟨ob, 0, none⟩ = false) :
    Calls Tryz.prog 63 #[.pointer (some ⟨lb, 0, none⟩), .pointer (some ⟨ob, 0, none⟩)] w (CloQ ob (encs (bldN [] l)) w) := by
  have hlen := fun ty => hA.len ty
  have hob := World.block_lt_of_cell? w _ co
  have hlb := World.block_lt_of_cell? w _ cl
  have hbw : Below w.heap.size w (w.alloc (.cells #[.slice none 0 0, .int .i64 0, .int .i64 0, .bool false] 70)) := (Below.refl _ w).alloc (Nat.le_refl _) _
  have hk0 : Kp (· < w.heap.size) w (w.alloc (.cells #[.slice none 0 0, .int .i64 0, .int .i64 0, .bool false] 70)) := Kp.of_below (fun _ h => h) hbw
  have h2 := hT.2
  have hE : Env (· < w.heap.size) (w.alloc (.cells #[.slice none 0 0, .int .i64 0, .int .i64 0, .bool false] 70)) w.heap.size := ⟨show 1 < w.heap.size by omega, show 2 < w.heap.size by omega, h2, (hT.below hbw).1⟩
  have HB0 := Lib.hid (newBM w 70 (by decide))
  have HK0 := Lib.hid hk0
  have HE : Hid (∀ W, Kp (· < w.heap.size) w W → Env (· < w.heap.size) W w.heap.size) := fun W hW => by
    have hE0 : Env (· < w.heap.size) w w.heap.size := ⟨show 1 < w.heap.size by omega, show 2 < w.heap.size by omega, h2, hT.1⟩
    exact hE0.kp hW
  have hz : (w.alloc (.cells #[.slice none 0 0, .int .i64 0, .int .i64 0, .bool false] 70)).cell? ⟨lb, 0, none⟩ = some v := (hbw.cell (p := ⟨lb, 0, none⟩) hlb).trans cl
  have HA := Lib.hid hA
  have HT := Lib.hid hT
  have HO := Lib.hid (And.intro co fo)
  have HOK := Lib.hid hok
  obtain ⟨g, hg⟩ : ∃ g, bldN [] l = g := ⟨_, rfl⟩
  rw [hg]
  have HG := Lib.hid hg
  have hgood := GoodT.bld l [] 0 GoodT.nil hok
  rw [hg] at hgood
  have HGD := Lib.hid hgood
  clear hA hT co fo hok hg hgood hbw hk0 hE cl
  go_enter Tryz.func63, Tryz.ntmps63
  go_wp2_with fail
  go_loopw [7] (fun iv wr => ∃ (k : Nat) (o : List Nat) (m : Int), iv = .int .i64 k ∧ k ≤ l.length ∧ Hid (BM (· < w.heap.size) wr w.heap.size m o k) ∧ Hid (GoodT o (410 * k) ∧ bldN o (l.drop k) = g) ∧ Hid (Kp (· < w.heap.size) w wr))
    (fun iv _ => l.length - (intOf iv).toNat)
  case atStart => exact ⟨0, [], 0, rfl, Nat.zero_le _, HB0.out, ⟨GoodT.nil, HG.out⟩, HK0.out⟩
  case round =>
    obtain ⟨k, o, m, rfl, hk, hbm, hst, hkp⟩ := hrel
    clear hz
    by_cases hlt : k < l.length
    · obtain ⟨qb, qo, hix, hld0⟩ := HA.out.at_ k hlt
      obtain ⟨c0, c1, c2⟩ := hld0 wr (HA.out.below hkp.out.below)
      clear hld0
      have HX := Lib.hid (HOK.out _ (List.getElem_mem hlt))
      have HST := Lib.hid (bld_step hlt hst.out.2)
      obtain ⟨kd, tx, nn, hx⟩ : ∃ kd tx nn, l[k]'hlt = ⟨kd, tx, nn⟩ := ⟨_, _, _, rfl⟩
      rw [hx] at c0 c1 c2 HX HST
      dsimp only at c0 c1 c2
      clear hx
      have hb1 : Below wr.heap.size wr (wr.alloc (.cells #[.int .i64 kd, .string tx, .int .i64 nn] 47)) := (Below.refl _ wr).alloc (Nat.le_refl _) _
      have hk1 := hkp.out.trans (Kp.of_below hbm.out.hK hb1)
      have HC := Lib.hid (put_any ⟨kd, tx, nn⟩ HX.out (hbm.out.below hb1) hst.out.1 (by omega) (HE.out _ hk1))
      have HK1 := Lib.hid hk1
      clear hb1 hk1
      go_wp2_with fail
      refine HC.out.mono ?_
      rintro e w2 ⟨rfl, h2, hk2⟩
      obtain ⟨m2, h2⟩ := h2.out
      have H2 := Lib.hid h2; clear h2
      go_wp2_with fail
      go_roundw
      case rel => exact ⟨k + 1, _, m2, by go_num, by omega, H2.out, ⟨(hst.out.1.putB HX.out).mono (by omega), HST.out⟩, HK1.out.trans hk2⟩
      case measure => simp [intOf]; omega
    · have hkl : k = l.length := by omega
      have hfin : o = g := by
        have h := hst.out.2
        rw [List.drop_of_length_le (by omega)] at h
        exact h
      obtain ⟨a1, c1, l1, vu1, m1, mo1, R1, hB, hm, hl1, hl2, hvu, hbad, hn, hf⟩ := hbm.out.read hst.out.1 (by omega)
      rw [hfin] at hf
      have d0 := hB.c0
      have d1 := hB.c1
      have d2 := hB.c2
      have d3 := hB.c3
      have HR := Lib.hid (redactable_any hB hm hl1 hl2 hvu (HT.out.below hkp.out.below) hbad hn)
      rw [hf] at HR
      clear hB hm hl1 hl2 hvu hbad hn hf hfin hbm hst
      go_wp2_with fail
      refine HR.out.mono ?_
      rintro e w2 ⟨y, rfl, hy, hk3⟩
      have HK3 := Lib.hid (hkp.out.trans hk3)
      have co2 := (HK3.out.cell (r := ob) hob 0).trans HO.out.1
      have fo2 := (HK3.out.frozen (r := ob) hob 0).trans HO.out.2
      clear d0 d1 d2 d3 hk3
      go_wp2_with fail
      first | go_end0 | ((try simp only [Exit.inBlock, Exit.then]); refine bodyPost_ret (results_none rfl _ _ _) rfl ?_)
      exact ⟨y, rfl, hy, cell_set co2, (HK3.out.anti fun k hk => hk.1).setCell (fun hk => hk.2 rfl) _ _⟩
theorem tried_build (lb : Nat) (ob : Nat) (l : List UInt8) (w : World) (hob : ob < w.heap.size)
    (hC : Calls Tryz.prog 63 #[.pointer (some ⟨lb, 0, none⟩), .pointer (some ⟨ob, 0, none⟩)] (w.alloc (.cells #[.bool false] 4)) (CloQ ob l (w.alloc (.cells #[.bool false] 4)))) :
    Calls Tryz.prog 47 #[.func (.func 63) #[] #[.pointer (some ⟨lb, 0, none⟩), .pointer (some ⟨ob, 0, none⟩)]] w (TriQ ob l w) := by
  have hmf : ∀ (fn : Fn) (first cap : Array Value) (w : World), (Instr.makeFunc fn first cap).run Tryz.prog w = .ok (.func fn first cap) w := fun _ _ _ _ => rfl
  have HC := Lib.hid hC; clear hC
  go_enter_defers Tryz.func47, Tryz.ntmps47
  go_wp2_with fail
  refine HC.out.mono ?_
  rintro e w1 ⟨y, rfl, hy, hcy, hb⟩
  have hrb : But (w.alloc (.cells #[.bool false] 4)) ob w.heap.size := ⟨by simp, by omega⟩
  have hr : w1.cell? ⟨w.heap.size, 0, none⟩ = some (.bool false) := (hb.cell hrb 0).trans (cell_new _ _ _ _)
  have hf : w1.frozen? ⟨w.heap.size, 0, none⟩ = false := (hb.frozen hrb 0).trans (frozen_new _ _ _ _)
  have HY := Lib.hid (And.intro hcy hb); clear hcy hb
  go_wp2_with fail
  refine leaves_cons (f := 74) (args := #[.pointer (some ⟨w.heap.size, 0, none⟩)]) (by simp) (by simp [go_sem]) ?_
  refine (tried1_idle _ _).mono ?_
  rintro e u' w'' ⟨rfl, rfl, rfl⟩
  have hcell := cell_set (v := .bool true) hr
  simp only [Leaves, settle]
  refine ⟨.bool true, by simp [results, Tryz.results47, go_sem, hr], y, rfl, hy, ?_, ?_⟩
  · exact (World.cell?_of_block (Below.heap_setCell _ _ _ _ (show ob ≠ w.heap.size by omega))).trans HY.out.1
  · exact (((Kp.of_below (fun k hk => hk.1) ((Below.refl _ w).alloc (Nat.le_refl _) _) : Kp (But w ob) w _)).trans (HY.out.2.anti fun k hk => ⟨Nat.lt_of_lt_of_le hk.1 (by simp), hk.2⟩)).setCell (fun hk => Nat.lt_irrefl _ hk.1) _ _
set_option maxHeartbeats 1000000 in
theorem implBuild_any (v : Value) (l : List AArg) (w : World) (hT : TabW w) (hA : ArgsAt w v l) (hl : l.length ≤ 10) (hok : ∀ a ∈ l, a.OkB) :
    Calls Tryz.prog 37 #[v] w (SprQ w (encs (bldN [] l))) := by
  obtain ⟨q, n, c, rfl⟩ := hA.slice_
  have hmf : ∀ (fn : Fn) (first cap : Array Value) (w : World), (Instr.makeFunc fn first cap).run Tryz.prog w = .ok (.func fn first cap) w := fun _ _ _ _ => rfl
  generalize hW : (w.alloc (.cells #[.slice q n c] 22)).alloc (.cells #[.string ⟨#[]⟩] 9) = W
  have hbW : Below w.heap.size w W := by rw [← hW]; exact ((Below.refl _ w).alloc (Nat.le_refl _) _).alloc (by simp) _
  have hsz : W.heap.size = w.heap.size + 2 := by rw [← hW]; simp
  have hl0 : W.cell? ⟨w.heap.size, 0, none⟩ = some (.slice q n c) := by
    rw [← hW]
    have h1 := cell_new w #[.slice q n c] 22 0
    exact (World.cell?_alloc_past _ _ _ (by simp)).trans h1
  have ho0 : W.cell? ⟨w.heap.size + 1, 0, none⟩ = some (.string ⟨#[]⟩) := by
    have h1 := cell_new (w.alloc (.cells #[.slice q n c] 22)) #[.string ⟨#[]⟩] 9 0
    rw [show (w.alloc (.cells #[.slice q n c] 22)).heap.size = w.heap.size + 1 by simp, hW] at h1
    exact h1
  have hf0 : W.frozen? ⟨w.heap.size + 1, 0, none⟩ = false := by
    have h1 := frozen_new (w.alloc (.cells #[.slice q n c] 22)) #[.string ⟨#[]⟩] 9 0
    rw [show (w.alloc (.cells #[.slice q n c] 22)).heap.size = w.heap.size + 1 by simp, hW] at h1
    exact h1
  have hAW := hA.below hbW
  have HOKA := Lib.hid (argsOk_yes _ l 11 W hAW (by omega) (fun a ha => (hok a ha).taken))
  have HR := Lib.hid (And.intro hbW (And.intro hsz (And.intro hl0 (And.intro ho0 hf0)))); clear hbW hsz ho0 hf0
  have HA := Lib.hid hAW; clear hAW hA
  have HOK := Lib.hid hok; clear hok
  have HT := Lib.hid hT; clear hT
  have HW := Lib.hid hW; clear hW
  generalize hg : bldN [] l = g
  have HG := Lib.hid hg; clear hg
  go_enter Tryz.func37, Tryz.ntmps37
  go_upto_region 2 with fail
  rw [HW.out]
  go_wp2_with fail
  refine HOKA.out.mono ?_
  rintro e w3 ⟨rfl, hb3⟩
  clear hl0
  obtain ⟨hbW, hsz, hl0, ho0, hf0⟩ := HR.out
  have hb3s := hb3.size
  have hba : Below W.heap.size W (w3.alloc (.cells #[.bool false] 4)) := hb3.alloc hb3s _
  have hl1 := (hba.cell (p := ⟨w.heap.size, 0, none⟩) (by show w.heap.size < _; omega)).trans hl0
  have ho1 := (hba.cell (p := ⟨w.heap.size + 1, 0, none⟩) (by show w.heap.size + 1 < _; omega)).trans ho0
  have hf1 := (hba.frozen (p := ⟨w.heap.size + 1, 0, none⟩) (by show w.heap.size + 1 < _; omega)).trans hf0
  have hT3 : TabW (w3.alloc (.cells #[.bool false] 4)) := (HT.out.below hbW).below hba
  have HTR := Lib.hid (tried_build w.heap.size (w.heap.size + 1) _ w3 (by omega) (buildClo_any _ l w.heap.size (w.heap.size + 1) _ _ hT3 (HA.out.below hba) hl HOK.out hl1 ho1 hf1))
  have HB3 := Lib.hid (And.intro hsz hb3)
  rw [HG.out] at HTR
  clear hbW hsz hl0 ho0 hf0 hl1 ho1 hf1 hT3 hba hb3
  go_wp2_with fail
  refine HTR.out.mono ?_
  rintro e w4 ⟨y, rfl, hy, hcy, hk4⟩
  go_wp2_with fail
  go_ret
  exact ⟨y, rfl, hy, Kp.below_but (HR.out.1.trans (HB3.out.2.mono (by have := HB3.out.1; omega))) (by have := HB3.out.1; omega) (by omega) hk4⟩
/-! ### the reference -/
theorem specPut_low (out : ByteArray) (o : List Nat) (a : AArg) (w : World) (ho : out.data.toList = encs o) (hg : GoodT o 40000) (ha : a.OkB) (hk : a.kind ≤ 5) :
    Calls Tryz.prog 44 #[.string out, a.val] w (SprQ w (encs (putB o a))) := by
  have h := specPut_any out o a w ho hg ⟨by have := ha.kd; omega, ha.tx, ha.sf, ha.mk1, ha.n0, ha.n1⟩
  have e : putN o a = putB o a := by
    have hkd := ha.kd
    unfold putN putB
    by_cases h1 : a.kind = 1 ∨ a.kind = 4
    · rw [if_pos h1, if_pos h1]
    · rw [if_neg h1, if_neg h1, if_neg (show ¬ a.kind = 2 by omega)]
      by_cases h3 : a.kind = 3
      · rw [if_pos h3, if_pos h3]
      · rw [if_neg h3, if_neg h3, if_neg (show ¬ (a.kind = 7 ∨ a.kind = 9) by omega), if_neg (show ¬ (a.kind = 8 ∨ a.kind = 10) by omega)]
  rw [e] at h
  exact h
theorem str_rune {n : Int} (h0 : 0 ≤ n) (h1 : n ≤ 127) : ∃ z : ByteArray, Utf8.encode n = z ∧ z.size = 1 ∧ z.data.toList = encs [n.toNat] := by
  refine ⟨_, rfl, ?_, ?_⟩
  · have h := encL_of (r := n.toNat) (e := Utf8.encode n) (by rw [Int.toNat_of_nonneg h0])
    have h2 := encL_ascii n.toNat (by omega)
    rw [h2] at h
    have := congrArg List.length h
    rw [Lib.toList_data, ← Lib.size_eq] at this
    simpa using this.symm
  · have h := encL_of (r := n.toNat) (e := Utf8.encode n) (by rw [Int.toNat_of_nonneg h0])
    rw [encs_one, h, Lib.toList_data]
set_option maxHeartbeats 2000000 in
theorem specPutB_any (out : ByteArray) (o : List Nat) (a : AArg) (w : World) (ho : out.data.toList = encs o) (hg : GoodT o 40000) (ha : a.OkB) :
    Calls Tryz.prog 44 #[.string out, a.val] w (SprQ w (encs (putB o a))) := by
  by_cases h5 : a.kind ≤ 5
  · exact specPut_low out o a w ho hg ha h5
  · obtain ⟨k, s, n⟩ := a
    obtain ⟨hk, htx, hsf, hmk, hn0, hn1, hnn⟩ := ha
    dsimp only at hk htx hsf hmk hn0 hn1 hnn h5
    have hos := str_size ho
    have hle := hg.le
    have hts := htx.le
    clear hsf hmk
    have hk6 : k = 6 ∨ k = 7 ∨ k = 8 ∨ k = 9 ∨ k = 10 := by omega
    clear hk h5
    rcases hk6 with rfl | rfl | rfl | rfl | rfl
    · show Calls Tryz.prog 44 #[.string out, .agg #[.int .i64 6, .string s, .int .i64 n]] w (SprQ w (encs (unsafeN o (runes s))))
      clear hnn
      go_enter Tryz.func44, Tryz.ntmps44
      go_wp2_with fail
      refine (specUnsafe_enc out s o (runes s) _ ho htx.en hg.sc htx.sc (by omega) (by omega)).mono ?_
      rintro e w2 ⟨y, rfl, hy, hb⟩
      go_wp2_with fail
      go_ret
      exact ⟨y, rfl, hy, ((Below.refl _ w).alloc (Nat.le_refl _) _).trans (hb.mono (by simp))⟩
    · have hn := hnn (by decide)
      clear hnn
      show Calls Tryz.prog 44 #[.string out, .agg #[.int .i64 7, .string s, .int .i64 n]] w (SprQ w (encs (unsafeN o [n.toNat])))
      obtain ⟨z, hz, hzs, Hz⟩ := str_rune (n := n) hn.1 hn.2
      have ew : IntKind.i32.wrap n = n := by rw [IntKind.wrap_i32]; omega
      have hcv : ∀ w, (convert 21 9 (.int .i32 n)).run Tryz.prog w = .ok (.string z) w := fun w => by rw [← hz]; simp [go_sem]
      have HZ := Lib.hid Hz; clear Hz hz
      have HC := Lib.hid (fun w => specUnsafe_enc out z o [n.toNat] w ho HZ.out hg.sc (asc_sc1 (by omega)) (by omega) (by omega))
      clear ho
      go_enter Tryz.func44, Tryz.ntmps44
      go_wp2_with fail
      refine (HC.out _).mono ?_
      rintro e w2 ⟨y, rfl, hy, hb⟩
      go_wp2_with fail
      go_ret
      exact ⟨y, rfl, hy, ((Below.refl _ w).alloc (Nat.le_refl _) _).trans (hb.mono (by simp))⟩
    · have hn := hnn (by decide)
      clear hnn
      show Calls Tryz.prog 44 #[.string out, .agg #[.int .i64 8, .string s, .int .i64 n]] w (SprQ w (encs (o ++ [n.toNat])))
      obtain ⟨z, hz, hzs, Hz⟩ := str_rune (n := n) hn.1 hn.2
      have ew : IntKind.i32.wrap n = n := by rw [IntKind.wrap_i32]; omega
      have hcv : ∀ w, (convert 21 9 (.int .i32 n)).run Tryz.prog w = .ok (.string z) w := fun w => by rw [← hz]; simp [go_sem]
      have HZ := Lib.hid Hz; clear Hz hz
      obtain ⟨y, hadd, hysz, Hy⟩ := add_ex Tryz.prog out z (by omega)
      have HR : Hid (y.data.toList = encs (o ++ [n.toNat])) := by show _ = _; rw [Hy.out, ho, HZ.out, encs_append]
      clear ho Hy
      go_enter Tryz.func44, Tryz.ntmps44
      go_wp2_with fail
      go_ret
      exact ⟨y, rfl, HR.out, (Below.refl _ w).alloc (Nat.le_refl _) _⟩
    · have hn := hnn (by decide)
      clear hnn
      show Calls Tryz.prog 44 #[.string out, .agg #[.int .i64 9, .string s, .int .i64 n]] w (SprQ w (encs (unsafeN o [n.toNat])))
      obtain ⟨z, hz, hzs, Hz⟩ := str_rune (n := n) hn.1 hn.2
      have ew : IntKind.i32.wrap n = n := by rw [IntKind.wrap_i32]; omega
      have hcv : ∀ w, (convert 21 9 (.int .i32 n)).run Tryz.prog w = .ok (.string z) w := fun w => by rw [← hz]; simp [go_sem]
      have HZ := Lib.hid Hz; clear Hz hz
      have HC := Lib.hid (fun w => specUnsafe_enc out z o [n.toNat] w ho HZ.out hg.sc (asc_sc1 (by omega)) (by omega) (by omega))
      clear ho
      go_enter Tryz.func44, Tryz.ntmps44
      go_wp2_with fail
      refine (HC.out _).mono ?_
      rintro e w2 ⟨y, rfl, hy, hb⟩
      go_wp2_with fail
      go_ret
      exact ⟨y, rfl, hy, ((Below.refl _ w).alloc (Nat.le_refl _) _).trans (hb.mono (by simp))⟩
    · have hn := hnn (by decide)
      clear hnn
      show Calls Tryz.prog 44 #[.string out, .agg #[.int .i64 10, .string s, .int .i64 n]] w (SprQ w (encs (o ++ [n.toNat])))
      obtain ⟨z, hz, hzs, Hz⟩ := str_rune (n := n) hn.1 hn.2
      have ew : IntKind.i32.wrap n = n := by rw [IntKind.wrap_i32]; omega
      have hcv : ∀ w, (convert 21 9 (.int .i32 n)).run Tryz.prog w = .ok (.string z) w := fun w => by rw [← hz]; simp [go_sem]
      have HZ := Lib.hid Hz; clear Hz hz
      obtain ⟨y, hadd, hysz, Hy⟩ := add_ex Tryz.prog out z (by omega)
      have HR : Hid (y.data.toList = encs (o ++ [n.toNat])) := by show _ = _; rw [Hy.out, ho, HZ.out, encs_append]
      clear ho Hy
      go_enter Tryz.func44, Tryz.ntmps44
      go_wp2_with fail
      go_ret
      exact ⟨y, rfl, HR.out, (Below.refl _ w).alloc (Nat.le_refl _) _⟩
set_option maxHeartbeats 2000000 in
theorem specBuild_any (v : Value) (l : List AArg) (w : World) (hA : ArgsAt w v l) (hl : l.length ≤ 10) (hok : ∀ a ∈ l, a.OkB) :
    Calls Tryz.prog 38 #[v] w (SprQ w (encs (bldN [] l))) := by
  have hlen := fun ty => hA.len ty
  have HA := Lib.hid hA; clear hA
  have HO := Lib.hid hok; clear hok
  generalize hg : bldN [] l = g
  have HG := Lib.hid hg; clear hg
  go_enter Tryz.func38, Tryz.ntmps38
  go_wp2_with fail
  go_loopw [8, 3] (fun i ov wr => ∃ (k : Nat) (acc : ByteArray) (o : List Nat), i = .int .i64 k ∧ ov = .string acc ∧ k ≤ l.length ∧ Hid (acc.data.toList = encs o ∧ bldN o (l.drop k) = g ∧ GoodT o (410 * k)) ∧ Below w.heap.size w wr)
    (fun i _ _ => l.length - (intOf i).toNat)
  case atStart => exact ⟨0, ⟨#[]⟩, [], rfl, rfl, Nat.zero_le _, ⟨rfl, HG.out, GoodT.nil⟩, Below.refl _ _⟩
  case round =>
    obtain ⟨k, acc, o, rfl, rfl, hk, hst, hnx⟩ := hrel
    by_cases hlt : k < l.length
    · obtain ⟨qb, qo, hix, hld0⟩ := HA.out.at_ k hlt
      obtain ⟨c0, c1, c2⟩ := hld0 wr (HA.out.below hnx)
      clear hld0
      have HX := Lib.hid (HO.out _ (List.getElem_mem hlt))
      have HST := Lib.hid (bld_step hlt hst.out.2.1)
      obtain ⟨kd, tx, nn, hx⟩ : ∃ kd tx nn, l[k]'hlt = ⟨kd, tx, nn⟩ := ⟨_, _, _, rfl⟩
      rw [hx] at c0 c1 c2 HX HST
      dsimp only at c0 c1 c2
      clear hx
      have hwz := hnx.size
      have HB1 := Lib.hid (hnx.alloc (o := .cells #[.int .i64 kd, .string tx, .int .i64 nn] 47) hwz)
      have HC := Lib.hid (fun w => specPutB_any acc o ⟨kd, tx, nn⟩ w hst.out.1 (hst.out.2.2.mono (by omega)) HX.out)
      go_wp2_with fail
      refine (HC.out _).mono ?_
      rintro e w4 ⟨y, rfl, hy, hb4⟩
      have HN := Lib.hid (HB1.out.trans (hb4.mono HB1.out.size)); clear hb4
      go_wp2_with fail
      go_roundw
      case rel => exact ⟨k + 1, y, _, by go_num, rfl, by omega, ⟨hy.out, HST.out, (hst.out.2.2.putB HX.out).mono (by omega)⟩, HN.out⟩
      case measure => simp [intOf]; omega
    · have hfin : acc.data.toList = encs g := by
        have h := hst.out.2.1
        rw [List.drop_of_length_le (show l.length ≤ k by omega)] at h
        rw [hst.out.1]; congr 1
      have HF := Lib.hid hfin; clear hfin
      go_wp2_with fail
      go_ret
      exact ⟨acc, rfl, HF.out, hnx⟩
end Go.Proofs.YtlmcglaajmjanaaGreatDoor
