/- Walks of package redactmarkers: the markers as bytes, index, redactBytes, Redact. -/
import Derived.Test.YtlmcglaajmjanaaGreatDoorMem
import Derived.Deep.QuietTactic
import Derived.BigQuiet
import Derived.Deep.Draws
import Derived.Deep.RegionWith
import Derived.Deep.RegionHeld3
namespace Go.Proofs.YtlmcglaajmjanaaGreatDoor
open Go.RowKit
/-- What a function that lays one constant row of bytes gives. -/
def LitQ (l : List UInt8) (w : World) (e : Ending) (w' : World) : Prop := ∃ v, e = .returned v ∧ Hid (BAt w' v l) ∧ Below w.heap.size w w' ∧ w.heap.size < w'.heap.size
theorem LitQ.mk (w : World) (l : List UInt8) (cs : Array Value) (fr : Nat × Nat) (h : l.length ≤ 1000) (hcs : cs.toList = l.map fun x => Value.int .u8 (x.toNat : Int)) :
    LitQ l w (.returned (.slice (some ⟨w.heap.size, 0, none⟩) l.length l.length)) (w.alloc (.cells cs 5 fr)) :=
  ⟨_, rfl, BAt.lit _ l fr (by omega) _ cs 5 (heap_alloc_new w _) hcs, (Below.refl _ _).alloc (Nat.le_refl _) _, by simp⟩
theorem startBytes (w : World) : Calls Tryz.prog 69 #[] w (LitQ mkS w) := by
  have kc := fun (w : World) (C : Array Value) (n c : Nat) => Lib.run_convert_bytes_const (P := Tryz.prog) w 31 5 C n c Tryz.underlying31 Tryz.underlying5
  go_enter Tryz.func69, Tryz.ntmps69
  go_wp2
  go_ret
  exact LitQ.mk w mkS _ _ (by decide) rfl
theorem endBytes (w : World) : Calls Tryz.prog 97 #[] w (LitQ mkE w) := by
  have kc := fun (w : World) (C : Array Value) (n c : Nat) => Lib.run_convert_bytes_const (P := Tryz.prog) w 31 5 C n c Tryz.underlying31 Tryz.underlying5
  go_enter Tryz.func97, Tryz.ntmps97
  go_wp2
  go_ret
  exact LitQ.mk w mkE _ _ (by decide) rfl
theorem redactedBytes (w : World) : Calls Tryz.prog 98 #[] w (LitQ mkX w) := by
  have kc := fun (w : World) (C : Array Value) (n c : Nat) => Lib.run_convert_bytes_const (P := Tryz.prog) w 31 5 C n c Tryz.underlying31 Tryz.underlying5
  go_enter Tryz.func98, Tryz.ntmps98
  go_wp2
  go_ret
  exact LitQ.mk w mkX _ _ (by decide) rfl

/-- Where p lies in l, first. -/
def idxL (p : List UInt8) : List UInt8 → Option Nat
  | [] => if p = [] then some 0 else none
  | x :: l => if (x :: l).take p.length = p then some 0 else (idxL p l).map (· + 1)
def idxI (p l : List UInt8) : Int := match idxL p l with | some i => i | none => -1
theorem idxL_short (p : List UInt8) : ∀ l : List UInt8, l.length < p.length → idxL p l = none := by
  intro l
  induction l with
  | nil => intro h; simp only [idxL]; rw [if_neg (by intro hn; rw [hn] at h; simp at h)]
  | cons x l ih =>
    intro h
    simp only [idxL]
    rw [if_neg (by intro hn; have := congrArg List.length hn; simp at this; simp at h; omega), ih (by simp at h; omega)]; rfl
theorem idxL_hit (p l : List UInt8) (h : l.take p.length = p) : idxL p l = some 0 := by
  cases l with
  | nil => simp only [idxL]; rw [if_pos (by simpa using h.symm)]
  | cons x l => simp only [idxL]; rw [if_pos h]
theorem idxL_miss (p l : List UInt8) (x : UInt8) (h : ¬ (x :: l).take p.length = p) : idxL p (x :: l) = (idxL p l).map (· + 1) := by
  simp only [idxL]; rw [if_neg h]
theorem idxL_le (p : List UInt8) : ∀ (l : List UInt8) (i : Nat), idxL p l = some i → i + p.length ≤ l.length ∧ (l.drop i).take p.length = p := by
  intro l
  induction l with
  | nil => intro i h; simp only [idxL] at h; split at h <;> simp at h; rename_i hp; subst hp; subst h; simp
  | cons x l ih =>
    intro i h
    simp only [idxL] at h
    split at h
    · rename_i hp
      simp at h; subst h
      refine ⟨?_, by simpa using hp⟩
      have := congrArg List.length hp
      simp at this ⊢; omega
    · cases hi : idxL p l with
      | none => rw [hi] at h; simp at h
      | some k =>
        rw [hi] at h; simp at h; subst h
        have := ih k hi
        simp; exact ⟨by omega, this.2⟩
/-- What is left to look at from k on. -/
def IdxAt (p l : List UInt8) (k : Nat) : Prop := (idxL p (l.drop k)).map (· + k) = idxL p l
theorem IdxAt.start (p l : List UInt8) : IdxAt p l 0 := by unfold IdxAt; cases h : idxL p l <;> simp [h]
theorem IdxAt.next {p l : List UInt8} {k : Nat} (h : IdxAt p l k) (hk : k < l.length) (hm : ¬ (l.drop k).take p.length = p) : IdxAt p l (k + 1) := by
  unfold IdxAt at *
  rw [← h]
  rw [List.drop_eq_getElem_cons hk] at hm ⊢
  rw [idxL_miss p _ _ hm]
  cases idxL p (l.drop (k + 1)) <;> simp; omega
theorem IdxAt.hit {p l : List UInt8} {k : Nat} (h : IdxAt p l k) (hm : (l.drop k).take p.length = p) : idxI p l = k := by
  unfold IdxAt at h
  rw [idxL_hit p _ hm] at h
  unfold idxI; rw [← h]; simp
theorem IdxAt.stop {p l : List UInt8} {k : Nat} (h : IdxAt p l k) (hk : l.length < k + p.length) (hp : p ≠ []) : idxI p l = -1 := by
  unfold IdxAt at h
  have hpl : 0 < p.length := List.length_pos_iff.2 hp
  rw [idxL_short p _ (by simp; omega)] at h
  unfold idxI; rw [← h]; rfl

set_option maxHeartbeats 1000000 in
set_option maxRecDepth 100000 in
theorem index_any (s sep : Value) (l p : List UInt8) (w : World) (hs : BAt w s l) (hsep : BAt w sep p) (hl : l.length ≤ 100000) (hp : p.length ≤ 100) (hp0 : 0 < p.length) :
    Calls Tryz.prog 68 #[s, sep] w fun e w' => e = .returned (.int .i64 (idxI p l)) ∧ ∃ n, w' = w.drewN n := by
  have hlen := hs.len 3
  have hlen2 := hsep.len 3
  have hst := fun n => (hsep.drewN n).str 9 Tryz.underlying9
  have HS := Lib.hid hs; clear hs
  have HP := Lib.hid hsep; clear hsep
  go_enter Tryz.func68, Tryz.ntmps68
  go_wp2
  go_loopw [5] (fun iv wr => ∃ (k n : Nat), iv = .int .i64 k ∧ k ≤ l.length ∧ Hid (IdxAt p l k) ∧ wr = w.drewN n) (fun iv _ => l.length - (intOf iv).toNat)
  case atStart => exact ⟨0, 0, rfl, by omega, IdxAt.start p l, rfl⟩
  case round =>
    obtain ⟨k, n, rfl, hk, hI, rfl⟩ := hrel
    by_cases hlt : k + p.length ≤ l.length
    · obtain ⟨v2, hsub, hv2⟩ := HS.out.sub k (k + p.length) (by omega) (by omega) (by omega)
      have hst2 := fun m => ((hv2 _ HS.out).drewN m).str 9 Tryz.underlying9
      clear hv2
      have hcut : List.drop k (List.take (k + p.length) l) = (l.drop k).take p.length := by rw [List.drop_take]; congr 1; omega
      by_cases hm : (l.drop k).take p.length = p
      · have hb : (List.drop k (List.take (k + p.length) l) == p) = true := by rw [hcut, hm]; simp
        have hfin := hI.out.hit hm
        have Hfin := Lib.hid hfin; clear hfin hcut hm
        go_wp2
        go_quiet (fail)
        go_wp2
        go_ret
        exact ⟨ret_int Hfin.out.symm, n + nq, by rw [World.drewN_drewN]⟩
      · have hb : (List.drop k (List.take (k + p.length) l) == p) = false := by rw [hcut]; simpa using hm
        have hn2 := hI.out.next (by omega) hm
        have Hn2 := Lib.hid hn2; clear hn2 hcut hm
        go_wp2
        go_quiet (fail)
        go_wp2
        go_roundw
        case rel => exact ⟨k + 1, n + nq, by go_num, by omega, Hn2.out, rfl⟩
        case measure => simp [intOf]; omega
    · have hfin := hI.out.stop (by omega) (by intro hn; rw [hn] at hp0; simp at hp0)
      have Hfin := Lib.hid hfin; clear hfin
      go_wp2
      go_ret
      exact ⟨ret_int Hfin.out.symm, n, rfl⟩
/-- What a marked text is redacted to. -/
def redF : Nat → List UInt8 → List UInt8
  | 0, l => l
  | f + 1, l => match idxL mkS l with
    | none => l
    | some i => match idxL mkE (l.drop (i + 3)) with
      | none => l
      | some j => l.take i ++ mkX ++ redF f (l.drop (i + 3 + j + 3))
def redL (l : List UInt8) : List UInt8 := redF l.length l
theorem redF_more : ∀ (f g : Nat) (l : List UInt8), l.length ≤ f → l.length ≤ g → redF f l = redF g l := by
  intro f
  induction f with
  | zero =>
    intro g l h _
    have hl : l = [] := List.eq_nil_of_length_eq_zero (by omega)
    subst hl
    cases g <;> rfl
  | succ f ih =>
    intro g l h h'
    cases g with
    | zero =>
      have hl : l = [] := List.eq_nil_of_length_eq_zero (by omega)
      subst hl; rfl
    | succ g =>
      simp only [redF]
      cases hi : idxL mkS l with
      | none => rfl
      | some i =>
        simp only
        cases hj : idxL mkE (l.drop (i + 3)) with
        | none => rfl
        | some j =>
          simp only
          rw [ih g _ (by simp; omega) (by simp; omega)]
theorem redL_none {l : List UInt8} (h : idxL mkS l = none) : redL l = l := by
  unfold redL
  cases hl : l.length with
  | zero => rfl
  | succ n => simp only [redF]; rw [h]
theorem redL_open {l : List UInt8} {i : Nat} (h : idxL mkS l = some i) (hj : idxL mkE (l.drop (i + 3)) = none) : redL l = l := by
  unfold redL
  cases hl : l.length with
  | zero => rfl
  | succ n => simp only [redF]; rw [h]; simp only; rw [hj]
theorem redL_shut {l : List UInt8} {i j : Nat} (h : idxL mkS l = some i) (hj : idxL mkE (l.drop (i + 3)) = some j) : redL l = l.take i ++ mkX ++ redL (l.drop (i + 3 + j + 3)) := by
  have hle := (idxL_le mkS l i h).1
  have h3 : mkS.length = 3 := rfl
  have : redL l = redF (l.length - 1 + 1) l := by unfold redL; congr 1; omega
  rw [this]
  simp only [redF]
  rw [h]; simp only; rw [hj]; simp only
  rw [redF_more (l.length - 1) (l.drop (i + 3 + j + 3)).length _ (by simp; omega) (Nat.le_refl _)]; rfl
theorem idxI_none {p l : List UInt8} (h : idxL p l = none) : idxI p l = -1 := by unfold idxI; rw [h]
theorem idxI_some {p l : List UInt8} {i : Nat} (h : idxL p l = some i) : idxI p l = i := by unfold idxI; rw [h]

def BytesQ (l : List UInt8) (w : World) (e : Ending) (w' : World) : Prop := ∃ v, e = .returned v ∧ Hid (BAt w' v l) ∧ Below w.heap.size w w'
theorem below_drewN' {B : Nat} {a w : World} (h : Below B a w) (n : Nat) : Below B a (w.drewN n) := ⟨h.os, h.tape, h.output, h.size, h.block⟩

set_option maxHeartbeats 2000000 in
theorem redactBytes_none (s : Value) (l : List UInt8) (w : World) (hs : BAt w s l) (hl : l.length ≤ 2000) (hi : idxL mkS l = none) : Calls Tryz.prog 70 #[s] w (BytesQ (redL l) w) := by
  have hii := idxI_none hi
  have HR := Lib.hid (redL_none hi)
  have HS := Lib.hid hs; clear hs
  go_enter Tryz.func70, Tryz.ntmps70
  go_wp2_with fail
  refine (startBytes _).mono ?_
  rintro e w1 ⟨v1, rfl, hv1, hb1, _⟩
  go_wp2_with fail
  refine (index_any _ _ l mkS w1 (HS.out.below hb1) hv1.out (by omega) (by decide) (by decide)).mono ?_
  rintro e w2 ⟨rfl, n, rfl⟩
  go_wp2
  go_ret
  exact ⟨s, rfl, by show BAt _ _ _; rw [HR.out]; exact (HS.out.below hb1).drewN n, below_drewN' hb1 n⟩

set_option maxHeartbeats 4000000 in
set_option maxRecDepth 100000 in
theorem redactBytes_some (s : Value) (l : List UInt8) (w : World) (hs : BAt w s l) (hl : l.length ≤ 2000) (i0 : Nat) (hi : idxL mkS l = some i0) : Calls Tryz.prog 70 #[s] w (BytesQ (redL l) w) := by
  have hii := idxI_some hi
  have hd0 : ((i0 : Int) == -1) = false := beq_eq_false_iff_ne.2 (by omega)
  have hlen := hs.len 3
  have HS := Lib.hid hs; clear hs
  have HI := Lib.hid hi; clear hi
  go_enter Tryz.func70, Tryz.ntmps70
  go_wp2_with fail
  refine (startBytes _).mono ?_
  rintro e w1 ⟨v1, rfl, hv1, hb1, _⟩
  go_wp2_with fail
  refine (index_any _ _ l mkS w1 (HS.out.below hb1) hv1.out (by omega) (by decide) (by decide)).mono ?_
  rintro e w2 ⟨rfl, n, rfl⟩
  have hb2 := below_drewN' hb1 n
  generalize w1.drewN n = w2 at hb2
  clear hb1 hv1
  obtain ⟨w3, hmk, hown3, hb3⟩ := Own.make w2 l.length (by omega)
  have HO3 := Lib.hid hown3; clear hown3
  have hBz : w.heap.size ≤ w2.heap.size := hb2.size
  have hb30 : Below w.heap.size w w3 := hb2.trans (hb3.mono hBz)
  have hz3 := hb3.size
  generalize hBB : w2.heap.size = B at *
  have HB := Lib.hid hBB; clear hBB
  go_wp2
  go_loopw [3, 4, 5] (fun iv bv pv wr => ∃ (pos : Nat) (acc : List UInt8) (ix : Int), iv = .int .i64 ix ∧ pv = .int .i64 pos ∧ pos ≤ l.length ∧ acc.length ≤ 2 * pos ∧ Hid (ix = idxI mkS (l.drop pos) ∧ acc ++ redL (l.drop pos) = redL l ∧ Own wr B bv acc) ∧ Below w.heap.size w wr ∧ B ≤ wr.heap.size)
    (fun _ _ pv _ => l.length - (intOf pv).toNat)
  case atStart => exact ⟨0, [], i0, rfl, rfl, by omega, by simp, ⟨(idxI_some HI.out).symm, by simp, HO3.out⟩, hb30, hz3⟩
  case round =>
    obtain ⟨pos, acc, ix, rfl, rfl, hpos, hacc, hR, hnx, hwz⟩ := hrel
    clear HO3 hb30 hz3 hmk HI hii
    cases hx : idxL mkS (l.drop pos) with
    | none =>
      obtain rfl : ix = -1 := hR.out.1.trans (idxI_none hx)
      obtain ⟨v5, hfr, hv5⟩ := HS.out.from_ pos (by omega) (by omega)
      obtain ⟨bv6, w6, hap, hown6, hg6⟩ := hR.out.2.2.append (hv5 _ (HS.out.below hnx)) (by simp; omega) hwz 31
      have hfin : acc ++ (l.drop pos) = redL l := by rw [← hR.out.2.1, redL_none hx]
      have hb6 : Below w.heap.size w w6 := hnx.grown hg6 hnx.size (fun k hk => Nat.le_trans hBz (hR.out.2.2.blk k hk))
      have HF := Lib.hid (And.intro hfin hown6); clear hfin hown6 hx hv5 hg6
      go_wp2_with (at_builtin; refine wpList_append_known _ rfl _ _ rfl _ _ rfl rfl hap ?_)
      go_ret
      exact ⟨bv6, rfl, by show BAt _ _ _; rw [← HF.out.1]; simpa using HF.out.2.bat, hb6⟩
    | some i =>
      obtain rfl : ix = i := hR.out.1.trans (idxI_some hx)
      have hle := (idxL_le mkS _ i hx).1
      have hle' : pos + i + 3 ≤ l.length := by have : mkS.length = 3 := rfl; simp at hle; omega
      clear hle
      obtain ⟨v5, hfr, hv5⟩ := HS.out.sub pos (pos + i) (by omega) (by omega) (by omega)
      obtain ⟨bv6, w6, hap, hown6, hg6⟩ := hR.out.2.2.append (hv5 _ (HS.out.below hnx)) (by simp; omega) hwz 31
      have hb6 : Below w.heap.size w w6 := hnx.grown hg6 hnx.size (fun k hk => Nat.le_trans hBz (hR.out.2.2.blk k hk))
      have hz6 : B ≤ w6.heap.size := Nat.le_trans hwz hg6.size
      have HX := Lib.hid (And.intro hx hown6); clear hx hown6 hv5 hg6
      obtain ⟨v7, hfr7, hv7⟩ := HS.out.from_ (pos + i + 3) (by omega) (by omega)
      cases hy : idxL mkE (l.drop (pos + i + 3)) with
      | none =>
        have hji := idxI_none hy
        have Hfin := Lib.hid (show acc ++ l.drop pos = redL l by rw [← hR.out.2.1, redL_open HX.out.1 (by rw [List.drop_drop]; exact hy)])
        obtain ⟨v10, hfr10, hv10⟩ := HS.out.from_ (pos + i) (by omega) (by omega)
        go_wp2_with (at_builtin; refine wpList_append_known _ rfl _ _ rfl _ _ rfl rfl hap ?_)
        go_region_with (first | (go_at_call 97; refine (endBytes _).mono ?_; rintro e w8 ⟨v8, rfl, hv8, hb8, hz8⟩) | (go_at_call 68; refine (index_any _ _ (l.drop (pos + i + 3)) mkE _ (by exact hv7 _ (HS.out.below (Below.trans' hb6.drew (Nat.le_refl _) hb8))) (by exact hv8.out) (by simp; omega) (by decide) (by decide)).mono ?_; rintro e w9 ⟨rfl, n9, rfl⟩))
        clear hfr hap hfr7
        have hb9 : Below w.heap.size w (w8.drewN n9) := below_drewN' (Below.trans' hb6.drew (Nat.le_refl _) hb8) n9
        obtain ⟨bv11, w11, hap11, hown11, hg11⟩ := ((HX.out.2.below (Below.refl _ _).drew).below hb8 |>.drewN n9).append (hv10 _ (HS.out.below hb9)) (by simp; omega) (by have := hb8.size; have := HB.out; simp at *; omega) 31
        have hb11 : Below w.heap.size w w11 := hb9.grown hg11 hb9.size (fun k hk => Nat.le_trans hBz (HX.out.2.blk k hk))
        have HF := Lib.hid hown11; clear hown11 hg11
        go_wp2_with (at_builtin; refine wpList_append_known _ rfl _ _ rfl _ _ rfl rfl hap11 ?_)
        go_ret
        refine ⟨bv11, rfl, ?_, hb11⟩
        show BAt _ _ _
        have hcat : acc ++ List.drop pos (List.take (pos + i) l) ++ List.drop (pos + i) l = redL l := by
          rw [← Hfin.out, List.append_assoc]
          congr 1
          rw [List.drop_take, show pos + i - pos = i by omega, show List.drop (pos + i) l = List.drop i (List.drop pos l) by rw [List.drop_drop], List.take_append_drop]
        rw [← hcat]
        have e1 : ((pos : Int) + (i : Int)).toNat = pos + i := by omega
        simpa [e1] using HF.out.bat
      | some j =>
        have hji := idxI_some hy
        have hle2 := (idxL_le mkE _ j hy).1
        have hle2' : pos + i + 3 + j + 3 ≤ l.length := by have : mkE.length = 3 := rfl; simp at hle2; omega
        clear hle2
        have Hfin := Lib.hid (show acc ++ ((l.drop pos).take i ++ mkX ++ redL (l.drop (pos + i + 3 + j + 3))) = redL l by
          rw [← hR.out.2.1, redL_shut HX.out.1 (j := j) (by rw [List.drop_drop]; exact hy), List.drop_drop, show pos + (i + 3 + j + 3) = pos + i + 3 + j + 3 by omega])
        go_wp2_with (at_builtin; refine wpList_append_known _ rfl _ _ rfl _ _ rfl rfl hap ?_)
        go_region_with (first | (go_at_call 97; refine (endBytes _).mono ?_; rintro e w8 ⟨v8, rfl, hv8, hb8, hz8⟩) | (go_at_call 68; refine (index_any _ _ (l.drop (pos + i + 3)) mkE _ (by exact hv7 _ (HS.out.below (Below.trans' hb6.drew (Nat.le_refl _) hb8))) (by exact hv8.out) (by simp; omega) (by decide) (by decide)).mono ?_; rintro e w9 ⟨rfl, n9, rfl⟩))
        clear hfr hap hfr7
        have hb9 : Below w.heap.size w (w8.drewN n9) := below_drewN' (Below.trans' hb6.drew (Nat.le_refl _) hb8) n9
        have hown9 := ((HX.out.2.below (Below.refl _ _).drew).below hb8).drewN n9
        have hz9 : B ≤ (w8.drewN n9).heap.size := by have := hb8.size; simp at this; show B ≤ w8.heap.size; omega
        have HO9 := Lib.hid hown9; clear hown9
        clear hb8 hv8
        generalize w8.drewN n9 = w9 at *
        go_wp2_with fail
        refine (redactedBytes _).mono ?_
        rintro e w10 ⟨v10, rfl, hv10, hb10, _⟩
        have hb10' : Below w.heap.size w w10 := Below.trans' hb9 (Nat.le_refl _) hb10
        have hz10 : B ≤ w10.heap.size := Nat.le_trans hz9 hb10.size
        obtain ⟨bv11, w11, hap11, hown11, hg11⟩ := (HO9.out.below hb10).append hv10.out (by have : mkX.length = 8 := rfl; simp; omega) hz10 31
        have hb11 : Below w.heap.size w w11 := hb10'.grown hg11 hb10'.size (fun k hk => Nat.le_trans hBz (HO9.out.blk k hk))
        have hz11 : B ≤ w11.heap.size := Nat.le_trans hz10 hg11.size
        have HF := Lib.hid hown11; clear hown11 hg11
        obtain ⟨v12, hfr12, hv12⟩ := HS.out.from_ (pos + i + 3 + j + 3) (by omega) (by omega)
        go_wp2_with (at_builtin; refine wpList_append_known _ rfl _ _ rfl _ _ rfl rfl hap11 ?_)
        go_region_with (first | (go_at_call 69; refine (startBytes _).mono ?_; rintro e w13 ⟨v13, rfl, hv13, hb13, hz13⟩) | (go_at_call 68; refine (index_any _ _ (l.drop (pos + i + 3 + j + 3)) mkS _ (by exact hv12 _ (HS.out.below (Below.trans' hb11.drew (Nat.le_refl _) hb13))) (by exact hv13.out) (by simp; omega) (by decide) (by decide)).mono ?_; rintro e w14 ⟨rfl, n14, rfl⟩))
        have hb14 : Below w.heap.size w (w13.drewN n14) := below_drewN' (Below.trans' hb11.drew (Nat.le_refl _) hb13) n14
        have hown14 := ((HF.out.below (Below.refl _ _).drew).below hb13).drewN n14
        have hz14 : B ≤ (w13.drewN n14).heap.size := by have := hb13.size; simp at this; show B ≤ w13.heap.size; omega
        have HO14 := Lib.hid hown14; clear hown14
        simp only [Act.put, List.getElem_toArray, List.getElem_cons_succ, List.getElem_cons_zero, List.setIfInBounds_toArray, List.set_cons_succ, List.set_cons_zero]
        go_wp2
        go_roundw
        case rel =>
          refine ⟨pos + i + 3 + j + 3, acc ++ List.drop pos (List.take (pos + i) l) ++ mkX, _, rfl, by go_num, by omega, by have : mkX.length = 8 := rfl; simp; omega, ⟨rfl, ?_, ?_⟩, hb14, hz14⟩
          · rw [← Hfin.out, List.drop_take, show pos + i - pos = i by omega]; simp
          · have e1 : ((pos : Int) + (i : Int)).toNat = pos + i := by omega
            simpa [e1] using HO14.out
        case measure => simp [intOf]; omega
end Go.Proofs.YtlmcglaajmjanaaGreatDoor
