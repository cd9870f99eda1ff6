/- Walks: what doPrintf calls: clearflags, writeString of a safe text; what a format is made of. -/
/- Walk of doPrintf at a format of safe texts with a verb between each two of them. -/
import Derived.Test.YtlmcglaajmjanaaGreatDoorZi
import Derived.Deep.DeepCutAuto
namespace Go.Proofs.YtlmcglaajmjanaaGreatDoor
open Go.RowKit
section
variable {K : Nat → Prop} {w : World} {p : Nat} {l : List UInt8} {vu : Nat} {m : Int} {mo : Bool} {ov : Int} {o : List Nat}
/-- A store into one of the flags. -/
theorem PP.setB (h : PP K w p l vu m mo ov) (i : Nat) (b : Bool) (hi : (7 ≤ i ∧ i < 16 ∧ b = false) ∨ (86 ≤ i ∧ i < 89)) : PP K (w.setCell ⟨p, i, none⟩ (.bool b)) p l vu m mo ov := by
  have hpK := h.hp
  obtain ⟨R, hR, ⟨a, c, h⟩, hE⟩ := h
  have hold : ∃ b0, R i = some (.bool b0) := by
    rcases hi with ⟨h1, h2, _⟩ | ⟨h1, h2⟩
    · exact ⟨_, hR.fl i h1 h2⟩
    · exact hR.er i h1 h2
  obtain ⟨b0, hold⟩ := hold
  refine ⟨_, ?_, ⟨a, c, h.setR i (by omega) _ (.bool b) hold⟩, hE.kp ((Kp.refl K w).setCell hpK _ _)⟩
  exact ⟨by rw [if_neg (by omega)]; exact hR.ov, by obtain ⟨v, hv⟩ := hR.arg; exact ⟨v, by rw [if_neg (by omega)]; exact hv⟩, by rw [if_neg (by omega)]; exact hR.fb,
    fun k h1 h2 => by
      by_cases hk : k = i
      · rw [if_pos hk]
        rcases hi with ⟨_, _, rfl⟩ | ⟨h3, h4⟩
        · rfl
        · omega
      · rw [if_neg hk]; exact hR.fl k h1 h2,
    by rw [if_neg (by omega)]; exact hR.wd, by rw [if_neg (by omega)]; exact hR.pr, fun k h1 h2 => by rw [if_neg (by omega)]; exact hR.ib k h1 h2,
    fun k h1 h2 => by
      by_cases hk : k = i
      · rw [if_pos hk]; exact ⟨b, rfl⟩
      · rw [if_neg hk]; exact hR.er k h1 h2⟩
theorem Ps.setB (h : Ps K w p o ov) (i : Nat) (b : Bool) (hi : (7 ≤ i ∧ i < 16 ∧ b = false) ∨ (86 ≤ i ∧ i < 89)) : Ps K (w.setCell ⟨p, i, none⟩ (.bool b)) p o ov := by
  obtain ⟨a, t, ho, hn, h⟩ := h
  exact ⟨a, t, ho, hn, h.setB i b hi⟩
theorem Ps.fl (h : Ps K w p o ov) (i : Nat) (h1 : 7 ≤ i) (h2 : i < 16) : w.cell? ⟨p, i, none⟩ = some (.bool false) := by obtain ⟨a, t, ho, hn, h⟩ := h; exact h.fl i h1 h2
theorem Ps.fz (h : Ps K w p o ov) (i : Nat) : w.frozen? ⟨p, i, none⟩ = false := by obtain ⟨a, t, ho, hn, h⟩ := h; exact h.fz i
theorem Ps.er (h : Ps K w p o ov) (i : Nat) (h1 : 86 ≤ i) (h2 : i < 89) : ∃ b, w.cell? ⟨p, i, none⟩ = some (.bool b) := by
  obtain ⟨a, t, ho, hn, R, hR, h, hE⟩ := h
  obtain ⟨b, hb⟩ := hR.er i h1 h2
  exact ⟨b, (h.cR i (by omega)).trans hb⟩
theorem Ps.hp (h : Ps K w p o ov) : ¬ K p := by obtain ⟨a, t, ho, hn, h⟩ := h; exact h.hp
theorem Ps.hK (h : Ps K w p o ov) : ∀ k, K k → k < w.heap.size := by obtain ⟨a, t, ho, hn, h⟩ := h; exact h.hK
theorem Ps.below {w' : World} (h : Ps K w p o ov) (hb : Below w.heap.size w w') : Ps K w' p o ov := by obtain ⟨a, t, ho, hn, h⟩ := h; exact ⟨a, t, ho, hn, h.below hb⟩
set_option maxHeartbeats 1000000 in
set_option maxRecDepth 100000 in
theorem clearflags_ps (h : Ps K w p o 0) : Calls Tryz.prog 114 #[.pointer (some ⟨p, 6, none⟩)] w (PsQ K p w o 0) := by
  have c7 := h.fl 7 (by decide) (by decide)
  have f7 := h.fz 7
  have c8 := h.fl 8 (by decide) (by decide)
  have f8 := h.fz 8
  have c9 := h.fl 9 (by decide) (by decide)
  have f9 := h.fz 9
  have c10 := h.fl 10 (by decide) (by decide)
  have f10 := h.fz 10
  have c11 := h.fl 11 (by decide) (by decide)
  have f11 := h.fz 11
  have c12 := h.fl 12 (by decide) (by decide)
  have f12 := h.fz 12
  have c13 := h.fl 13 (by decide) (by decide)
  have f13 := h.fz 13
  have c14 := h.fl 14 (by decide) (by decide)
  have f14 := h.fz 14
  have c15 := h.fl 15 (by decide) (by decide)
  have f15 := h.fz 15
  have H := Lib.hid h; clear h
  go_enter Tryz.func114, Tryz.ntmps114
  go_wp2
  go_end0
  have s : ∀ {w : World} (i : Nat), 7 ≤ i → i < 16 → Ps K w p o 0 → Ps K (w.setCell ⟨p, i, none⟩ (.bool false)) p o 0 := fun i h1 h2 h => h.setB i false (.inl ⟨h1, h2, rfl⟩)
  have k : ∀ {a b : World} (i : Nat), Kp K a b → Kp K a (b.setCell ⟨p, i, none⟩ (.bool false)) := fun i h => h.setCell H.out.hp _ _
  exact ⟨rfl, s 15 (by decide) (by decide) (s 14 (by decide) (by decide) (s 13 (by decide) (by decide) (s 12 (by decide) (by decide) (s 11 (by decide) (by decide) (s 10 (by decide) (by decide) (s 9 (by decide) (by decide) (s 8 (by decide) (by decide) (s 7 (by decide) (by decide) H.out)))))))),
    k 15 (k 14 (k 13 (k 12 (k 11 (k 10 (k 9 (k 8 (k 7 (Kp.refl K w)))))))))⟩
theorem writeS_ps (s : ByteArray) (rs : List Nat) (he : s.data.toList = encs rs) (hr : NoM rs) (hl : s.size ≤ 1000) (h : Ps K w p o 0) (hg : GoodT o 40000) : Calls Tryz.prog 113 #[.pointer (some ⟨p, 0, none⟩), .string s] w (PsQ K p w (o ++ rs) 0) := by
  obtain ⟨a, t, rfl, hn, R, hR, h, hE⟩ := h
  have hle := hg.le
  rw [List.append_assoc]
  have := fbWriteString s h (by omega) (by omega) (fun h _ => by cases h)
  refine this.mono fun e w' hq => PsQ.of a (t ++ rs) ?_ rfl (hn.append hr) (PPQ.of_buf hR hE hq)
  rw [swl_1, he, ← List.append_assoc a t, encs_append (a ++ t)]
end
/-- A format: texts, and a verb between each two of them. -/
def fmtB : List (List UInt8) → List UInt8 → List UInt8
  | [], _ => []
  | x :: _, [] => x
  | x :: ps, v :: vs => x ++ 37 :: v :: fmtB ps vs
/-- How many bytes ahead of the first per cent sign. -/
theorem pct_at {x rest f : List UInt8} {i k : Nat} (hf : f.drop i = x ++ rest) (hk : k < x.length) : f.getD (i + k) 0 = x.getD k 0 := by
  have : (f.drop i)[k]? = (x ++ rest)[k]? := by rw [hf]
  rw [List.getElem?_drop, List.getElem?_append_left hk] at this
  simp [List.getD, this]
end Go.Proofs.YtlmcglaajmjanaaGreatDoor

namespace Go.Proofs.YtlmcglaajmjanaaGreatDoor
open Go.RowKit
/-- An argument, its verb, what it does to the text. -/
structure PIt where
  xv : Value
  verb : UInt8
  f : List Nat → List Nat
def PIt.Ok (K : Nat → Prop) (p : Nat) (it : PIt) : Prop := (it.verb = 118 ∨ it.verb = 115 ∨ it.verb = 100) ∧
  (∀ o w, Ps K w p o 0 → GoodT o 40000 → Calls Tryz.prog 104 #[.pointer (some ⟨p, 0, none⟩), it.xv, .int .i32 (it.verb.toNat : Int)] w (PsQ K p w (it.f o) 0)) ∧ ∀ o n, GoodT o n → GoodT (it.f o) (n + 410)
def fmtN : List Nat → List (List Nat) → List (List Nat → List Nat) → List Nat
  | o, [], _ => o
  | o, x :: _, [] => o ++ x
  | o, x :: ps, f :: fs => fmtN (f (o ++ x)) ps fs
/-- A text that stands in a format. -/
structure Pce (x : List Nat) : Prop where
  sc : Scs x
  nm : NoM x
  np : (37 : UInt8) ∉ encs x
  le : (encs x).length ≤ 100
def FmAt (fs : List UInt8) (pcs : List (List Nat)) (its : List PIt) (g : List Nat) (k i : Nat) (o : List Nat) : Prop :=
  fs.drop i = fmtB ((pcs.drop k).map encs) ((its.drop k).map PIt.verb) ∧ fmtN o (pcs.drop k) ((its.drop k).map PIt.f) = g ∧ GoodT o (510 * k)
theorem GoodT.piece {o x : List Nat} {n : Nat} (h : GoodT o n) (hx : Pce x) : GoodT (o ++ x) (n + 100) :=
  ⟨h.sc.append hx.sc, h.mkd.append (Mk.safe hx.nm), by have := h.le; have := hx.le; rw [encs_append, List.length_append]; omega⟩
theorem fm_last {fs : List UInt8} {pcs : List (List Nat)} {its : List PIt} {g : List Nat} {k i : Nat} {o : List Nat} (h : FmAt fs pcs its g k i o) (hlen : pcs.length = its.length + 1) (hk : k = its.length) : ∃ x, x ∈ pcs ∧ fs.drop i = encs x ∧ o ++ x = g := by
  obtain ⟨h1, h2, h3⟩ := h
  have hkp : k < pcs.length := by omega
  rw [List.drop_eq_getElem_cons hkp, List.drop_of_length_le (show its.length ≤ k by omega)] at h1 h2
  exact ⟨_, List.getElem_mem hkp, h1, h2⟩
theorem fm_more {fs : List UInt8} {pcs : List (List Nat)} {its : List PIt} {g : List Nat} {k i : Nat} {o : List Nat} (h : FmAt fs pcs its g k i o) (hlen : pcs.length = its.length + 1) (hk : k < its.length) (hp : ∀ x ∈ pcs, Pce x) (hok : ∀ o n, GoodT o n → GoodT ((its[k]'hk).f o) (n + 410)) :
    ∃ x, x ∈ pcs ∧ (∃ R, fs.drop i = encs x ++ 37 :: (its[k]'hk).verb :: R) ∧ FmAt fs pcs its g (k + 1) (i + (encs x).length + 2) ((its[k]'hk).f (o ++ x)) := by
  obtain ⟨h1, h2, h3⟩ := h
  have hkp : k < pcs.length := by omega
  rw [List.drop_eq_getElem_cons hkp, List.drop_eq_getElem_cons hk] at h1 h2
  refine ⟨_, List.getElem_mem hkp, ⟨_, h1⟩, ?_, h2, (hok _ _ (h3.piece (hp _ (List.getElem_mem hkp)))).mono (by omega)⟩
  have h4 := congrArg (List.drop ((encs (pcs[k]'hkp)).length + 2)) h1
  rw [List.drop_drop] at h4
  rw [show i + (encs (pcs[k]'hkp)).length + 2 = i + ((encs (pcs[k]'hkp)).length + 2) by omega, h4]
  simp only [List.map_cons, fmtB]
  rw [← List.drop_drop, List.drop_left' rfl]; rfl
theorem idx_run (fs : ByteArray) (n : Nat) (hn : n < fs.size) (w : World) : (Instr.index 9 (.string fs) (.int .i64 n)).run Tryz.prog w = .ok (.int .u8 ((fs.data.toList.getD n 0).toNat : Int)) w := by
  rw [run_index_string w 9 fs .i64 _ Tryz.underlying9, dif_pos (by omega)]
  have h1 : fs.data.toList.getD n 0 = fs[n]'hn := by
    rw [List.getD, List.getElem?_eq_getElem (by rw [← Lib.size_eq]; exact hn)]; rfl
  rw [h1]
  rfl
theorem pct_no {fs x rest : List UInt8} {i n : Nat} (hf : fs.drop i = x ++ rest) (h37 : (37 : UInt8) ∉ x) (h1 : i ≤ n) (h2 : n < i + x.length) : (((fs.getD n 0).toNat : Int) == 37) = false := by
  obtain ⟨k, rfl⟩ : ∃ k, n = i + k := ⟨n - i, by omega⟩
  rw [pct_at hf (by omega)]
  refine beq_eq_false_iff_ne.2 fun h => h37 ?_
  have h3 : x.getD k 0 = 37 := UInt8.toNat_inj.1 (by show _ = 37; omega)
  rw [← h3]
  rw [List.getD, List.getElem?_eq_getElem (show k < x.length by omega)]
  exact List.getElem_mem _
theorem at_drop {fs rest : List UInt8} {n : Nat} {b : UInt8} (h : fs.drop n = b :: rest) : fs.getD n 0 = b ∧ n < fs.length ∧ fs.drop (n + 1) = rest := by
  have hn : n < fs.length := by
    rcases Nat.lt_or_ge n fs.length with h1 | h1
    · exact h1
    · rw [List.drop_of_length_le h1] at h; cases h
  rw [List.drop_eq_getElem_cons hn] at h
  injection h with h1 h2
  exact ⟨by rw [List.getD, List.getElem?_eq_getElem hn]; exact h1, hn, h2⟩
theorem sub_run (fs : ByteArray) (i n : Nat) (x rest : List UInt8) (hf : fs.data.toList.drop i = x ++ rest) (hn : n = i + x.length) (hs : n ≤ fs.size) : ∃ sub : ByteArray, (∀ w, (Instr.slice 9 (.string fs) (some (.int .i64 i)) (some (.int .i64 n)) none).run Tryz.prog w = .ok (.string sub) w) ∧ sub.data.toList = x := by
  refine ⟨fs.extract i n, fun w => ?_, ?_⟩
  · have := run_slice_string (P := Tryz.prog) w 9 fs .i64 .i64 (i : Int) (n : Int) Tryz.underlying9 (by omega) (by omega) (by omega)
    simpa using this
  · rw [ByteArray.data_extract]
    simp
    rw [hf, hn, Nat.add_sub_cancel_left]
    exact List.take_left' rfl
end Go.Proofs.YtlmcglaajmjanaaGreatDoor
