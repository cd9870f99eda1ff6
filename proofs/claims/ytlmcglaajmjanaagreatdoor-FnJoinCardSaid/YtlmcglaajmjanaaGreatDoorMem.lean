/- Slices of bytes, told by what they read: their length, parts, elements, the string of them; over the program of this seat. -/
import Derived.Test.YtlmcglaajmjanaaGreatDoorProg
import Derived.Test.YtlmcglaajmjanaaGreatDoorStr
import Derived.WalkKit
import Derived.WalkSpells
import Derived.WalkLawsBesides
import Derived.KernelRfl
import Derived.Handy
import Derived.Lib.Hide
import Derived.Lib.SlBytesConst
import Derived.Lib.OthersKept
import Derived.Lib.BufferWrite
namespace Go.Proofs.YtlmcglaajmjanaaGreatDoor
open Go.RowKit
theorem ret_int {k : IntKind} {a b : Int} (h : a = b) : Ending.returned (.int k a) = .returned (.int k b) := by rw [h]
theorem add_plain (b o n : Nat) : (⟨b, o, none⟩ : Addr).add n = ⟨b, o + n, none⟩ := by unfold Addr.add; split <;> simp_all
theorem sizeOf_byte (w : World) : (sizeOf 5).run Tryz.prog w = .ok 1 w := by kernel_rfl
theorem elem_bytes : Tryz.prog.elem 31 = 5 := by kernel_rfl
theorem und_bytes : Tryz.prog.underlying 31 = some (.slice (Tryz.prog.elem 31)) := by rw [elem_bytes]; exact Tryz.underlying31

/-- v is a slice of bytes that reads l in w. -/
def BAt (w : World) (v : Value) (l : List UInt8) : Prop :=
  ∃ (p : Option Addr) (b o c : Nat), v = .slice p l.length c ∧ l.length ≤ c ∧ c ≤ 9223372036854775807 ∧ ((l = [] ∧ (p = none → c = 0)) ∨ p = some ⟨b, o, none⟩) ∧
    ∀ j (h : j < l.length), w.cell? ⟨b, o + j, none⟩ = some (.int .u8 ((l[j]'h).toNat : Int))
theorem BAt.mono {w w' : World} {v : Value} {l : List UInt8} (h : BAt w v l) (hk : ∀ a x, w.cell? a = some x → w'.cell? a = some x) : BAt w' v l := by
  obtain ⟨p, b, o, c, hv, hc, hm, hp, hx⟩ := h
  exact ⟨p, b, o, c, hv, hc, hm, hp, fun j hj => hk _ _ (hx j hj)⟩
theorem BAt.below {w w' : World} {v : Value} {l : List UInt8} (h : BAt w v l) (hb : Below w.heap.size w w') : BAt w' v l :=
  h.mono fun a x hx => by rw [hb.cell (World.block_lt_of_cell? w _ hx)]; exact hx
theorem BAt.drewN {w : World} {v : Value} {l : List UInt8} (h : BAt w v l) (n : Nat) : BAt (w.drewN n) v l := h
theorem BAt.drew {w : World} {v : Value} {l : List UInt8} (h : BAt w v l) : BAt w.drew v l := h
theorem BAt.alloc {w : World} {v : Value} {l : List UInt8} (h : BAt w v l) (o : Obj) : BAt (w.alloc o) v l := h.below ((Below.refl _ _).alloc (Nat.le_refl _) _)
theorem BAt.len {w : World} {v : Value} {l : List UInt8} (h : BAt w v l) (ty : TypeId) : ∀ w', (Builtin.len_ #[31] ty #[v]).run Tryz.prog w' = .ok (.int .i64 l.length) w' := by
  obtain ⟨p, b, o, c, rfl, hc, hm, hp, hx⟩ := h
  intro w'
  exact run_len_slice w' _ _ _ _ _ und_bytes
theorem BAt.cut_cells {w : World} {l : List UInt8} {b o : Nat} (hx : ∀ j (h : j < l.length), w.cell? ⟨b, o + j, none⟩ = some (.int .u8 ((l[j]'h).toNat : Int))) (lo hi : Nat) :
    ∀ j (h : j < ((l.take hi).drop lo).length), w.cell? ⟨b, o + lo + j, none⟩ = some (.int .u8 ((((l.take hi).drop lo)[j]'h).toNat : Int)) := by
  intro j h
  have h' := h
  simp at h'
  have := hx (lo + j) (by omega)
  rw [Nat.add_assoc, this]
  simp
/-- x[lo:hi]. -/
theorem BAt.sub {w : World} {v : Value} {l : List UInt8} (h : BAt w v l) (lo hi : Int) (h0 : 0 ≤ lo) (h1 : lo ≤ hi) (h2 : hi ≤ l.length) :
    ∃ v', (∀ w', (Instr.sliceAt 31 v (some (.int .i64 lo)) (some (.int .i64 hi)) none).run Tryz.prog w' = .ok v' w') ∧ ∀ W, BAt W v l → BAt W v' ((l.take hi.toNat).drop lo.toNat) := by
  obtain ⟨p, b, o, c, rfl, hc, hm, hp, hx⟩ := h
  refine ⟨sliced p lo.toNat hi.toNat c 1, fun w' => ?_, ?_⟩
  · rw [run_sliceAt_slice w' _ _ _ _ _ und_bytes, run_slice_lh w' _ _ _ _ und_bytes _ _ _ _ h0 h1 (by omega), elem_bytes, sizeOf_byte]; rfl
  · rintro W ⟨p2, b2, o2, c2, hv, hc2, hm2, hp2, hx2⟩
    injection hv with e1 e2 e3
    subst e1; subst e3
    have hl : ((l.take hi.toNat).drop lo.toNat).length = hi.toNat - lo.toNat := by simp; omega
    refine ⟨if c = lo.toNat then p else p.map (·.add (lo.toNat * 1)), b2, o2 + lo.toNat, c - lo.toNat, by rw [sliced, hl], by rw [hl]; omega, by omega, ?_, BAt.cut_cells hx2 _ _⟩
    rcases hp2 with hp2 | hp2
    · left; rw [hp2.1]
      refine ⟨by simp, fun hn => ?_⟩
      have : p = none := by
        split at hn
        · exact hn
        · simpa using hn
      have := hp2.2 this; omega
    · by_cases hlo : c = lo.toNat
      · left
        refine ⟨List.eq_nil_of_length_eq_zero (by rw [hl]; omega), fun _ => by omega⟩
      · right; rw [if_neg hlo, hp2]; simp [add_plain]
/-- x[lo:]. -/
theorem BAt.from_ {w : World} {v : Value} {l : List UInt8} (h : BAt w v l) (lo : Int) (h0 : 0 ≤ lo) (h1 : lo ≤ l.length) :
    ∃ v', (∀ w', (Instr.sliceAt 31 v (some (.int .i64 lo)) none none).run Tryz.prog w' = .ok v' w') ∧ ∀ W, BAt W v l → BAt W v' (l.drop lo.toNat) := by
  obtain ⟨v', hr, hv⟩ := h.sub lo l.length h0 h1 (Int.le_refl _)
  refine ⟨v', fun w' => ?_, fun W hW => by have := hv W hW; simpa using this⟩
  rw [← hr w']
  obtain ⟨p, b, o, c, rfl, hc, hm, hp, hx⟩ := h
  rw [run_sliceAt_slice w' _ _ _ _ _ und_bytes, run_sliceAt_slice w' _ _ _ _ _ und_bytes, run_slice_l w' _ _ _ _ und_bytes _ _ h0 h1, run_slice_lh w' _ _ _ _ und_bytes _ _ _ _ h0 h1 (by omega)]
  rfl
/-- x[:hi]. -/
theorem BAt.upto {w : World} {v : Value} {l : List UInt8} (h : BAt w v l) (hi : Int) (h0 : 0 ≤ hi) (h1 : hi ≤ l.length) :
    ∃ v', (∀ w', (Instr.sliceAt 31 v none (some (.int .i64 hi)) none).run Tryz.prog w' = .ok v' w') ∧ ∀ W, BAt W v l → BAt W v' (l.take hi.toNat) := by
  obtain ⟨v', hr, hv⟩ := h.sub 0 hi (Int.le_refl _) h0 h1
  refine ⟨v', fun w' => ?_, fun W hW => by have := hv W hW; simpa using this⟩
  rw [← hr w']
  obtain ⟨p, b, o, c, rfl, hc, hm, hp, hx⟩ := h
  rw [run_sliceAt_slice w' _ _ _ _ _ und_bytes, run_sliceAt_slice w' _ _ _ _ _ und_bytes, run_slice_h w' _ _ _ _ und_bytes _ _ h0 (by omega), run_slice_lh w' _ _ _ _ und_bytes _ _ _ _ (Int.le_refl _) h0 (by omega)]
  rfl
/-- string(x). -/
theorem BAt.str {w : World} {v : Value} {l : List UInt8} (h : BAt w v l) (dst : TypeId) (hd : Tryz.prog.underlying dst = some .string) : (convert 31 dst v).run Tryz.prog w = .ok (.string ⟨l.toArray⟩) w := by
  obtain ⟨p, b, o, c, rfl, hc, hm, hp, hx⟩ := h
  rcases hp with ⟨rfl, _⟩ | rfl
  · cases p with
    | none =>
      rw [run_convert_bytes_nil w _ _ Tryz.underlying31 Tryz.underlying5 _ _ _ hd]; rfl
    | some a => exact run_convert_bytes_back w _ _ _ a c [] Tryz.underlying31 Tryz.underlying5 hd (fun j hj => by cases hj)
  · exact run_convert_bytes_back w _ _ _ ⟨b, o, none⟩ c l Tryz.underlying31 Tryz.underlying5 hd (fun j hj => by rw [add_plain]; exact hx j hj)
/-- x[i], read. -/
theorem BAt.at_ {w : World} {v : Value} {l : List UInt8} (h : BAt w v l) (i : Int) (h0 : 0 ≤ i) (h1 : i < l.length) :
    ∃ a : Addr, (∀ w', (Instr.indexAt 31 v (.int .i64 i)).run Tryz.prog w' = .ok (.pointer (some a)) w') ∧ ∀ W, BAt W v l → W.cell? a = some (.int .u8 ((l.getD i.toNat 0).toNat : Int)) := by
  obtain ⟨p, b, o, c, rfl, hc, hm, hp, hx⟩ := h
  rcases hp with ⟨rfl, _⟩ | rfl
  · simp at h1; omega
  · refine ⟨⟨b, o + i.toNat, none⟩, fun w' => ?_, ?_⟩
    · have e : (⟨b, o, none⟩ : Addr).add i.toNat = ⟨b, o + i.toNat, none⟩ := add_plain _ _ _
      simp [Instr.indexAt, asIntOf, run_underlying und_bytes, elem_bytes, h0, h1, e]
    · rintro W ⟨p2, b2, o2, c2, hv, hc2, hm2, hp2, hx2⟩
      injection hv with e1 e2 e3
      have hl : l ≠ [] := by intro hn; rw [hn] at h1; simp at h1; omega
      rcases hp2 with hp2 | hp2
      · exact absurd hp2.1 hl
      · rw [hp2] at e1
        injection e1 with e1
        injection e1 with e1 e4 _
        subst e1; subst e4
        have := hx2 i.toNat (by omega)
        rw [this]
        simp [List.getD_eq_getElem?_getD, List.getElem?_eq_getElem (show i.toNat < l.length by omega)]
/-- A row of bytes that was just laid. -/
theorem BAt.lit (w : World) (l : List UInt8) (fr : Nat × Nat) (h : l.length ≤ 1000000) (b : Nat) (cs : Array Value) (e : TypeId) (hb : w.heap[b]? = some (.cells cs e fr)) (hcs : cs.toList = l.map fun x => Value.int .u8 (x.toNat : Int)) :
    BAt w (.slice (some ⟨b, 0, none⟩) l.length l.length) l :=
  ⟨_, b, 0, l.length, rfl, Nat.le_refl _, by omega, .inr rfl, fun j hj => by
    have hj2 : j < cs.toList.length := by rw [hcs]; simpa using hj
    have : cs[j]? = some (Value.int .u8 ((l[j]'hj).toNat : Int)) := by
      rw [← Array.getElem?_toList, hcs]; simp [hj]
    simp [World.cell?, hb, this]⟩
theorem Tryz.infoB : (Tryz.prog.info? 5).map (fun i => (i.zero, i.size, i.bytes)) = some (some (.int .u8 0), 1, 1) := by kernel_rfl
/-- v is a slice of bytes l that the call owns, in a row from block B on. -/
def Own (w : World) (B : Nat) (v : Value) (l : List UInt8) : Prop := w.ownsRow B 5 1 v l.length (Lib.byteCells l)
theorem Own.nil (w : World) (B : Nat) : Own w B (.slice none 0 0) [] := World.ownsRow_nil _ _ _ _
theorem Own.bat {w : World} {B : Nat} {v : Value} {l : List UInt8} (h : Own w B v l) : BAt w v l := by
  obtain ⟨h1, h2⟩ := h
  rcases h2 with ⟨rfl, hn⟩ | ⟨g, cap, cur, rfl, hg, hb, hc, hm, hs, ht⟩
  · have hl : l = [] := List.eq_nil_of_length_eq_zero hn
    subst hl
    exact ⟨none, 0, 0, 0, rfl, Nat.le_refl _, by omega, .inl ⟨rfl, fun _ => rfl⟩, fun j hj => by cases hj⟩
  · refine ⟨_, g, 0, cap, rfl, hc, by unfold maxLen at hm; omega, .inr rfl, fun j hj => ?_⟩
    have e : (cur.toList.take (l.length * 1))[j]? = (Lib.byteCells l)[j]? := by rw [ht]
    simp [World.cell?, hb]
    rw [List.getElem?_take_of_lt (by omega)] at e
    rw [Array.getElem?_toList] at e
    rw [e]; simp [Lib.byteCells, hj]
/-- Frames: every old block that is not 'row' stands. -/
theorem grownBy_keep {w w' : World} {row : Option Nat} (hg : w.grownBy w' row) {a : Addr} {x : Value} (h : w.cell? a = some x) (hr : some a.block ≠ row) : w'.cell? a = some x := by
  rw [World.cell?_of_block (hg.block _ (World.block_lt_of_cell? w _ h) hr)]; exact h
/-- 'append(v, s...)'. -/
theorem Own.append {w : World} {B : Nat} {v s : Value} {l m : List UInt8} (h : Own w B v l) (hs : BAt w s m) (hsz : l.length + m.length ≤ 1000000) (hB : B ≤ w.heap.size) (ty : TypeId) :
    ∃ v' w', (Builtin.append_ #[31, 31] ty #[v, s]).run Tryz.prog w = .ok v' w' ∧ Own w' B v' (l ++ m) ∧ w.grownBy w' v.ownBlock := by
  obtain ⟨i0, hi, hz0, hz1, hz2⟩ := info_parts Tryz.infoB
  obtain ⟨p, b, o, c, rfl, hc, hm, hp, hx⟩ := hs
  have key : ∀ a : Addr, (∀ j u, (Lib.byteCells m)[j]? = some u → w.cell? (a.add j) = some u) → ∃ v' w', (Builtin.append_ #[31, 31] ty #[v, .slice (some a) m.length c]).run Tryz.prog w = .ok v' w' ∧ Own w' B v' (l ++ m) ∧ w.grownBy w' v.ownBlock := by
    intro a ha
    obtain ⟨v', w', hr, ho, hg, _⟩ := run_append_own (P := Tryz.prog) w B 31 ty 5 i0 (.int .u8 0) 1 1 Tryz.underlying31 hi hz0 hz1 hz2 rfl (by decide) v l.length (Lib.byteCells l) h
      a m.length c (Lib.byteCells m) (by simp [Lib.byteCells]) ha (Lib.byteCells_one m) (by unfold maxLen; omega) (by omega) hB
    refine ⟨v', w', hr, ?_, hg⟩
    unfold Own
    rw [List.length_append, Lib.byteCells, List.map_append]; exact ho
  rcases hp with ⟨rfl, hp⟩ | rfl
  · cases p with
    | none =>
      have := hp rfl
      subst this
      exact ⟨v, w, run_append_owned_none w B 31 ty 5 i0 1 Tryz.underlying31 hi v l.length (Lib.byteCells l) h, by rw [List.append_nil]; exact h, ⟨rfl, rfl, rfl, Nat.le_refl _, fun _ _ _ => rfl⟩⟩
    | some a => exact key a (fun j u hj => by simp [Lib.byteCells] at hj)
  · refine key _ (fun j u hj => ?_)
    simp only [Lib.byteCells, List.getElem?_map, Option.map_eq_some_iff] at hj
    obtain ⟨x, hx1, rfl⟩ := hj
    obtain ⟨hj1, rfl⟩ := List.getElem?_eq_some_iff.1 hx1
    rw [add_plain]; exact hx j hj1
theorem Own.blk {w : World} {B : Nat} {v : Value} {l : List UInt8} (h : Own w B v l) : ∀ k, v.ownBlock = some k → B ≤ k := by
  intro k hk
  rcases h.2 with ⟨rfl, _⟩ | ⟨g, cap, cur, rfl, hg, _⟩
  · simp [Value.ownBlock] at hk
  · simp [Value.ownBlock] at hk; omega
theorem Own.below {w w' : World} {B : Nat} {v : Value} {l : List UInt8} (h : Own w B v l) (hb : Below w.heap.size w w') : Own w' B v l := by
  obtain ⟨h1, h2⟩ := h
  refine ⟨h1, ?_⟩
  rcases h2 with h2 | ⟨g, cap, cur, hv, hg, hh, r⟩
  · exact .inl h2
  · exact .inr ⟨g, cap, cur, hv, hg, by rw [hb.block g (Array.getElem?_eq_some_iff.1 hh).1]; exact hh, r⟩
theorem Own.drewN {w : World} {B : Nat} {v : Value} {l : List UInt8} (h : Own w B v l) (n : Nat) : Own (w.drewN n) B v l := h
/-- 'make([]byte, 0, n)'. -/
theorem Own.make (w : World) (n : Nat) (hn : n ≤ 1000000) :
    ∃ w', (Instr.makeSlice 31 (.int .i64 0) (.int .i64 n)).run Tryz.prog w = .ok (.slice (some ⟨w.heap.size, 0, none⟩) 0 n) w' ∧ Own w' w.heap.size (.slice (some ⟨w.heap.size, 0, none⟩) 0 n) [] ∧ Below w.heap.size w w' := by
  obtain ⟨i0, hi, hz0, hz1, hz2⟩ := info_parts Tryz.infoB
  obtain ⟨w', h1, h2, h3⟩ := run_make_own (P := Tryz.prog) w w.heap.size 31 5 i0 (.int .u8 0) 1 Tryz.underlying31 hi hz0 hz1 .i64 .i64 n (by rw [hz2]; omega) (by unfold maxLen; omega) (Nat.le_refl _)
  exact ⟨w', h1, h2, (Below.refl _ w).grown h3 (Nat.le_refl _) (fun k hk => by cases hk)⟩
/-- '[]byte(s)'. -/
theorem toBytes (w : World) (s : ByteArray) (src : TypeId) (hs : Tryz.prog.underlying src = some .string) (hsz : s.size ≤ 1000000) :
    ∃ v w', (convert src 31 (.string s)).run Tryz.prog w = .ok v w' ∧ BAt w' v s.data.toList ∧ Below w.heap.size w w' ∧ w.heap.size < w'.heap.size := by
  have h := run_bytes_of_string (P := Tryz.prog) w src 31 5 s hs Tryz.underlying31 Tryz.underlying5
  have hlen : s.data.toList.length = s.size := (Lib.size_eq s).symm
  refine ⟨_, _, h, ?_, (Below.refl _ w).drew.alloc (by simp) _, by simp⟩
  have hc1 : s.size ≤ grownCap w s.size 0 5 := grownCap_ge _ _ _ _
  have hc2 : grownCap w s.size 0 5 ≤ 9223372036854775807 := grownCap_le_maxLen _ _ _ _ (by unfold maxLen; omega)
  refine ⟨_, w.heap.size, 0, _, by rw [hlen], by rw [hlen]; exact hc1, hc2, .inr rfl, fun j hj => ?_⟩
  rw [hlen] at hj
  generalize grownCap w s.size 0 5 = cap at *
  have hb : (w.drew.alloc (.cells (bytesRow s cap) 5 ((bytesRow s cap).size, (bytesRow s cap).size + 1))).heap[w.heap.size]? = some (.cells (bytesRow s cap) 5 ((bytesRow s cap).size, (bytesRow s cap).size + 1)) := heap_alloc_new w.drew _
  have hg : (bytesRow s cap)[j]? = some (.int .u8 ((s.data.toList[j]'(by rw [hlen]; exact hj)).toNat : Int)) := by
    unfold bytesRow
    rw [Array.getElem?_append_left (by simp; exact hj)]
    simp
    exact ⟨_, Array.getElem?_eq_getElem hj, rfl⟩
  simp only [World.cell?, hb, Nat.zero_add]
  simpa using hg
/-- An append whose run is known. -/
theorem wpList_append_known (w : World) {ops : Array Oper} {rest : List Oper} {o : Oper} {a : Act} {Q : Exit → Act → World → Prop} (hgd : o.guard = none) (s x : Operand)
    (ho : o.op = .call { callee := .builtin .append, args := #[s, x], argTypes := #[31, 31] }) (v u : Value) (hs : a.eval s = v) (hx : a.eval x = u) {v' : Value} {w' : World}
    (hr : (Builtin.append_ #[31, 31] o.type #[v, u]).run Tryz.prog w = .ok v' w') (h : wpList Tryz.prog ops Q rest (a.put o.dst v') w') : wpList Tryz.prog ops Q (o :: rest) a w := by
  refine wpList_plain hgd fun K hK => ?_
  unfold Oper.wp execOp
  simp only [ho, resolve, invoke, builtin, Sem.run_bind, Sem.run_pure, Result.andThen_ok, List.map_toArray, List.map_cons, List.map_nil, hs, hx, hr]
  exact hK _ _ h
theorem Below.trans' {B : Nat} {a b c : World} (h : Below B a b) (hB : B ≤ a.heap.size) (k : Below b.heap.size b c) : Below B a c := h.trans (k.mono (Nat.le_trans hB h.size))
end Go.Proofs.YtlmcglaajmjanaaGreatDoor
