/- A redact buffer in memory: its four cells and the row that it owns; tryGrowByReslice and grow. -/
/- Walks of package bytes' small functions and of utf8.DecodeLastRune, over slices told by what they read. -/
/- What InternalEscapeBytes makes of a text, and its walk. -/
/- Words for the walk of InternalEscapeBytes. -/
import Derived.Test.YtlmcglaajmjanaaGreatDoorZb
import Derived.Lib.BufferMore
import Derived.Test.YtlmcglaajmjanaaGreatDoorZa
import Derived.Test.YtlmcglaajmjanaaGreatDoorShelf
namespace Go.Proofs.YtlmcglaajmjanaaGreatDoor
open Go.RowKit
/-- The blocks of K stand, and all that is no memory. -/
structure Kp (K : Nat → Prop) (w w' : World) : Prop where
  os : w'.os = w.os
  tape : w'.tape = w.tape
  output : w'.output = w.output
  size : w.heap.size ≤ w'.heap.size
  block : ∀ k, K k → w'.heap[k]? = w.heap[k]?
theorem Kp.refl (K : Nat → Prop) (w : World) : Kp K w w := ⟨rfl, rfl, rfl, Nat.le_refl _, fun _ _ => rfl⟩
theorem Kp.trans {K : Nat → Prop} {a b c : World} (h : Kp K a b) (k : Kp K b c) : Kp K a c := ⟨k.os.trans h.os, k.tape.trans h.tape, k.output.trans h.output, Nat.le_trans h.size k.size, fun i hi => (k.block i hi).trans (h.block i hi)⟩
theorem Kp.of_below {K : Nat → Prop} {w w' : World} (hK : ∀ k, K k → k < w.heap.size) (h : Below w.heap.size w w') : Kp K w w' := ⟨h.os, h.tape, h.output, h.size, fun k hk => h.block k (hK k hk)⟩
theorem Kp.setCell {K : Nat → Prop} {a b : World} (h : Kp K a b) {p : Nat} (hp : ¬ K p) (i : Nat) (v : Value) : Kp K a (b.setCell ⟨p, i, none⟩ v) :=
  ⟨h.os, h.tape, h.output, by simpa [World.setCell] using h.size, fun k hk => by rw [Below.heap_setCell _ _ _ _ (show k ≠ p from fun e => hp (e ▸ hk))]; exact h.block k hk⟩
theorem Kp.setRow {K : Nat → Prop} {a b : World} (h : Kp K a b) {g : Nat} (hg : ¬ K g) (cs : Array Value) : Kp K a (b.setRow g cs) :=
  ⟨h.os, h.tape, h.output, by simpa [World.setRow] using h.size, fun k hk => by rw [setRow_other b g k _ (fun e => hg (e ▸ hk))]; exact h.block k hk⟩
theorem Kp.drewN {K : Nat → Prop} {a b : World} (h : Kp K a b) (n : Nat) : Kp K a (b.drewN n) := ⟨h.os, h.tape, h.output, h.size, h.block⟩
theorem Kp.anti {K K' : Nat → Prop} {a b : World} (h : Kp K a b) (hk : ∀ k, K' k → K k) : Kp K' a b := ⟨h.os, h.tape, h.output, h.size, fun k hh => h.block k (hk k hh)⟩
theorem Kp.below {B : Nat} {a b : World} (h : Kp (· < B) a b) : Below B a b := ⟨h.os, h.tape, h.output, h.size, fun k hk => h.block k hk⟩
/-- Block p begins with a redact buffer: its slice (a, n, c) whose first n cells are xs, in a row of its own; validUntil, mode, markerOpen; the other cells are as R says. Neither p nor the row is of K. -/
structure Buf (K : Nat → Prop) (w : World) (p : Nat) (a : Option Addr) (n c : Nat) (xs : List Value) (vu : Nat) (m : Int) (mo : Bool) (R : Nat → Option Value) : Prop where
  hK : ∀ k, K k → k < w.heap.size
  hp : ¬ K p
  blk : ∃ cs T, T ≠ 5 ∧ w.heap[p]? = some (.cells cs T (0, 0)) ∧ cs[0]? = some (.slice a n c) ∧ cs[1]? = some (.int .i64 vu) ∧ cs[2]? = some (.int .i64 m) ∧ cs[3]? = some (.bool mo) ∧ ∀ i, 4 ≤ i → cs[i]? = R i
  row : (a = none ∧ n = 0 ∧ c = 0 ∧ xs = []) ∨ ∃ g cur, a = some ⟨g, 0, none⟩ ∧ (g ≠ p ∧ ¬ K g) ∧ w.heap[g]? = some (.cells cur 5 (0, 0)) ∧ n ≤ c ∧ c ≤ 9223372036854775807 ∧ cur.size = c ∧ cur.toList.take n = xs
section
variable {K : Nat → Prop} {w : World} {p : Nat} {a : Option Addr} {n c : Nat} {xs : List Value} {vu : Nat} {m : Int} {mo : Bool} {R : Nat → Option Value}
theorem Buf.cell {cs : Array Value} {T : TypeId} {fr : Nat × Nat} (hb : w.heap[p]? = some (.cells cs T fr)) (i : Nat) : w.cell? ⟨p, i, none⟩ = cs[i]? := by simp [World.cell?, hb]
theorem Buf.c0 (h : Buf K w p a n c xs vu m mo R) : w.cell? ⟨p, 0, none⟩ = some (.slice a n c) := by obtain ⟨cs, T, _, hb, h0, h1, h2, h3, hr⟩ := h.blk; rw [Buf.cell hb]; exact h0
theorem Buf.c1 (h : Buf K w p a n c xs vu m mo R) : w.cell? ⟨p, 1, none⟩ = some (.int .i64 vu) := by obtain ⟨cs, T, _, hb, h0, h1, h2, h3, hr⟩ := h.blk; rw [Buf.cell hb]; exact h1
theorem Buf.c2 (h : Buf K w p a n c xs vu m mo R) : w.cell? ⟨p, 2, none⟩ = some (.int .i64 m) := by obtain ⟨cs, T, _, hb, h0, h1, h2, h3, hr⟩ := h.blk; rw [Buf.cell hb]; exact h2
theorem Buf.c3 (h : Buf K w p a n c xs vu m mo R) : w.cell? ⟨p, 3, none⟩ = some (.bool mo) := by obtain ⟨cs, T, _, hb, h0, h1, h2, h3, hr⟩ := h.blk; rw [Buf.cell hb]; exact h3
theorem Buf.cR (h : Buf K w p a n c xs vu m mo R) (i : Nat) (hi : 4 ≤ i) : w.cell? ⟨p, i, none⟩ = R i := by obtain ⟨cs, T, _, hb, h0, h1, h2, h3, hr⟩ := h.blk; rw [Buf.cell hb]; exact hr i hi
theorem Buf.fz (h : Buf K w p a n c xs vu m mo R) (i : Nat) : w.frozen? ⟨p, i, none⟩ = false := by obtain ⟨cs, T, _, hb, h0, h1, h2, h3, hr⟩ := h.blk; simp [World.frozen?, hb]
theorem Buf.lt (h : Buf K w p a n c xs vu m mo R) : p < w.heap.size := World.block_lt_of_cell? w _ h.c0
theorem Buf.fresh (h : Buf K w p a n c xs vu m mo R) {g : Nat} (hg : w.heap.size ≤ g) : g ≠ p ∧ ¬ K g := ⟨by have := h.lt; omega, fun hk => by have := h.hK _ hk; omega⟩
theorem Buf.le (h : Buf K w p a n c xs vu m mo R) : n ≤ c ∧ c ≤ 9223372036854775807 ∧ xs.length = n := by
  rcases h.row with ⟨_, hn, hc, hx⟩ | ⟨g, cur, _, _, _, h1, h2, h3, h4⟩
  · subst hx; simp; omega
  · refine ⟨h1, h2, ?_⟩
    rw [← h4]; simp; omega
theorem Buf.below (h : Buf K w p a n c xs vu m mo R) {w' : World} (hb : Below w.heap.size w w') : Buf K w' p a n c xs vu m mo R := by
  obtain ⟨cs, T, hT, hp, r⟩ := h.blk
  refine ⟨fun k hk => Nat.lt_of_lt_of_le (h.hK k hk) hb.size, h.hp, ⟨cs, T, hT, by rw [hb.block p h.lt]; exact hp, r⟩, ?_⟩
  rcases h.row with h1 | ⟨g, cur, ha, hg, hh, r⟩
  · exact .inl h1
  · exact .inr ⟨g, cur, ha, hg, by rw [hb.block g (Array.getElem?_eq_some_iff.1 hh).1]; exact hh, r⟩
theorem Buf.drewN (h : Buf K w p a n c xs vu m mo R) (k : Nat) : Buf K (w.drewN k) p a n c xs vu m mo R := ⟨h.hK, h.hp, h.blk, h.row⟩
theorem Buf.drew (h : Buf K w p a n c xs vu m mo R) : Buf K w.drew p a n c xs vu m mo R := ⟨h.hK, h.hp, h.blk, h.row⟩
theorem Buf.alloc (h : Buf K w p a n c xs vu m mo R) (o : Obj) : Buf K (w.alloc o) p a n c xs vu m mo R := h.below ((Below.refl _ _).alloc (Nat.le_refl _) _)
/-- A store into the block, at one of the four. -/
theorem Buf.row_set (h : (a = none ∧ n = 0 ∧ c = 0 ∧ xs = []) ∨ ∃ g cur, a = some ⟨g, 0, none⟩ ∧ (g ≠ p ∧ ¬ K g) ∧ w.heap[g]? = some (.cells cur 5 (0, 0)) ∧ n ≤ c ∧ c ≤ 9223372036854775807 ∧ cur.size = c ∧ cur.toList.take n = xs) (i : Nat) (v : Value) :
    (a = none ∧ n = 0 ∧ c = 0 ∧ xs = []) ∨ ∃ g cur, a = some ⟨g, 0, none⟩ ∧ (g ≠ p ∧ ¬ K g) ∧ (w.setCell ⟨p, i, none⟩ v).heap[g]? = some (.cells cur 5 (0, 0)) ∧ n ≤ c ∧ c ≤ 9223372036854775807 ∧ cur.size = c ∧ cur.toList.take n = xs := by
  rcases h with h1 | ⟨g, cur, ha, hg, hh, r⟩
  · exact .inl h1
  · exact .inr ⟨g, cur, ha, hg, by rw [Below.heap_setCell _ _ _ _ hg.1]; exact hh, r⟩
theorem set_get {cs : Array Value} {i j : Nat} {v x : Value} (h : cs[j]? = some x) (hij : i ≠ j) : (cs.setIfInBounds i v)[j]? = some x := by rw [Array.getElem?_setIfInBounds_ne hij]; exact h
theorem set_same {cs : Array Value} {i : Nat} {v x : Value} (h : cs[i]? = some x) : (cs.setIfInBounds i v)[i]? = some v := by
  have := (Array.getElem?_eq_some_iff.1 h).1
  simp [this]
theorem Buf.setVu (h : Buf K w p a n c xs vu m mo R) (k : Nat) : Buf K (w.setCell ⟨p, 1, none⟩ (.int .i64 k)) p a n c xs k m mo R := by
  obtain ⟨cs, T, hT, hp, h0, h1, h2, h3, hr⟩ := h.blk
  exact ⟨fun k hk => by simpa [World.setCell] using h.hK k hk, h.hp, ⟨_, T, hT, Lib.heap_setCell_same (i := 1) hp _, set_get h0 (by omega), set_same h1, set_get h2 (by omega), set_get h3 (by omega), fun i hi => by rw [Array.getElem?_setIfInBounds_ne (by omega)]; exact hr i hi⟩, Buf.row_set h.row 1 _⟩
theorem Buf.setMode (h : Buf K w p a n c xs vu m mo R) (k : Int) : Buf K (w.setCell ⟨p, 2, none⟩ (.int .i64 k)) p a n c xs vu k mo R := by
  obtain ⟨cs, T, hT, hp, h0, h1, h2, h3, hr⟩ := h.blk
  exact ⟨fun k hk => by simpa [World.setCell] using h.hK k hk, h.hp, ⟨_, T, hT, Lib.heap_setCell_same (i := 2) hp _, set_get h0 (by omega), set_get h1 (by omega), set_same h2, set_get h3 (by omega), fun i hi => by rw [Array.getElem?_setIfInBounds_ne (by omega)]; exact hr i hi⟩, Buf.row_set h.row 2 _⟩
theorem Buf.setMo (h : Buf K w p a n c xs vu m mo R) (k : Bool) : Buf K (w.setCell ⟨p, 3, none⟩ (.bool k)) p a n c xs vu m k R := by
  obtain ⟨cs, T, hT, hp, h0, h1, h2, h3, hr⟩ := h.blk
  exact ⟨fun k hk => by simpa [World.setCell] using h.hK k hk, h.hp, ⟨_, T, hT, Lib.heap_setCell_same (i := 3) hp _, set_get h0 (by omega), set_get h1 (by omega), set_get h2 (by omega), set_same h3, fun i hi => by rw [Array.getElem?_setIfInBounds_ne (by omega)]; exact hr i hi⟩, Buf.row_set h.row 3 _⟩
/-- A store of another slice into the first cell. -/
theorem Buf.setSl (h : Buf K w p a n c xs vu m mo R) {a' : Option Addr} {n' c' : Nat} {xs' : List Value}
    (hrow : (a' = none ∧ n' = 0 ∧ c' = 0 ∧ xs' = []) ∨ ∃ g cur, a' = some ⟨g, 0, none⟩ ∧ (g ≠ p ∧ ¬ K g) ∧ w.heap[g]? = some (.cells cur 5 (0, 0)) ∧ n' ≤ c' ∧ c' ≤ 9223372036854775807 ∧ cur.size = c' ∧ cur.toList.take n' = xs') :
    Buf K (w.setCell ⟨p, 0, none⟩ (.slice a' n' c')) p a' n' c' xs' vu m mo R := by
  obtain ⟨cs, T, hT, hp, h0, h1, h2, h3, hr⟩ := h.blk
  exact ⟨fun k hk => by simpa [World.setCell] using h.hK k hk, h.hp, ⟨_, T, hT, Lib.heap_setCell_same (i := 0) hp _, set_same h0, set_get h1 (by omega), set_get h2 (by omega), set_get h3 (by omega), fun i hi => by rw [Array.getElem?_setIfInBounds_ne (by omega)]; exact hr i hi⟩, Buf.row_set hrow 0 _⟩
/-- 'b.buf[:n+k]' within the capacity. -/
theorem Buf.more (h : Buf K w p a n c xs vu m mo R) (k : Nat) (hk : n + k ≤ c) : ∃ g, g.length = k ∧ Buf K (w.setCell ⟨p, 0, none⟩ (.slice a (n + k) c)) p a (n + k) c (xs ++ g) vu m mo R := by
  rcases h.row with ⟨h1, h2, h3, h4⟩ | ⟨g, cur, ha, hg, hh, h1, h2, h3, h4⟩
  · have : k = 0 := by omega
    subst this
    exact ⟨[], rfl, by simpa using h.setSl (a' := a) (n' := n) (c' := c) (xs' := xs) (.inl ⟨h1, h2, h3, h4⟩)⟩
  · obtain ⟨ys, hy1, hy2⟩ := Lib.take_split cur.toList n k (by rw [Array.length_toList]; omega)
    exact ⟨ys, hy1, h.setSl (.inr ⟨g, cur, ha, hg, hh, hk, h2, h3, by rw [hy2, h4]⟩)⟩
/-- 'b.buf[:n-k]'. -/
theorem Buf.less (h : Buf K w p a n c xs vu m mo R) (k : Nat) (hk : k ≤ n) : Buf K (w.setCell ⟨p, 0, none⟩ (.slice a k c)) p a k c (xs.take k) vu m mo R := by
  rcases h.row with ⟨h1, h2, h3, h4⟩ | ⟨g, cur, ha, hg, hh, h1, h2, h3, h4⟩
  · have : k = 0 := by omega
    subst this
    exact h.setSl (.inl ⟨h1, rfl, h3, by simp⟩)
  · exact h.setSl (.inr ⟨g, cur, ha, hg, hh, by omega, h2, h3, by rw [← h4, List.take_take]; congr 1; omega⟩)
end
/-- 'x[:hi]' of a slice laid open. -/
theorem slice_hi (a : Option Addr) (n c : Nat) (hi : Int) (h0 : 0 ≤ hi) (h1 : hi ≤ c) (hp : ∀ x, a = some x → x.spot = none) (w : World) :
    (Instr.sliceAt 31 (.slice a n c) none (some (.int .i64 hi)) none).run Tryz.prog w = .ok (.slice a hi.toNat c) w := by
  rw [run_sliceAt_slice w _ _ _ _ _ und_bytes, run_slice_h w _ _ _ _ und_bytes _ _ h0 h1, elem_bytes, sizeOf_byte]
  have : a.map (·.add (0 * 1)) = a := by cases a <;> simp [Addr.add]
  simp only [Result.andThen, sliced, this]
  simp
theorem Buf.spot {K : Nat → Prop} {w : World} {p : Nat} {a : Option Addr} {n c : Nat} {xs : List Value} {vu : Nat} {m : Int} {mo : Bool} {R : Nat → Option Value} (h : Buf K w p a n c xs vu m mo R) : ∀ x, a = some x → x.spot = none := by
  intro x hx
  rcases h.row with ⟨h1, _⟩ | ⟨g, cur, ha, _⟩
  · rw [h1] at hx; cases hx
  · rw [ha] at hx; cases hx; rfl

def GrowQ (K : Nat → Prop) (_p : Nat) (w : World) (r : Value) (P : World → Prop) (e : Ending) (w' : World) : Prop := e = .returned r ∧ P w' ∧ Kp K w w'
set_option maxRecDepth 100000 in
theorem tryGrow_yes {K : Nat → Prop} {w : World} {p : Nat} {a : Option Addr} {n c : Nat} {xs : List Value} {vu : Nat} {m : Int} {mo : Bool} {R : Nat → Option Value} (h : Buf K w p a n c xs vu m mo R) (kI : Int) (k : Nat) (hkk : kI = k) (hk : n + k ≤ c) (hn : n ≤ 1000000) (hk2 : k ≤ 1000000) :
    Calls Tryz.prog 151 #[.pointer (some ⟨p, 0, none⟩), .int .i64 kI] w (GrowQ K p w (.tuple #[.int .i64 n, .bool true]) fun w' => ∃ g, g.length = k ∧ Buf K w' p a (n + k) c (xs ++ g) vu m mo R) := by
  subst hkk
  have c0 := h.c0
  have f0 := h.fz 0
  have hle := h.le.2.1
  have hsl := fun w => slice_hi a n c (n + k) (by omega) (by omega) h.spot w
  have e1 : ((n : Int) + (k : Int)).toNat = n + k := by omega
  rw [e1] at hsl
  have H := Lib.hid h; clear h
  go_enter Tryz.func151, Tryz.ntmps151
  go_wp2
  go_ret2
  exact ⟨rfl, H.out.more k hk, (Kp.refl K w).setCell H.out.hp _ _⟩
set_option maxRecDepth 100000 in
theorem tryGrow_no {K : Nat → Prop} {w : World} {p : Nat} {a : Option Addr} {n c : Nat} {xs : List Value} {vu : Nat} {m : Int} {mo : Bool} {R : Nat → Option Value} (h : Buf K w p a n c xs vu m mo R) (kI : Int) (k : Nat) (hkk : kI = k) (hk : c < n + k) :
    Calls Tryz.prog 151 #[.pointer (some ⟨p, 0, none⟩), .int .i64 kI] w fun e w' => e = .returned (.tuple #[.int .i64 0, .bool false]) ∧ w = w' := by
  subst hkk
  have c0 := h.c0
  have hle := h.le.2.1
  have hle1 := h.le.1
  clear h
  go_enter Tryz.func151, Tryz.ntmps151
  go_wp2
  go_ret2
  exact ⟨rfl, rfl⟩
/-- A block that was just laid may be kept too. -/
theorem Buf.keep {K : Nat → Prop} {w : World} {p : Nat} {a : Option Addr} {n c : Nat} {xs : List Value} {vu : Nat} {m : Int} {mo : Bool} {R : Nat → Option Value} (h : Buf K w p a n c xs vu m mo R) (o : Obj) : Buf (fun k => K k ∨ k = w.heap.size) (w.alloc o) p a n c xs vu m mo R := by
  have h' := h.alloc o
  refine ⟨fun k hk => ?_, fun hk => ?_, h'.blk, ?_⟩
  · rcases hk with hk | rfl
    · exact h'.hK k hk
    · simp
  · rcases hk with hk | hk
    · exact h.hp hk
    · have := h.lt; omega
  · have hlt : ∀ g cur, w.heap[g]? = some (.cells cur 5 (0, 0)) → g < w.heap.size := fun g cur hh => (Array.getElem?_eq_some_iff.1 hh).1
    rcases h.row with h1 | ⟨g, cur, ha, hg, hh, r⟩
    · exact .inl h1
    · refine .inr ⟨g, cur, ha, ⟨hg.1, fun hk => ?_⟩, ?_, r⟩
      · rcases hk with hk | hk
        · exact hg.2 hk
        · have := hlt g cur hh; omega
      · rw [((Below.refl w.heap.size w).alloc (Nat.le_refl _) o).block g (hlt g cur hh)]; exact hh
theorem Buf.anti {K K' : Nat → Prop} {w : World} {p : Nat} {a : Option Addr} {n c : Nat} {xs : List Value} {vu : Nat} {m : Int} {mo : Bool} {R : Nat → Option Value} (h : Buf K w p a n c xs vu m mo R) (hk : ∀ k, K' k → K k) : Buf K' w p a n c xs vu m mo R := by
  refine ⟨fun k hh => h.hK k (hk k hh), fun hh => h.hp (hk p hh), h.blk, ?_⟩
  rcases h.row with h1 | ⟨g, cur, ha, hg, r⟩
  · exact .inl h1
  · exact .inr ⟨g, cur, ha, ⟨hg.1, fun hh => hg.2 (hk g hh)⟩, r⟩
end Go.Proofs.YtlmcglaajmjanaaGreatDoor

namespace Go.Proofs.YtlmcglaajmjanaaGreatDoor
open Go.RowKit
theorem equal_any (s t : Value) (l m : List UInt8) (w : World) (hs : BAt w s l) (ht : BAt w t m) : Calls Tryz.prog 111 #[s, t] w fun e w' => e = .returned (.bool (l == m)) ∧ w = w' := by
  have h1 := hs.str 9 Tryz.underlying9
  have h2 := ht.str 9 Tryz.underlying9
  clear hs ht
  go_enter Tryz.func111, Tryz.ntmps111
  go_wp2
  go_ret
  exact ⟨rfl, rfl⟩
theorem hasSuffix_any (s t : Value) (l m : List UInt8) (w : World) (hs : BAt w s l) (ht : BAt w t m) : Calls Tryz.prog 110 #[s, t] w fun e w' => e = .returned (.bool (Lib.hasSuffix l m)) ∧ w = w' := by
  have h1 := hs.len 3
  have h2 := ht.len 3
  have hll : (l.length : Int) ≤ 9223372036854775807 := by obtain ⟨_, _, _, _, _, h, h', _⟩ := hs; omega
  have hml : (m.length : Int) ≤ 9223372036854775807 := by obtain ⟨_, _, _, _, _, h, h', _⟩ := ht; omega
  by_cases hl : m.length ≤ l.length
  · obtain ⟨v, hfr, hv⟩ := hs.from_ (l.length - m.length : Int) (by omega) (by omega)
    have hv := Lib.hid (hv _ hs)
    have ht := Lib.hid ht
    clear hs
    have hlI : (m.length : Int) ≤ (l.length : Int) := by omega
    go_enter Tryz.func110, Tryz.ntmps110
    go_wp2_with fail
    refine (equal_any _ _ _ _ w hv.out ht.out).mono ?_
    rintro e w' ⟨rfl, rfl⟩
    go_wp2
    go_ret
    refine ⟨?_, rfl⟩
    rw [← Lib.hasSuffix_of_drop]
    simp [hl]
  · have hlI : ¬ (m.length : Int) ≤ (l.length : Int) := by omega
    have hf : Lib.hasSuffix l m = false := by
      cases hb : Lib.hasSuffix l m with
      | false => rfl
      | true => exact absurd (suffix_len hb) hl
    clear hs ht
    go_enter Tryz.func110, Tryz.ntmps110
    go_wp2_with fail
    go_ret
    exact ⟨rfl, rfl⟩
theorem hasPrefix_any (s t : Value) (l m : List UInt8) (w : World) (hs : BAt w s l) (ht : BAt w t m) : Calls Tryz.prog 188 #[s, t] w fun e w' => e = .returned (.bool (l.take m.length == m)) ∧ w = w' := by
  have h1 := hs.len 3
  have h2 := ht.len 3
  by_cases hl : m.length ≤ l.length
  · obtain ⟨v, hfr, hv⟩ := hs.upto (m.length : Int) (by omega) (by omega)
    have hv := Lib.hid (hv _ hs)
    have ht := Lib.hid ht
    clear hs
    have hlI : (m.length : Int) ≤ (l.length : Int) := by omega
    go_enter Tryz.func188, Tryz.ntmps188
    go_wp2_with fail
    refine (equal_any _ _ _ _ w hv.out ht.out).mono ?_
    rintro e w' ⟨rfl, rfl⟩
    go_wp2
    go_ret
    refine ⟨?_, rfl⟩
    simp
  · have hlI : ¬ (m.length : Int) ≤ (l.length : Int) := by omega
    have hf : (l.take m.length == m) = false := by
      refine beq_eq_false_iff_ne.2 fun h => ?_
      have := congrArg List.length h
      simp at this; omega
    clear hs ht
    go_enter Tryz.func188, Tryz.ntmps188
    go_wp2_with fail
    go_ret
    exact ⟨rfl, rfl⟩
/-- The two tables that the decoder reads stand. -/
abbrev Tabs (w : World) : Prop := Lib.Utf8Tabs 1 2 w
theorem Tabs.below {w w' : World} {B : Nat} (h : Tabs w) (hb : Below B w w') (hB : 2 < B) : Tabs w' := by
  refine ⟨fun c hc => ?_, fun i hi => ⟨?_, ?_⟩⟩
  · have := h.1 c hc
    rw [← this]; exact World.cell?_of_block (hb.block 1 (by omega))
  · have := (h.2 i hi).1
    rw [← this]; exact World.cell?_of_block (hb.block 2 (by omega))
  · have := (h.2 i hi).2
    rw [← this]; exact World.cell?_of_block (hb.block 2 (by omega))
theorem decodeLast_any (s : Value) (l : List UInt8) (w : World) (hs : BAt w s l) (hT : Tabs w) : Calls Tryz.prog 112 #[s] w fun e w' => e = .returned (.tuple #[.int .i32 (Lib.decodeLastL l).1, .int .i64 (Lib.decodeLastL l).2]) ∧ Below w.heap.size w w' := by
  obtain ⟨p, b, o, c, rfl, hc, hm, hp, hx⟩ := hs
  rcases hp with ⟨rfl, hp⟩ | rfl
  · clear hx
    go_enter Tryz.func112, Tryz.ntmps112
    go_wp2
    go_ret2
    exact ⟨rfl, Below.refl _ _⟩
  · have e : (⟨l.toArray⟩ : ByteArray).size = l.length := by simp [ByteArray.size]
    have := Tryz.utf8_DecodeLastRune ⟨l.toArray⟩ b o c w (by omega) (fun j hj => by
      rw [e] at hj
      rw [hx j hj]
      congr 3
      simp [ByteArray.get!, hj]) (by omega) hT
    rw [e] at this
    simpa using this
end Go.Proofs.YtlmcglaajmjanaaGreatDoor

namespace Go.Proofs.YtlmcglaajmjanaaGreatDoor
open Go.RowKit
theorem hashBytes (w : World) : Calls Tryz.prog 109 #[] w (LitQ mkH w) := by
  have kc := fun (w : World) (C : Array Value) (n c : Nat) => Lib.run_convert_bytes_const (P := Tryz.prog) w 31 5 C n c Tryz.underlying31 Tryz.underlying5
  go_enter Tryz.func109, Tryz.ntmps109
  go_wp2
  go_ret
  exact LitQ.mk w mkH _ _ (by decide) rfl
theorem escapeBytes (w : World) : Calls Tryz.prog 83 #[] w (LitQ [63] w) := by
  have kc := fun (w : World) (C : Array Value) (n c : Nat) => Lib.run_convert_bytes_const (P := Tryz.prog) w 31 5 C n c Tryz.underlying31 Tryz.underlying5
  go_enter Tryz.func83, Tryz.ntmps83
  go_wp2
  go_ret
  exact LitQ.mk w [63] _ _ (by decide) rfl

theorem Own.upto {w : World} {B : Nat} {v : Value} {l : List UInt8} (h : Own w B v l) (hi : Int) (h0 : 0 ≤ hi) (h1 : hi ≤ l.length) :
    ∃ v', (∀ w', (Instr.sliceAt 31 v none (some (.int .i64 hi)) none).run Tryz.prog w' = .ok v' w') ∧ (∀ W, Own W B v l → Own W B v' (l.take hi.toNat)) ∧ v'.ownBlock = v.ownBlock := by
  obtain ⟨_, h2⟩ := h
  rcases h2 with ⟨rfl, hn⟩ | ⟨g, cap, cur, rfl, hg, hh, hc, hm, hcs, ht⟩
  · have hl : l = [] := List.eq_nil_of_length_eq_zero hn
    subst hl
    obtain rfl : hi = 0 := by simp at h1; omega
    exact ⟨.slice none 0 0, fun w' => slice_hi none 0 0 0 (by omega) (by omega) (fun x hx => by cases hx) w', fun W hW => hW, rfl⟩
  · refine ⟨_, fun w' => slice_hi (some ⟨g, 0, none⟩) l.length cap hi h0 (by omega) (fun x hx => by cases hx; rfl) w', ?_, rfl⟩
    rintro W ⟨_, h2'⟩
    have hlen : (l.take hi.toNat).length = hi.toNat := by simp; omega
    refine ⟨by simp [Lib.byteCells], .inr ?_⟩
    rcases h2' with ⟨hv, _⟩ | ⟨g', cap', cur', hv, hg', hh', hc', hm', hcs', ht'⟩
    · cases hv
    · injection hv with e1 e2 e3
      injection e1 with e1
      injection e1 with e1 _ _
      subst e1; subst e3
      refine ⟨g, cap, cur', by rw [hlen], hg', hh', by rw [hlen]; omega, hm', hcs', ?_⟩
      rw [hlen]
      have : cur'.toList.take (hi.toNat * 1) = (cur'.toList.take (l.length * 1)).take hi.toNat := by rw [List.take_take]; congr 1; omega
      rw [this, ht']; simp [Lib.byteCells, List.map_take]
end Go.Proofs.YtlmcglaajmjanaaGreatDoor

namespace Go.Proofs.YtlmcglaajmjanaaGreatDoor
open Go.RowKit
def EscQ (s : Value) (l goal : List UInt8) (w : World) (e : Ending) (w' : World) : Prop := ∃ v, e = .returned v ∧ Hid ((v = s ∧ goal = l) ∨ Own w' w.heap.size v goal) ∧ Below w.heap.size w w'
def EscAt (brk : Bool) (l goal : List UInt8) (i : Nat) (out : List UInt8) : Prop := escGo brk out (l.drop i) = goal ∧ out.length ≤ 7 * i
/-- What the loop has made: nothing of its own yet, or a row that holds acc; out is that and what is pending from k on. -/
def EscS (wr : World) (B : Nat) (s rv : Value) (l : List UInt8) (cp : Bool) (k i : Nat) (out : List UInt8) : Prop :=
  (cp = false ∧ rv = s ∧ k = 0 ∧ out = l.take i) ∨ (cp = true ∧ ∃ acc, Own wr B rv acc ∧ acc ++ (l.take i).drop k = out ∧ acc.length ≤ 7 * k)
theorem Own.base {w : World} {B B' : Nat} {v : Value} {l : List UInt8} (h : Own w B v l) (hB : B' ≤ B) : Own w B' v l := by
  obtain ⟨h1, h2⟩ := h
  refine ⟨h1, ?_⟩
  rcases h2 with h2 | ⟨g, cap, cur, hv, hg, r⟩
  · exact .inl h2
  · exact .inr ⟨g, cap, cur, hv, Nat.le_trans hB hg, r⟩
theorem Own.make' (w : World) (nI : Int) (n : Nat) (hnn : nI = n) (hn : n ≤ 1000000) :
    ∃ w', (Instr.makeSlice 31 (.int .i64 0) (.int .i64 nI)).run Tryz.prog w = .ok (.slice (some ⟨w.heap.size, 0, none⟩) 0 n) w' ∧ Own w' w.heap.size (.slice (some ⟨w.heap.size, 0, none⟩) 0 n) [] ∧ Below w.heap.size w w' := by
  subst hnn; exact Own.make w n hn
theorem isMk_of {l : List UInt8} (h : l = mkS ∨ l = mkE ∨ l = mkH) : isMk l = true := by
  rcases h with rfl | rfl | rfl <;> rfl
theorem isMk_not {l : List UInt8} (h1 : (l == mkS) = false) (h2 : (l == mkE) = false) (h3 : (l == mkH) = false) : isMk l = false := by
  unfold isMk; rw [h1, h2, h3]; rfl
theorem isMk_short {l : List UInt8} (h : l.length < 3) : isMk l = false := by
  refine isMk_not ?_ ?_ ?_ <;> refine beq_eq_false_iff_ne.2 fun hn => ?_ <;> subst hn <;> simp [mkS, mkE, mkH] at h
theorem drop_head {l : List UInt8} {i : Nat} (h : i < l.length) : l.drop i = l.getD i 0 :: l.drop (i + 1) := by
  rw [List.drop_eq_getElem_cons h]; simp [List.getD, h]
theorem EscAt.mk {brk : Bool} {l goal out : List UInt8} {i : Nat} (h : EscAt brk l goal i out) (hx : (brk && l.getD i 0 == 10) = false) (hi : i < l.length) (hm : isMk ((l.drop i).take 3) = true) : EscAt brk l goal (i + 3) (out ++ [63]) := by
  refine ⟨?_, by have := h.2; simp; omega⟩
  rw [← h.1, escGo_mk out (by rw [drop_head hi]; simpa using hx) hm, List.drop_drop]
theorem EscAt.plain {brk : Bool} {l goal out : List UInt8} {i : Nat} (h : EscAt brk l goal i out) (hx : (brk && l.getD i 0 == 10) = false) (hi : i < l.length) (hm : isMk ((l.drop i).take 3) = false) : EscAt brk l goal (i + 1) (out ++ [l.getD i 0]) := by
  refine ⟨?_, by have := h.2; simp; omega⟩
  rw [← h.1]
  rw [drop_head hi] at hm ⊢
  rw [escGo_plain out hx hm]
theorem EscS.plain {wr : World} {B : Nat} {s rv : Value} {l : List UInt8} {cp : Bool} {k i : Nat} {out : List UInt8} (h : EscS wr B s rv l cp k i out) (hi : i < l.length) (hk : k ≤ i) : EscS wr B s rv l cp k (i + 1) (out ++ [l.getD i 0]) := by
  have ht : l.take (i + 1) = l.take i ++ [l.getD i 0] := by rw [List.take_succ_eq_append_getElem hi]; simp [List.getD, hi]
  rcases h with ⟨a, b, c, d⟩ | ⟨a, acc, b, c, d⟩
  · exact .inl ⟨a, b, c, by rw [d, ht]⟩
  · refine .inr ⟨a, acc, b, ?_, d⟩
    rw [ht, List.drop_append_of_le_length (by simp; omega), ← List.append_assoc, c]
theorem nl_span : ∀ r : List UInt8, ∃ n, r.takeWhile (· == 10) = r.take n ∧ r.dropWhile (· == 10) = r.drop n ∧ n ≤ r.length ∧ (∀ t, t < n → r.getD t 0 = 10) ∧ (n < r.length → r.getD n 0 ≠ 10) ∧ (r.getD 0 0 = 10 → r ≠ [] → 0 < n) := by
  intro r
  induction r with
  | nil => exact ⟨0, rfl, rfl, Nat.le_refl _, fun t ht => absurd ht (by omega), fun h => by simp at h, fun _ h => absurd rfl h⟩
  | cons x r ih =>
    obtain ⟨n, h1, h2, h3, h4, h5, h6⟩ := ih
    by_cases hx : x = 10
    · subst hx
      refine ⟨n + 1, by simp [h1], by simp [h2], by simp; omega, ?_, ?_, fun _ _ => by omega⟩
      · intro t ht
        cases t with
        | zero => rfl
        | succ t => simpa using h4 t (by omega)
      · intro hn
        simpa using h5 (by simpa using hn)
    · refine ⟨0, by simp [hx], by simp [hx], by omega, fun t ht => absurd ht (by omega), fun _ => by simpa using hx, fun h _ => absurd (by simpa using h) hx⟩
theorem nl_run (l : List UInt8) (i : Nat) (hi : i < l.length) (hx : l.getD i 0 = 10) : ∃ j, i < j ∧ j ≤ l.length ∧ (∀ t, i ≤ t → t < j → l.getD t 0 = 10) ∧ (j < l.length → l.getD j 0 ≠ 10) ∧ (l.take j).drop i = (l.drop i).takeWhile (· == 10) ∧ l.drop j = (l.drop i).dropWhile (· == 10) := by
  obtain ⟨n, h1, h2, h3, h4, h5, h6⟩ := nl_span (l.drop i)
  have hg : ∀ t, (l.drop i).getD t 0 = l.getD (i + t) 0 := by intro t; simp [List.getD, List.getElem?_drop]
  simp only [List.length_drop] at h3 h5
  have h0 := h6 (by rw [hg]; exact hx) (by intro hn; have := congrArg List.length hn; simp at this; omega)
  refine ⟨i + n, by omega, by omega, fun t ht1 ht2 => ?_, fun hn => ?_, ?_, ?_⟩
  · have := h4 (t - i) (by omega)
    rwa [hg, show i + (t - i) = t by omega] at this
  · rw [← hg]; exact h5 (by omega)
  · rw [h1, List.drop_take]; congr 1; omega
  · rw [h2, List.drop_drop]
theorem cut_le (out : List UInt8) : (if Lib.hasSuffix out mkS then out.take (out.length - 3) else out ++ mkE).length ≤ out.length + 3 := by
  split
  · simp; omega
  · simp [mkE]
end Go.Proofs.YtlmcglaajmjanaaGreatDoor
