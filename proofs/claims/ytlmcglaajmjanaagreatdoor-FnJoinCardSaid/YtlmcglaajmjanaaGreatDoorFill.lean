/- What is written behind a buffer's text: growing, and filling the room. -/
import Derived.Test.YtlmcglaajmjanaaGreatDoorGrow
import Derived.Test.YtlmcglaajmjanaaGreatDoorByt
namespace Go.Proofs.YtlmcglaajmjanaaGreatDoor
open Go.RowKit
/-- A buffer that holds the text l. -/
def BufL (K : Nat → Prop) (w : World) (p : Nat) (l : List UInt8) (vu : Nat) (m : Int) (mo : Bool) (R : Nat → Option Value) : Prop := ∃ a c, Buf K w p a l.length c (Lib.byteCells l) vu m mo R
section
variable {K : Nat → Prop} {w : World} {p : Nat} {a : Option Addr} {n k c : Nat} {xs ys : List Value} {l : List UInt8} {vu : Nat} {m : Int} {mo : Bool} {R : Nat → Option Value}
theorem Buf.none_ (h : Buf K w p none n c xs vu m mo R) : n = 0 ∧ c = 0 ∧ xs = [] := by
  rcases h.row with ⟨_, h1, h2, h3⟩ | ⟨g, cur, ha, _⟩
  · exact ⟨h1, h2, h3⟩
  · cases ha
theorem grow_any (h : Buf K w p a l.length c (Lib.byteCells l) vu m mo R) (kI : Int) (hkk : kI = k) (hk : c < l.length + k) (hl : l.length ≤ 1000000) (hk2 : k ≤ 1000000) :
    Calls Tryz.prog 152 #[.pointer (some ⟨p, 0, none⟩), .int .i64 kI] w (GrowQ K p w (.int .i64 l.length) fun w' => ∃ a c g, g.length = k ∧ Buf K w' p a (l.length + k) c (Lib.byteCells l ++ g) vu m mo R) := by
  by_cases hna : a = none → 64 < k
  · exact grow_some h kI k hkk hk hl hk2 hna
  · have ha : a = none := Classical.byContradiction fun hn => hna fun h => absurd h hn
    have hk64 : k ≤ 64 := Classical.byContradiction fun hn => hna fun _ => by omega
    subst ha
    obtain ⟨h1, h2, h3⟩ := h.none_
    have hl0 : l = [] := List.eq_nil_of_length_eq_zero h1
    subst hl0; subst h2
    exact grow_nil h kI k hkk (by simpa using hk) hk64
theorem Buf.blk_other {w : World} (h : Buf K w p a n c xs vu m mo R) (g : Nat) (hg : g ≠ p) (cur : Array Value) :
    ∃ cs T, T ≠ 5 ∧ (w.setRow g cur).heap[p]? = some (.cells cs T (0, 0)) ∧ cs[0]? = some (.slice a n c) ∧ cs[1]? = some (.int .i64 vu) ∧ cs[2]? = some (.int .i64 m) ∧ cs[3]? = some (.bool mo) ∧ ∀ i, 4 ≤ i → cs[i]? = R i := by
  obtain ⟨cs, T, hT, hp, r⟩ := h.blk
  exact ⟨cs, T, hT, by rw [setRow_other w g p _ (Ne.symm hg)]; exact hp, r⟩
/-- Behind a write of vs into the room of a buffer's row. -/
theorem Buf.filled (h : Buf K w p a (n + k) c (xs ++ ys) vu m mo R) (hx : xs.length = n) {g : Nat} {cur : Array Value} (ha : a = some ⟨g, 0, none⟩) (hg : g ≠ p ∧ ¬ K g) (hh : w.heap[g]? = some (.cells cur 5 (0, 0))) (hc : cur.size = c) (vs : List Value) (hv : vs.length = k) :
    Buf K (w.setRow g (cur.toList.take n ++ vs ++ cur.toList.drop (n + vs.length)).toArray) p a (n + k) c (xs ++ vs) vu m mo R ∧ Kp K w (w.setRow g (cur.toList.take n ++ vs ++ cur.toList.drop (n + vs.length)).toArray) := by
  have hle := h.le
  have ht : cur.toList.take n = xs := by
    rcases h.row with ⟨h1, _⟩ | ⟨g', cur', ha', hg', hh', h1, h2, h3, h4⟩
    · rw [h1] at ha; cases ha
    · rw [ha] at ha'
      cases ha'
      rw [hh] at hh'
      cases hh'
      have := congrArg (List.take n) h4
      rw [List.take_take, List.take_left' hx] at this
      rw [← this]; congr 1; omega
  refine ⟨⟨fun k hk => by simpa [World.setRow] using h.hK k hk, h.hp, h.blk_other g hg.1 _, .inr ⟨g, _, ha, hg, setRow_heap w g cur _ 5 _ hh, hle.1, hle.2.1, ?_, ?_⟩⟩, (Kp.refl K w).setRow hg.2 _⟩
  · simp [hv]; omega
  · rw [ht, hv]
    have : (xs ++ vs).length = n + k := by simp [hx, hv]
    rw [List.toList_toArray, List.take_left' this]
theorem Buf.fill (h : Buf K w p a (n + k) c (xs ++ ys) vu m mo R) (hx : xs.length = n) (nI : Int) (hnI : nI = n) :
    ∃ d dc, (∀ w', (Instr.sliceAt 31 (.slice a (n + k) c) (some (.int .i64 nI)) none none).run Tryz.prog w' = .ok (.slice d k dc) w') ∧
      (k ≠ 0 → ∃ g cur, d = some ⟨g, n, none⟩ ∧ a = some ⟨g, 0, none⟩ ∧ (g ≠ p ∧ ¬ K g) ∧ w.heap[g]? = some (.cells cur 5 (0, 0)) ∧ cur.size = c ∧ n + k ≤ c) := by
  subst hnI
  have hle := h.le
  have hr := fun w' => run_slice_l (P := Tryz.prog) w' 31 a (n + k) c und_bytes .i64 (n : Int) (by omega) (by omega)
  refine ⟨if c = n then a else a.map (·.add (n * 1)), c - n, fun w' => ?_, fun hk => ?_⟩
  · rw [run_sliceAt_slice w' _ _ _ _ _ und_bytes, hr w', elem_bytes, sizeOf_byte]
    simp [Result.andThen, sliced]
  · rcases h.row with ⟨_, h1, _⟩ | ⟨g, cur, ha, hg, hh, h1, h2, h3, h4⟩
    · omega
    · refine ⟨g, cur, ?_, ha, hg, hh, h3, h1⟩
      rw [if_neg (by omega), ha]; simp [add_plain]
theorem Buf.fillS (h : Buf K w p a (n + k) c (xs ++ ys) vu m mo R) (hx : xs.length = n) (nI : Int) (hnI : nI = n) (t : ByteArray) (ht : t.size = k) :
    ∃ v' w2, (∀ w', (Instr.sliceAt 31 (.slice a (n + k) c) (some (.int .i64 nI)) none none).run Tryz.prog w' = .ok v' w') ∧
      (Builtin.copy_ #[31, 9] 3 #[v', .string t]).run Tryz.prog w = .ok (.int .i64 k) w2 ∧ Buf K w2 p a (n + k) c (xs ++ Lib.byteCells t.data.toList) vu m mo R ∧ Kp K w w2 := by
  obtain ⟨d, dc, hs, hd⟩ := h.fill hx nI hnI
  have hle := h.le.2.2
  have hbl : (Lib.byteCells t.data.toList).length = k := by rw [Lib.byteCells_length, ← Lib.size_eq, ht]
  by_cases hk : k = 0
  · subst hk
    refine ⟨_, w, hs, Lib.run_copy_empty_string w _ _ _ 5 _ _ _ _ Tryz.underlying31 (by rw [byte_size1]; rfl) ht, ?_, Kp.refl K w⟩
    have h1 : Lib.byteCells t.data.toList = [] := List.eq_nil_of_length_eq_zero hbl
    have h2 : ys = [] := List.eq_nil_of_length_eq_zero (by simp at hle; omega)
    rw [h1]; rw [h2] at h; exact h
  · obtain ⟨g, cur, rfl, ha, hg, hh, hc, hnc⟩ := hd hk
    have hr := Lib.run_copy_row_string (P := Tryz.prog) w 31 9 3 5 g n k dc t cur 5 Tryz.underlying31 byte_size1 hh (by omega) (by omega)
    have hf := h.filled hx ha hg hh hc _ hbl
    rw [hbl] at hf
    rw [ht] at hr
    exact ⟨_, _, hs, hr, hf.1, hf.2⟩
theorem Buf.fillB (h : Buf K w p a (n + k) c (xs ++ ys) vu m mo R) (hx : xs.length = n) (nI : Int) (hnI : nI = n) (s : Value) (t : List UInt8) (hs : BAt w s t) (ht : t.length = k) :
    ∃ v' w2, (∀ w', (Instr.sliceAt 31 (.slice a (n + k) c) (some (.int .i64 nI)) none none).run Tryz.prog w' = .ok v' w') ∧
      (Builtin.copy_ #[31, 31] 3 #[v', s]).run Tryz.prog w = .ok (.int .i64 k) w2 ∧ Buf K w2 p a (n + k) c (xs ++ Lib.byteCells t) vu m mo R ∧ Kp K w w2 := by
  obtain ⟨d, dc, hsl, hd⟩ := h.fill hx nI hnI
  have hle := h.le.2.2
  have hbl : (Lib.byteCells t).length = k := by rw [Lib.byteCells_length, ht]
  obtain ⟨sp, b, o, sc, rfl, hsc, hm, hp, hcell⟩ := hs
  by_cases hk : k = 0
  · subst hk
    refine ⟨_, w, hsl, run_copy_none (P := Tryz.prog) w _ _ _ 5 _ _ _ _ _ _ Tryz.underlying31 byte_size1 (by rw [ht]; rfl), ?_, Kp.refl K w⟩
    have h1 : Lib.byteCells t = [] := List.eq_nil_of_length_eq_zero hbl
    have h2 : ys = [] := List.eq_nil_of_length_eq_zero (by simp at hle; omega)
    rw [h1]; rw [h2] at h; exact h
  · obtain ⟨g, cur, rfl, ha, hg, hh, hc, hnc⟩ := hd hk
    rcases hp with ⟨hp, _⟩ | rfl
    · rw [hp] at ht; exact absurd ht.symm hk
    · have hr := run_copy_row (P := Tryz.prog) w 31 31 3 5 g n k dc ⟨b, o, none⟩ t.length sc cur 5 (Lib.byteCells t) Tryz.underlying31 byte_size1 hh
        (by rw [hbl, ht]; exact (Nat.min_self k).symm) (by
          intro j v hj
          simp only [Lib.byteCells, List.getElem?_map, Option.map_eq_some_iff] at hj
          obtain ⟨x, hx1, rfl⟩ := hj
          obtain ⟨hj1, rfl⟩ := List.getElem?_eq_some_iff.1 hx1
          rw [add_plain]; exact hcell j hj1) (by rw [hbl]; omega) (Lib.byteCells_one t)
      have hf := h.filled hx ha hg hh hc _ hbl
      rw [hbl] at hf
      rw [hbl] at hr
      exact ⟨_, _, hsl, hr, hf.1, hf.2⟩
end
end Go.Proofs.YtlmcglaajmjanaaGreatDoor
