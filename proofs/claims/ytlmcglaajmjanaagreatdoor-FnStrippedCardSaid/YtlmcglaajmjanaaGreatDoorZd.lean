/- Walks of makeSlice and grow. -/
/- What is written behind a buffer's text: growing, and filling the room. -/
/- Walks of bytes.LastIndex and what it calls, at a separator of two bytes or more: the answer is -1 or a place where the separator lies. (That it is the last such place is not said: nothing here asks it.) -/
import Derived.Test.YtlmcglaajmjanaaGreatDoorZc
import Derived.Deep.OwnRows
import Derived.Laws.CopyOwn
import Derived.Deep.QuietTactic
import Derived.BigQuiet
namespace Go.Proofs.YtlmcglaajmjanaaGreatDoor
open Go.RowKit
theorem makeSlice_idle (w : World) :
    CallsD Tryz.prog 189 #[] .returning w fun e u' w' => e = .returned (.tuple #[]) ∧ u' = .returning ∧ w' = w := by
  refine callsD_of_wpS Tryz.func189 rfl fun c₀ cs hu => ?_
  apply wpS_seq
  apply wpS_region
  simp [wpOpsS, go_sem, recoverD, hu, Tryz.ntmps189, Exit.thenS]
  refine wpS_cond (t := false) (by simp [Act.eval, Array.replicate]) ?_
  simp only [Bool.false_eq_true, if_false]
  refine wpS_of_wp (wp_skip ?_)
  cases c₀
  simp_all [bodyPostS, results, Tryz.results189]

theorem makeSlice_any (nI : Int) (n : Nat) (hnn : nI = n) (hn : n ≤ 8000000) (w : World) :
    Calls Tryz.prog 174 #[.int .i64 nI] w fun e w' => e = .returned (.slice (some ⟨w.heap.size, 0, none⟩) n n) ∧ w' = w.alloc (.cells (madeCells #[.int .u8 0] n) 5) := by
  subst hnn
  have hmk := fun w => run_make_row' (P := Tryz.prog) 31 5 (.int .u8 0) 1 Tryz.underlying31 Tryz.infoB rfl .i64 .i64 n (by omega) (by omega) w
  go_enter_defers Tryz.func174, Tryz.ntmps174
  go_wp2
  refine leaves_cons (f := 189) (args := #[]) (by simp) (by simp [go_sem]) ?_
  refine (makeSlice_idle _).mono ?_
  rintro e u' w'' ⟨rfl, rfl, rfl⟩
  simp [Leaves, settle, results, Tryz.results174, go_sem]
/-- Behind 'b.buf = buf' and 'b.buf = b.buf[:m+n]', buf a new row. -/
theorem Buf.moved {K : Nat → Prop} {w w1 : World} {p : Nat} {a : Option Addr} {n c : Nat} {xs : List Value} {vu : Nat} {m : Int} {mo : Bool} {R : Nat → Option Value} (h : Buf K w p a n c xs vu m mo R) (hb : Below w.heap.size w w1) (N : Nat) (cur : Array Value) (hN : N ≠ p ∧ ¬ K N) (hh : w1.heap[N]? = some (.cells cur 5 (0, 0))) (c' : Nat) (hc : cur.size = c') (hc2 : c' ≤ 9223372036854775807) (k : Nat) (hk : n + k ≤ c') (ht : cur.toList.take n = xs) (v : Value) :
    ∃ g, g.length = k ∧ Buf K ((w1.setCell ⟨p, 0, none⟩ v).setCell ⟨p, 0, none⟩ (.slice (some ⟨N, 0, none⟩) (n + k) c')) p (some ⟨N, 0, none⟩) (n + k) c' (xs ++ g) vu m mo R := by
  have h1 := h.below hb
  obtain ⟨ys, hy1, hy2⟩ := Lib.take_split cur.toList n k (by rw [Array.length_toList]; omega)
  refine ⟨ys, hy1, ?_⟩
  have e : (w1.setCell ⟨p, 0, none⟩ v).setCell ⟨p, 0, none⟩ (.slice (some ⟨N, 0, none⟩) (n + k) c') = w1.setCell ⟨p, 0, none⟩ (.slice (some ⟨N, 0, none⟩) (n + k) c') := by
    obtain ⟨cs, T, _, hp, _⟩ := h1.blk
    simp only [World.setCell]
    congr 1
    apply Array.ext
    · simp
    · intro i hi1 hi2
      simp only [Array.getElem_modify]
      by_cases hpi : p = i
      · subst hpi
        have hg : w1.heap[p]'(by simpa using hi1) = .cells cs T (0, 0) := by
          have := hp
          rw [Array.getElem?_eq_getElem (by simpa using hi1)] at this
          exact Option.some.inj this
        simp [hg]
      · simp [hpi]
  rw [e]
  exact h1.setSl (.inr ⟨N, cur, rfl, hN, hh, hk, hc2, hc, by rw [hy2, ht]⟩)

set_option maxRecDepth 100000 in
theorem grow_nil {K : Nat → Prop} {w : World} {p : Nat} {vu : Nat} {m : Int} {mo : Bool} {R : Nat → Option Value} (h : Buf K w p none 0 0 [] vu m mo R) (kI : Int) (k : Nat) (hkk : kI = k) (hk0 : 0 < k) (hk : k ≤ 64) :
    Calls Tryz.prog 152 #[.pointer (some ⟨p, 0, none⟩), .int .i64 kI] w (GrowQ K p w (.int .i64 0) fun w' => ∃ a c g, g.length = k ∧ Buf K w' p a (0 + k) c ([] ++ g) vu m mo R) := by
  subst hkk
  obtain ⟨i0, hi, hz0, hz1, hz2⟩ := info_parts Tryz.infoB
  have c0 := h.c0
  have f0 := h.fz 0
  have hmk := fun w => run_make (P := Tryz.prog) w 31 5 i0 (.int .u8 0) Tryz.underlying31 hi hz0 .i64 .i64 k 64 (by omega) (by omega) (by rw [hz2]; omega) (by omega)
  have hsz := h.lt
  have hq := fun w => Lib.run_eql_slice_nil_nil (P := Tryz.prog) w (t := 31) 0 0 Tryz.underlying31
  have H := Lib.hid h; clear h
  go_enter Tryz.func152, Tryz.ntmps152
  go_wp2_with fail
  refine (tryGrow_no H.out k k rfl (by omega)).mono ?_
  rintro e w' ⟨rfl, rfl⟩
  go_wp2
  go_ret
  have hw : (w.setCell ⟨p, 0, none⟩ (.slice (some ⟨w.heap.size, 0, none⟩) k 64)).alloc (.cells (madeCells #[.int .u8 0] 64) 5) = (w.alloc (.cells (madeCells #[.int .u8 0] 64) 5)).setCell ⟨p, 0, none⟩ (.slice (some ⟨w.heap.size, 0, none⟩) k 64) := (World.setCell_alloc_past _ _ _ _ hsz).symm
  have hcs : (madeCells #[Value.int .u8 0] 64).size = 64 := size_madeCells _ _
  have hgk : ((madeCells #[Value.int .u8 0] 64).toList.take k).length = k := by rw [List.length_take, Array.length_toList, hcs]; omega
  refine ⟨rfl, ⟨some ⟨w.heap.size, 0, none⟩, 64, _, hgk, ?_⟩, ?_⟩
  · rw [hw]
    rw [Nat.zero_add]
    exact (H.out.alloc _).setSl (.inr ⟨w.heap.size, _, rfl, H.out.fresh (Nat.le_refl _), heap_alloc_new w _, by omega, by omega, hcs, rfl⟩)
  · rw [hw]
    exact (Kp.of_below H.out.hK ((Below.refl _ w).alloc (Nat.le_refl _) _)).setCell H.out.hp _ _

/-- copy whose run is known. -/
theorem wpList_copy_known (w : World) {ops : Array Oper} {rest : List Oper} {o : Oper} {a : Act} {Q : Exit → Act → World → Prop} (hgd : o.guard = none) (s x : Operand) (t1 t2 : TypeId)
    (ho : o.op = .call { callee := .builtin .copy, args := #[s, x], argTypes := #[t1, t2] }) (v u : Value) (hs : a.eval s = v) (hx : a.eval x = u) {v' : Value} {w' : World}
    (hr : (Builtin.copy_ #[t1, t2] o.type #[v, u]).run Tryz.prog w = .ok v' w') (h : wpList Tryz.prog ops Q rest (a.put o.dst v') w') : wpList Tryz.prog ops Q (o :: rest) a w := by
  refine wpList_plain hgd fun K hK => ?_
  unfold Oper.wp execOp
  simp only [ho, resolve, invoke, builtin, Sem.run_bind, Sem.run_pure, Result.andThen_ok, List.map_toArray, List.map_cons, List.map_nil, hs, hx, hr]
  exact hK _ _ h
theorem byte_size1 : (Tryz.prog.info? 5).map (·.size) = some 1 := by kernel_rfl

set_option maxHeartbeats 2000000 in
set_option maxRecDepth 100000 in
theorem grow_some {K : Nat → Prop} {w : World} {p : Nat} {a : Option Addr} {c : Nat} {l : List UInt8} {vu : Nat} {m : Int} {mo : Bool} {R : Nat → Option Value} (h : Buf K w p a l.length c (Lib.byteCells l) vu m mo R) (kI : Int) (k : Nat) (hkk : kI = k) (hk : c < l.length + k) (hl : l.length ≤ 1000000) (hk2 : k ≤ 1000000) (hna : a = none → 64 < k) :
    Calls Tryz.prog 152 #[.pointer (some ⟨p, 0, none⟩), .int .i64 kI] w (GrowQ K p w (.int .i64 l.length) fun w' => ∃ a c g, g.length = k ∧ Buf K w' p a (l.length + k) c (Lib.byteCells l ++ g) vu m mo R) := by
  subst hkk
  have c0 := h.c0
  have f0 := h.fz 0
  have hsz := h.lt
  have hle := h.le.1
  have hne : ((binOp .eql 31 (.slice a l.length c) (.slice none 0 0)).run Tryz.prog w = .ok (.bool a.isNone) w) := by
    cases a with
    | none => exact Lib.run_eql_slice_nil_nil w _ _ Tryz.underlying31
    | some x => exact Lib.run_eql_slice_some_nil w _ _ _ Tryz.underlying31
  have hnk : (a.isNone && decide ((k : Int) ≤ 64)) = false := by
    cases a with
    | none => have := hna rfl; simp; omega
    | some x => rfl
  generalize a.isNone = bn at hne hnk
  have H := Lib.hid h; clear h hna
  generalize hN : w.alloc (.cells (madeCells #[.int .u8 0] (2 * c + k)) 5) = w1
  have hcp : ∃ cur w2, (Builtin.copy_ #[31, 31] 3 #[.slice (some ⟨w.heap.size, 0, none⟩) (2 * c + k) (2 * c + k), .slice a l.length c]).run Tryz.prog w1 = .ok (.int .i64 l.length) w2 ∧ cur.size = 2 * c + k ∧ cur.toList.take l.length = Lib.byteCells l ∧ w2.heap[w.heap.size]? = some (.cells cur 5 (0, 0)) ∧ Below w.heap.size w w2 := by
    have hb1 : Below w.heap.size w w1 := by rw [← hN]; exact (Below.refl _ w).alloc (Nat.le_refl _) _
    have hh1 : w1.heap[w.heap.size]? = some (.cells (madeCells #[.int .u8 0] (2 * c + k)) 5 (0, 0)) := by rw [← hN]; exact heap_alloc_new w _
    have hms : (madeCells #[Value.int .u8 0] (2 * c + k)).size = 2 * c + k := size_madeCells _ _
    rcases H.out.row with ⟨h1, h2, h3, h4⟩ | ⟨g, cur, ha, hg, hh, h1, h2, h3, h4⟩
    · subst h1
      have hl0 : l = [] := List.eq_nil_of_length_eq_zero h2
      subst hl0
      refine ⟨_, w1, ?_, hms, by simp [Lib.byteCells], hh1, hb1⟩
      rw [h3]
      exact run_copy_nil Tryz.prog w1 _ _ _ 5 _ _ _ Tryz.underlying31 (by rw [byte_size1]; rfl)
    · subst ha
      have hbl : (Lib.byteCells l).length = l.length := Lib.byteCells_length l
      have hr := run_copy_row (P := Tryz.prog) w1 31 31 3 5 w.heap.size 0 (2 * c + k) (2 * c + k) ⟨g, 0, none⟩ l.length c (madeCells #[.int .u8 0] (2 * c + k)) 5 (Lib.byteCells l) Tryz.underlying31 byte_size1 hh1
        (by rw [hbl]; exact (Nat.min_eq_left (by omega)).symm) (by
          intro j v hj
          rw [add_plain, Nat.zero_add, hb1.cell (p := ⟨g, j, none⟩) (Array.getElem?_eq_some_iff.1 hh).1]
          have hj2 : j < l.length := by rw [← hbl]; exact (List.getElem?_eq_some_iff.1 hj).1
          rw [← h4, List.getElem?_take_of_lt hj2, Array.getElem?_toList] at hj
          simp [World.cell?, hh, hj]) (by rw [hbl, hms]; omega) (Lib.byteCells_one l)
      rw [hbl] at hr
      refine ⟨_, _, hr, ?_, ?_, setRow_heap w1 w.heap.size _ _ 5 _ hh1, hb1.trans ⟨rfl, rfl, rfl, by simp [World.setRow], fun k hk => setRow_other w1 w.heap.size k _ (by omega)⟩⟩
      · simp [hbl, hms]; omega
      · simp [hbl]
  obtain ⟨cur, w2, hcp, hcs, hct, hh2, hb2⟩ := hcp
  have c0' : w2.cell? ⟨p, 0, none⟩ = some (.slice a l.length c) := (hb2.cell (p := ⟨p, 0, none⟩) hsz).trans c0
  have f0' : w2.frozen? ⟨p, 0, none⟩ = false := (hb2.frozen (p := ⟨p, 0, none⟩) hsz).trans f0
  have c01 : w1.cell? ⟨p, 0, none⟩ = some (.slice a l.length c) := by rw [← hN]; exact ((Below.refl _ w).alloc (Nat.le_refl _) _).cell (p := ⟨p, 0, none⟩) hsz |>.trans c0
  have hsl := fun w' => slice_hi (some ⟨w.heap.size, 0, none⟩) (2 * c + k) (2 * c + k) (l.length + k) (by omega) (by omega) (fun x hx => by cases hx; rfl) w'
  have e1 : ((l.length : Int) + (k : Int)).toNat = l.length + k := by omega
  rw [e1] at hsl
  have hb1 : Below w.heap.size w w1 := by rw [← hN]; exact (Below.refl _ w).alloc (Nat.le_refl _) _
  have hcp2 := Lib.hid hcp; clear hcp
  have KK := Lib.hid (And.intro hb2 (And.intro hh2 hct)); clear hb2 hh2 hct hb1
  have hbn : bn = true → 64 < (k : Int) := by
    intro hb
    rw [hb] at hnk
    simp at hnk; omega
  clear hnk
  cases bn
  all_goals
    first | have h64 := hbn rfl | skip
    clear hbn
    go_enter Tryz.func152, Tryz.ntmps152
    go_wp2_with fail
    refine (tryGrow_no H.out k k rfl hk).mono ?_
    rintro e w' ⟨rfl, rfl⟩
    go_wp2_with fail
    refine (makeSlice_any (2 * c + k) (2 * c + k) (by omega) (by omega) _).mono ?_
    rintro e w' ⟨rfl, rfl⟩
    rw [hN]
    go_wp2_with (refine wpList_copy_known _ rfl _ _ _ _ rfl _ _ rfl rfl hcp2.out ?_)
    go_ret
    obtain ⟨hb2, hh2, hct⟩ := KK.out
    refine ⟨rfl, ?_, ?_⟩
    · obtain ⟨g, hg, hB⟩ := H.out.moved hb2 w.heap.size cur (H.out.fresh (Nat.le_refl _)) hh2 (2 * c + k) hcs (by omega) k (by omega) hct (.slice (some ⟨w.heap.size, 0, none⟩) (2 * c + k : Nat) (2 * c + k : Nat))
      exact ⟨_, _, g, hg, hB⟩
    · exact ((Kp.of_below H.out.hK hb2).setCell H.out.hp _ _).setCell H.out.hp _ _
end Go.Proofs.YtlmcglaajmjanaaGreatDoor

namespace Go.Proofs.YtlmcglaajmjanaaGreatDoor
open Go.RowKit
/-- A buffer that holds the text l. -/
def BufL (K : Nat → Prop) (w : World) (p : Nat) (l : List UInt8) (vu : Nat) (m : Int) (mo : Bool) (R : Nat → Option Value) : Prop := ∃ a c, Buf K w p a l.length c (Lib.byteCells l) vu m mo R
section
variable {K : Nat → Prop} {w : World} {p : Nat} {a : Option Addr} {n k c : Nat} {xs ys : List Value} {l : List UInt8} {vu : Nat} {m : Int} {mo : Bool} {R : Nat → Option Value}
theorem Buf.none_ (h : Buf K w p none n c xs vu m mo R) : n = 0 ∧ c = 0 ∧ xs = [] := by
  rcases h.row with ⟨_, h1, h2, h3⟩ | ⟨g, cur, ha, _⟩
  · exact ⟨h1, h2, h3⟩
  · cases ha
theorem grow_any (h : Buf K w p a l.length c (Lib.byteCells l) vu m mo R) (kI : Int) (hkk : kI = k) (hk : c < l.length + k) (hl : l.length ≤ 1000000) (hk2 : k ≤ 1000000) :
    Calls Tryz.prog 152 #[.pointer (some ⟨p, 0, none⟩), .int .i64 kI] w (GrowQ K p w (.int .i64 l.length) fun w' => ∃ a c g, g.length = k ∧ Buf K w' p a (l.length + k) c (Lib.byteCells l ++ g) vu m mo R) := by
  by_cases hna : a = none → 64 < k
  · exact grow_some h kI k hkk hk hl hk2 hna
  · have ha : a = none := Classical.byContradiction fun hn => hna fun h => absurd h hn
    have hk64 : k ≤ 64 := Classical.byContradiction fun hn => hna fun _ => by omega
    subst ha
    obtain ⟨h1, h2, h3⟩ := h.none_
    have hl0 : l = [] := List.eq_nil_of_length_eq_zero h1
    subst hl0; subst h2
    exact grow_nil h kI k hkk (by simpa using hk) hk64
theorem Buf.blk_other {w : World} (h : Buf K w p a n c xs vu m mo R) (g : Nat) (hg : g ≠ p) (cur : Array Value) :
    ∃ cs T, T ≠ 5 ∧ (w.setRow g cur).heap[p]? = some (.cells cs T (0, 0)) ∧ cs[0]? = some (.slice a n c) ∧ cs[1]? = some (.int .i64 vu) ∧ cs[2]? = some (.int .i64 m) ∧ cs[3]? = some (.bool mo) ∧ ∀ i, 4 ≤ i → cs[i]? = R i := by
  obtain ⟨cs, T, hT, hp, r⟩ := h.blk
  exact ⟨cs, T, hT, by rw [setRow_other w g p _ (Ne.symm hg)]; exact hp, r⟩
/-- Behind a write of vs into the room of a buffer's row. -/
theorem Buf.filled (h : Buf K w p a (n + k) c (xs ++ ys) vu m mo R) (hx : xs.length = n) {g : Nat} {cur : Array Value} (ha : a = some ⟨g, 0, none⟩) (hg : g ≠ p ∧ ¬ K g) (hh : w.heap[g]? = some (.cells cur 5 (0, 0))) (hc : cur.size = c) (vs : List Value) (hv : vs.length = k) :
    Buf K (w.setRow g (cur.toList.take n ++ vs ++ cur.toList.drop (n + vs.length)).toArray) p a (n + k) c (xs ++ vs) vu m mo R ∧ Kp K w (w.setRow g (cur.toList.take n ++ vs ++ cur.toList.drop (n + vs.length)).toArray) := by
  have hle := h.le
  have ht : cur.toList.take n = xs := by
    rcases h.row with ⟨h1, _⟩ | ⟨g', cur', ha', hg', hh', h1, h2, h3, h4⟩
    · rw [h1] at ha; cases ha
    · rw [ha] at ha'
      cases ha'
      rw [hh] at hh'
      cases hh'
      have := congrArg (List.take n) h4
      rw [List.take_take, List.take_left' hx] at this
      rw [← this]; congr 1; omega
  refine ⟨⟨fun k hk => by simpa [World.setRow] using h.hK k hk, h.hp, h.blk_other g hg.1 _, .inr ⟨g, _, ha, hg, setRow_heap w g cur _ 5 _ hh, hle.1, hle.2.1, ?_, ?_⟩⟩, (Kp.refl K w).setRow hg.2 _⟩
  · simp [hv]; omega
  · rw [ht, hv]
    have : (xs ++ vs).length = n + k := by simp [hx, hv]
    rw [List.toList_toArray, List.take_left' this]
theorem Buf.fill (h : Buf K w p a (n + k) c (xs ++ ys) vu m mo R) (hx : xs.length = n) (nI : Int) (hnI : nI = n) :
    ∃ d dc, (∀ w', (Instr.sliceAt 31 (.slice a (n + k) c) (some (.int .i64 nI)) none none).run Tryz.prog w' = .ok (.slice d k dc) w') ∧
      (k ≠ 0 → ∃ g cur, d = some ⟨g, n, none⟩ ∧ a = some ⟨g, 0, none⟩ ∧ (g ≠ p ∧ ¬ K g) ∧ w.heap[g]? = some (.cells cur 5 (0, 0)) ∧ cur.size = c ∧ n + k ≤ c) := by
  subst hnI
  have hle := h.le
  have hr := fun w' => run_slice_l (P := Tryz.prog) w' 31 a (n + k) c und_bytes .i64 (n : Int) (by omega) (by omega)
  refine ⟨if c = n then a else a.map (·.add (n * 1)), c - n, fun w' => ?_, fun hk => ?_⟩
  · rw [run_sliceAt_slice w' _ _ _ _ _ und_bytes, hr w', elem_bytes, sizeOf_byte]
    simp [Result.andThen, sliced]
  · rcases h.row with ⟨_, h1, _⟩ | ⟨g, cur, ha, hg, hh, h1, h2, h3, h4⟩
    · omega
    · refine ⟨g, cur, ?_, ha, hg, hh, h3, h1⟩
      rw [if_neg (by omega), ha]; simp [add_plain]
theorem Buf.fillS (h : Buf K w p a (n + k) c (xs ++ ys) vu m mo R) (hx : xs.length = n) (nI : Int) (hnI : nI = n) (t : ByteArray) (ht : t.size = k) :
    ∃ v' w2, (∀ w', (Instr.sliceAt 31 (.slice a (n + k) c) (some (.int .i64 nI)) none none).run Tryz.prog w' = .ok v' w') ∧
      (Builtin.copy_ #[31, 9] 3 #[v', .string t]).run Tryz.prog w = .ok (.int .i64 k) w2 ∧ Buf K w2 p a (n + k) c (xs ++ Lib.byteCells t.data.toList) vu m mo R ∧ Kp K w w2 := by
  obtain ⟨d, dc, hs, hd⟩ := h.fill hx nI hnI
  have hle := h.le.2.2
  have hbl : (Lib.byteCells t.data.toList).length = k := by rw [Lib.byteCells_length, ← Lib.size_eq, ht]
  by_cases hk : k = 0
  · subst hk
    refine ⟨_, w, hs, Lib.run_copy_empty_string w _ _ _ 5 _ _ _ _ Tryz.underlying31 (by rw [byte_size1]; rfl) ht, ?_, Kp.refl K w⟩
    have h1 : Lib.byteCells t.data.toList = [] := List.eq_nil_of_length_eq_zero hbl
    have h2 : ys = [] := List.eq_nil_of_length_eq_zero (by simp at hle; omega)
    rw [h1]; rw [h2] at h; exact h
  · obtain ⟨g, cur, rfl, ha, hg, hh, hc, hnc⟩ := hd hk
    have hr := Lib.run_copy_row_string (P := Tryz.prog) w 31 9 3 5 g n k dc t cur 5 Tryz.underlying31 byte_size1 hh (by omega) (by omega)
    have hf := h.filled hx ha hg hh hc _ hbl
    rw [hbl] at hf
    rw [ht] at hr
    exact ⟨_, _, hs, hr, hf.1, hf.2⟩
theorem Buf.fillB (h : Buf K w p a (n + k) c (xs ++ ys) vu m mo R) (hx : xs.length = n) (nI : Int) (hnI : nI = n) (s : Value) (t : List UInt8) (hs : BAt w s t) (ht : t.length = k) :
    ∃ v' w2, (∀ w', (Instr.sliceAt 31 (.slice a (n + k) c) (some (.int .i64 nI)) none none).run Tryz.prog w' = .ok v' w') ∧
      (Builtin.copy_ #[31, 31] 3 #[v', s]).run Tryz.prog w = .ok (.int .i64 k) w2 ∧ Buf K w2 p a (n + k) c (xs ++ Lib.byteCells t) vu m mo R ∧ Kp K w w2 := by
  obtain ⟨d, dc, hsl, hd⟩ := h.fill hx nI hnI
  have hle := h.le.2.2
  have hbl : (Lib.byteCells t).length = k := by rw [Lib.byteCells_length, ht]
  obtain ⟨sp, b, o, sc, rfl, hsc, hm, hp, hcell⟩ := hs
  by_cases hk : k = 0
  · subst hk
    refine ⟨_, w, hsl, run_copy_none (P := Tryz.prog) w _ _ _ 5 _ _ _ _ _ _ Tryz.underlying31 byte_size1 (by rw [ht]; rfl), ?_, Kp.refl K w⟩
    have h1 : Lib.byteCells t = [] := List.eq_nil_of_length_eq_zero hbl
    have h2 : ys = [] := List.eq_nil_of_length_eq_zero (by simp at hle; omega)
    rw [h1]; rw [h2] at h; exact h
  · obtain ⟨g, cur, rfl, ha, hg, hh, hc, hnc⟩ := hd hk
    rcases hp with ⟨hp, _⟩ | rfl
    · rw [hp] at ht; exact absurd ht.symm hk
    · have hr := run_copy_row (P := Tryz.prog) w 31 31 3 5 g n k dc ⟨b, o, none⟩ t.length sc cur 5 (Lib.byteCells t) Tryz.underlying31 byte_size1 hh
        (by rw [hbl, ht]; exact (Nat.min_self k).symm) (by
          intro j v hj
          simp only [Lib.byteCells, List.getElem?_map, Option.map_eq_some_iff] at hj
          obtain ⟨x, hx1, rfl⟩ := hj
          obtain ⟨hj1, rfl⟩ := List.getElem?_eq_some_iff.1 hx1
          rw [add_plain]; exact hcell j hj1) (by rw [hbl]; omega) (Lib.byteCells_one t)
      have hf := h.filled hx ha hg hh hc _ hbl
      rw [hbl] at hf
      rw [hbl] at hr
      exact ⟨_, _, hsl, hr, hf.1, hf.2⟩
end
end Go.Proofs.YtlmcglaajmjanaaGreatDoor

namespace Go.Proofs.YtlmcglaajmjanaaGreatDoor
open Go.RowKit
set_option maxRecDepth 100000 in
theorem hashStrRev_any (s : Value) (l : List UInt8) (w : World) (hs : BAt w s l) (hl : l.length = 3) :
    Calls Tryz.prog 200 #[s] w fun e w' => (∃ x y : Int, e = .returned (.tuple #[.int .u32 x, .int .u32 y])) ∧ w = w' := by
  have hlen := hs.len 3
  have e3 : (l.length : Int) = 3 := by omega
  rw [e3] at hlen
  have HS := Lib.hid hs; clear hs
  go_enter Tryz.func200, Tryz.ntmps200
  go_wp2
  go_loopw [4, 5] (fun hv iv wr => ∃ (x : Int) (k : Nat), hv = .int .u32 x ∧ iv = .int .i64 ((k : Int) - 1) ∧ k ≤ l.length ∧ wr = w) (fun _ iv _ => (intOf iv + 1).toNat)
  case atStart => exact ⟨0, 3, rfl, rfl, by omega, by first | rfl | trivial⟩
  case round =>
    obtain ⟨x, k, rfl, rfl, hk, rfl⟩ := hrel
    by_cases h0 : 0 < k
    · have h0I : (0 : Int) ≤ (k : Int) - 1 := by omega
      obtain ⟨a, hidx, hcell⟩ := HS.out.at_ ((k : Int) - 1) (by omega) (by omega)
      have hcell := hcell _ HS.out
      generalize l.getD ((k : Int) - 1).toNat 0 = b at hcell
      go_wp2
      go_roundw
      case rel => exact ⟨_, k - 1, rfl, by go_num, by omega, by first | rfl | trivial⟩
      case measure => simp [intOf]; omega
    · obtain rfl : k = 0 := by omega
      go_wp2
      go_loopw [6, 7, 8] (fun xv yv iv wx => ∃ (x y i : Int), xv = .int .u32 x ∧ yv = .int .u32 y ∧ iv = .int .i64 i ∧ (i = 3 ∨ i = 1 ∨ i = 0) ∧ wx = wr) (fun _ _ iv _ => (intOf iv).toNat)
      case atStart => exact ⟨1, 16777619, 3, rfl, rfl, rfl, .inl rfl, by first | rfl | trivial⟩
      case round =>
        obtain ⟨x, y, i, rfl, rfl, rfl, hi, rfl⟩ := hrel
        rcases hi with rfl | rfl | rfl
        · go_wp2
          go_roundw
          case rel => exact ⟨_, _, 1, rfl, rfl, rfl, .inr (.inl rfl), by first | rfl | trivial⟩
          case measure => decide
        · go_wp2
          go_roundw
          case rel => exact ⟨_, _, 0, rfl, rfl, rfl, .inr (.inr rfl), by first | rfl | trivial⟩
          case measure => decide
        · go_wp2
          go_ret2
          exact ⟨⟨_, _, rfl⟩, rfl⟩
/-- -1, or a place where p lies in l. -/
def LastI (l p : List UInt8) (r : Int) : Prop := r = -1 ∨ ∃ i : Nat, r = i ∧ i + p.length ≤ l.length ∧ (l.drop i).take p.length = p
def LastQ (l p : List UInt8) (w : World) (e : Ending) (w' : World) : Prop := ∃ r, e = .returned (.int .i64 r) ∧ LastI l p r ∧ ∃ n, w' = w.drewN n
set_option maxHeartbeats 1000000 in
set_option maxRecDepth 100000 in
theorem lastRK_any (s t : Value) (l p : List UInt8) (w : World) (hs : BAt w s l) (ht : BAt w t p) (hp : p.length = 3) (hl : 3 < l.length) (hl2 : l.length ≤ 1000000) :
    Calls Tryz.prog 198 #[s, t] w (LastQ l p w) := by
  have hlen := hs.len 3
  have hlen2 := ht.len 3
  have e3 : (p.length : Int) = 3 := by omega
  rw [e3] at hlen2
  have HS := Lib.hid hs; clear hs
  have HP := Lib.hid ht; clear ht
  go_enter Tryz.func198, Tryz.ntmps198
  go_wp2_with fail
  refine (hashStrRev_any t p w HP.out hp).mono ?_
  rintro e w' ⟨⟨hs0, pw, rfl⟩, rfl⟩
  go_wp2_with fail
  go_loopw [9, 10] (fun hv iv wr => ∃ (x : Int) (k : Nat), hv = .int .u32 x ∧ iv = .int .i64 ((k : Int) - 1) ∧ l.length ≤ k + 3 ∧ k ≤ l.length ∧ wr = w) (fun _ iv _ => (intOf iv + 1).toNat)
  case atStart => exact ⟨0, l.length, rfl, rfl, by omega, Nat.le_refl _, by first | rfl | trivial⟩
  case round =>
    obtain ⟨x, k, rfl, rfl, hk1, hk2, rfl⟩ := hrel
    by_cases h0 : l.length < k + 3
    · have h0I : (l.length : Int) - 3 ≤ (k : Int) - 1 := by omega
      obtain ⟨a, hidx, hcell⟩ := HS.out.at_ ((k : Int) - 1) (by omega) (by omega)
      have hcell := hcell _ HS.out
      generalize l.getD ((k : Int) - 1).toNat 0 = b at hcell
      go_wp2
      go_roundw
      case rel => exact ⟨_, k - 1, rfl, by go_num, by omega, by omega, by first | rfl | trivial⟩
      case measure => simp [intOf]; omega
    · obtain rfl : k = l.length - 3 := by omega
      have h0I : ¬ (l.length : Int) - 3 ≤ ((l.length - 3 : Nat) : Int) - 1 := by omega
      obtain ⟨v2, hsub, hv2⟩ := HS.out.from_ ((l.length : Int) - 3) (by omega) (by omega)
      have hst1 := fun m => ((hv2 _ HS.out).drewN m).str 9 Tryz.underlying9
      have hst2 := fun m => (HP.out.drewN m).str 9 Tryz.underlying9
      clear hv2
      have e4 : ((l.length : Int) - 3).toNat = l.length - 3 := by omega
      rw [e4] at hst1
      clear e4
      have hcut := Lib.hid (show (l.drop (l.length - 3)).take p.length = l.drop (l.length - 3) from List.take_of_length_le (by simp; omega))
      by_cases hxe : (x == hs0) = true
      · by_cases hm : l.drop (l.length - 3) = p
        · have hb : (l.drop (l.length - 3) == p) = true := beq_iff_eq.2 hm
          have Hm := Lib.hid hm; clear hm
          go_wp2_with fail
          go_quiet (fail)
          go_wp2_with fail
          go_ret
          refine ⟨_, rfl, .inr ⟨l.length - 3, by omega, by omega, ?_⟩, nq, rfl⟩
          rw [hcut.out, Hm.out]
        · have hb : (l.drop (l.length - 3) == p) = false := beq_eq_false_iff_ne.2 hm
          clear hm
          go_wp2_with fail
          go_quiet (fail)
          clear hsub hst1 hb
          go_wp2_with fail
          go_loopw [9, 11] (fun hv iv wx => ∃ (x : Int) (k n : Nat), hv = .int .u32 x ∧ iv = .int .i64 ((k : Int) - 1) ∧ k + 3 ≤ l.length ∧ wx = wr.drewN n) (fun _ iv _ => (intOf iv + 1).toNat)
          case atStart => exact ⟨_, l.length - 3, nq, rfl, by go_num, by omega, by first | rfl | trivial⟩
          case round =>
            obtain ⟨x, k, n, rfl, rfl, hk, rfl⟩ := hrel
            by_cases h0 : 0 < k
            · have h0I : (0 : Int) ≤ (k : Int) - 1 := by omega
              obtain ⟨a, hidx, hcell⟩ := HS.out.at_ ((k : Int) - 1) (by omega) (by omega)
              have hcell := hcell _ (HS.out.drewN n)
              obtain ⟨a2, hidx2, hcell2⟩ := HS.out.at_ ((k : Int) - 1 + 3) (by omega) (by omega)
              have hcell2 := hcell2 _ (HS.out.drewN n)
              generalize l.getD ((k : Int) - 1).toNat 0 = b at hcell
              generalize l.getD ((k : Int) - 1 + 3).toNat 0 = b2 at hcell2
              obtain ⟨v3, hsub3, hv3⟩ := HS.out.sub ((k : Int) - 1) ((k : Int) - 1 + 3) (by omega) (by omega) (by omega)
              have hst3 := fun m => ((hv3 _ HS.out).drewN m).str 9 Tryz.underlying9
              clear hv3
              have hcut3 : List.drop ((k : Int) - 1).toNat (List.take ((k : Int) - 1 + 3).toNat l) = (l.drop (k - 1)).take 3 := by
                rw [show ((k : Int) - 1).toNat = k - 1 by omega, show ((k : Int) - 1 + 3).toNat = k - 1 + 3 by omega, List.drop_take]; congr 1; omega
              rw [hcut3] at hst3
              clear hcut3
              go_wp2_with fail
              generalize ((x * 16777619 + (b.toNat : Int)) % 4294967296 - pw * ((b2.toNat : Int) % 4294967296) % 4294967296) % 4294967296 = x9
              by_cases hx9 : (x9 == hs0) = true
              · by_cases hm3 : (l.drop (k - 1)).take 3 = p
                · have hb3 : ((l.drop (k - 1)).take 3 == p) = true := beq_iff_eq.2 hm3
                  have Hm3 := Lib.hid hm3; clear hm3
                  go_quiet (fail)
                  go_wp2_with fail
                  go_ret
                  exact ⟨_, rfl, .inr ⟨k - 1, by omega, by omega, by rw [hp]; exact Hm3.out⟩, _, by rw [World.drewN_drewN]⟩
                · have hb3 : ((l.drop (k - 1)).take 3 == p) = false := beq_eq_false_iff_ne.2 hm3
                  clear hm3
                  go_quiet (fail)
                  go_wp2_with fail
                  go_roundw
                  case rel => exact ⟨_, k - 1, _, rfl, by go_num, by omega, by first | rfl | rw [World.drewN_drewN]⟩
                  case measure => simp [intOf]; omega
              · have hx9 : (x9 == hs0) = false := by simpa using hx9
                go_quiet (fail)
                go_wp2_with fail
                go_roundw
                case rel => exact ⟨_, k - 1, _, rfl, by go_num, by omega, by first | rfl | rw [World.drewN_drewN]⟩
                case measure => simp [intOf]; omega
            · obtain rfl : k = 0 := by omega
              go_wp2_with fail
              go_ret
              exact ⟨-1, rfl, .inl rfl, n, rfl⟩
      · have hxe : (x == hs0) = false := by simpa using hxe
        go_wp2_with fail
        go_quiet (fail)
        clear hsub hst1
        go_wp2_with fail
        go_loopw [9, 11] (fun hv iv wx => ∃ (x : Int) (k n : Nat), hv = .int .u32 x ∧ iv = .int .i64 ((k : Int) - 1) ∧ k + 3 ≤ l.length ∧ wx = wr.drewN n) (fun _ iv _ => (intOf iv + 1).toNat)
        case atStart => exact ⟨_, l.length - 3, nq, rfl, by go_num, by omega, by first | rfl | trivial⟩
        case round =>
          obtain ⟨x, k, n, rfl, rfl, hk, rfl⟩ := hrel
          by_cases h0 : 0 < k
          · have h0I : (0 : Int) ≤ (k : Int) - 1 := by omega
            obtain ⟨a, hidx, hcell⟩ := HS.out.at_ ((k : Int) - 1) (by omega) (by omega)
            have hcell := hcell _ (HS.out.drewN n)
            obtain ⟨a2, hidx2, hcell2⟩ := HS.out.at_ ((k : Int) - 1 + 3) (by omega) (by omega)
            have hcell2 := hcell2 _ (HS.out.drewN n)
            generalize l.getD ((k : Int) - 1).toNat 0 = b at hcell
            generalize l.getD ((k : Int) - 1 + 3).toNat 0 = b2 at hcell2
            obtain ⟨v3, hsub3, hv3⟩ := HS.out.sub ((k : Int) - 1) ((k : Int) - 1 + 3) (by omega) (by omega) (by omega)
            have hst3 := fun m => ((hv3 _ HS.out).drewN m).str 9 Tryz.underlying9
            clear hv3
            have hcut3 : List.drop ((k : Int) - 1).toNat (List.take ((k : Int) - 1 + 3).toNat l) = (l.drop (k - 1)).take 3 := by
              rw [show ((k : Int) - 1).toNat = k - 1 by omega, show ((k : Int) - 1 + 3).toNat = k - 1 + 3 by omega, List.drop_take]; congr 1; omega
            rw [hcut3] at hst3
            clear hcut3
            go_wp2_with fail
            generalize ((x * 16777619 + (b.toNat : Int)) % 4294967296 - pw * ((b2.toNat : Int) % 4294967296) % 4294967296) % 4294967296 = x9
            by_cases hx9 : (x9 == hs0) = true
            · by_cases hm3 : (l.drop (k - 1)).take 3 = p
              · have hb3 : ((l.drop (k - 1)).take 3 == p) = true := beq_iff_eq.2 hm3
                have Hm3 := Lib.hid hm3; clear hm3
                go_quiet (fail)
                go_wp2_with fail
                go_ret
                exact ⟨_, rfl, .inr ⟨k - 1, by omega, by omega, by rw [hp]; exact Hm3.out⟩, _, by rw [World.drewN_drewN]⟩
              · have hb3 : ((l.drop (k - 1)).take 3 == p) = false := beq_eq_false_iff_ne.2 hm3
                clear hm3
                go_quiet (fail)
                go_wp2_with fail
                go_roundw
                case rel => exact ⟨_, k - 1, _, rfl, by go_num, by omega, by first | rfl | rw [World.drewN_drewN]⟩
                case measure => simp [intOf]; omega
            · have hx9 : (x9 == hs0) = false := by simpa using hx9
              go_quiet (fail)
              go_wp2_with fail
              go_roundw
              case rel => exact ⟨_, k - 1, _, rfl, by go_num, by omega, by first | rfl | rw [World.drewN_drewN]⟩
              case measure => simp [intOf]; omega
          · obtain rfl : k = 0 := by omega
            go_wp2_with fail
            go_ret
            exact ⟨-1, rfl, .inl rfl, n, rfl⟩
theorem lastIndex_any (s t : Value) (l p : List UInt8) (w : World) (hs : BAt w s l) (ht : BAt w t p) (hp : p.length = 3) (hl2 : l.length ≤ 1000000) :
    Calls Tryz.prog 187 #[s, t] w (LastQ l p w) := by
  have hlen := hs.len 3
  have hlen2 := ht.len 3
  have e3 : (p.length : Int) = 3 := by omega
  rw [e3] at hlen2
  have HP := Lib.hid hp; clear hp e3
  by_cases h3 : l.length = 3
  · have e4 : (l.length : Int) = 3 := by omega
    rw [e4] at hlen
    have HL := Lib.hid h3; clear h3 e4
    have hw : w = w.drewN 0 := rfl
    have HW := Lib.hid hw; clear hw
    by_cases he : l = p
    · have hb : (l == p) = true := beq_iff_eq.2 he
      have HE := Lib.hid he; clear he
      go_enter Tryz.func187, Tryz.ntmps187
      go_wp2_with fail
      refine (equal_any _ _ _ _ w hs ht).mono ?_
      rintro e w' ⟨rfl, rfl⟩
      go_wp2_with fail
      go_ret
      exact ⟨0, rfl, .inr ⟨0, rfl, by rw [HP.out, HL.out]; omega, by rw [List.drop_zero, ← HE.out, List.take_length]⟩, 0, rfl⟩
    · have hb : (l == p) = false := beq_eq_false_iff_ne.2 he
      clear he
      go_enter Tryz.func187, Tryz.ntmps187
      go_wp2_with fail
      refine (equal_any _ _ _ _ w hs ht).mono ?_
      rintro e w' ⟨rfl, rfl⟩
      go_wp2_with fail
      go_ret
      exact ⟨-1, rfl, .inl rfl, 0, rfl⟩
  · by_cases h4 : l.length < 3
    · have h4I : (l.length : Int) < 3 := by omega
      have h5I : ((3 : Int) == (l.length : Int)) = false := beq_eq_false_iff_ne.2 (by omega)
      clear hs ht h3 h4
      go_enter Tryz.func187, Tryz.ntmps187
      go_wp2_with fail
      go_ret
      exact ⟨-1, rfl, .inl rfl, 0, rfl⟩
    · have h4I : ¬ (l.length : Int) < 3 := by omega
      have h5I : ((3 : Int) == (l.length : Int)) = false := beq_eq_false_iff_ne.2 (by omega)
      go_enter Tryz.func187, Tryz.ntmps187
      go_wp2_with fail
      refine (lastRK_any s t l p w hs ht HP.out (by omega) hl2).mono ?_
      rintro e w' ⟨r, rfl, hr, n, rfl⟩
      go_wp2_with fail
      go_ret
      exact ⟨r, rfl, hr, n, rfl⟩
end Go.Proofs.YtlmcglaajmjanaaGreatDoor
