/- Walks of makeSlice and grow. -/
import Derived.Test.YtlmcglaajmjanaaGreatDoorBuf
import Derived.Deep.OwnRows
import Derived.Laws.CopyOwn
namespace Go.Proofs.YtlmcglaajmjanaaGreatDoor
open Go.RowKit
theorem makeSlice_idle (w : World) :
    CallsD Tryz.prog 189 #[] .returning w fun e u' w' => e = .returned (.tuple #[]) ∧ u' = .returning ∧ w' = w := by
  refine callsD_of_wpS Tryz.func189 rfl fun c₀ cs hu => ?_
  apply wpS_seq
  apply wpS_region
  simp [wpOpsS, go_sem, recoverD, hu, Tryz.ntmps189, Exit.thenS]
  refine wpS_cond (t := false) (by simp [Act.eval, Array.replicate]) ?_
  simp only [Bool.false_eq_true, if_false]
  refine wpS_of_wp (wp_skip ?_)
  cases c₀
  simp_all [bodyPostS, results, Tryz.results189]

theorem makeSlice_any (nI : Int) (n : Nat) (hnn : nI = n) (hn : n ≤ 8000000) (w : World) :
    Calls Tryz.prog 174 #[.int .i64 nI] w fun e w' => e = .returned (.slice (some ⟨w.heap.size, 0, none⟩) n n) ∧ w' = w.alloc (.cells (madeCells #[.int .u8 0] n) 5) := by
  subst hnn
  have hmk := fun w => run_make_row' (P := Tryz.prog) 31 5 (.int .u8 0) 1 Tryz.underlying31 Tryz.infoB rfl .i64 .i64 n (by omega) (by omega) w
  go_enter_defers Tryz.func174, Tryz.ntmps174
  go_wp2
  refine leaves_cons (f := 189) (args := #[]) (by simp) (by simp [go_sem]) ?_
  refine (makeSlice_idle _).mono ?_
  rintro e u' w'' ⟨rfl, rfl, rfl⟩
  simp [Leaves, settle, results, Tryz.results174, go_sem]
/-- Behind 'b.buf = buf' and 'b.buf = b.buf[:m+n]', buf a new row. -/
theorem Buf.moved {K : Nat → Prop} {w w1 : World} {p : Nat} {a : Option Addr} {n c : Nat} {xs : List Value} {vu : Nat} {m : Int} {mo : Bool} {R : Nat → Option Value} (h : Buf K w p a n c xs vu m mo R) (hb : Below w.heap.size w w1) (N : Nat) (cur : Array Value) (hN : N ≠ p ∧ ¬ K N) (hh : w1.heap[N]? = some (.cells cur 5 (0, 0))) (c' : Nat) (hc : cur.size = c') (hc2 : c' ≤ 9223372036854775807) (k : Nat) (hk : n + k ≤ c') (ht : cur.toList.take n = xs) (v : Value) :
    ∃ g, g.length = k ∧ Buf K ((w1.setCell ⟨p, 0, none⟩ v).setCell ⟨p, 0, none⟩ (.slice (some ⟨N, 0, none⟩) (n + k) c')) p (some ⟨N, 0, none⟩) (n + k) c' (xs ++ g) vu m mo R := by
  have h1 := h.below hb
  obtain ⟨ys, hy1, hy2⟩ := Lib.take_split cur.toList n k (by rw [Array.length_toList]; omega)
  refine ⟨ys, hy1, ?_⟩
  have e : (w1.setCell ⟨p, 0, none⟩ v).setCell ⟨p, 0, none⟩ (.slice (some ⟨N, 0, none⟩) (n + k) c') = w1.setCell ⟨p, 0, none⟩ (.slice (some ⟨N, 0, none⟩) (n + k) c') := by
    obtain ⟨cs, T, _, hp, _⟩ := h1.blk
    simp only [World.setCell]
    congr 1
    apply Array.ext
    · simp
    · intro i hi1 hi2
      simp only [Array.getElem_modify]
      by_cases hpi : p = i
      · subst hpi
        have hg : w1.heap[p]'(by simpa using hi1) = .cells cs T (0, 0) := by
          have := hp
          rw [Array.getElem?_eq_getElem (by simpa using hi1)] at this
          exact Option.some.inj this
        simp [hg]
      · simp [hpi]
  rw [e]
  exact h1.setSl (.inr ⟨N, cur, rfl, hN, hh, hk, hc2, hc, by rw [hy2, ht]⟩)

set_option maxRecDepth 100000 in
theorem grow_nil {K : Nat → Prop} {w : World} {p : Nat} {vu : Nat} {m : Int} {mo : Bool} {R : Nat → Option Value} (h : Buf K w p none 0 0 [] vu m mo R) (kI : Int) (k : Nat) (hkk : kI = k) (hk0 : 0 < k) (hk : k ≤ 64) :
    Calls Tryz.prog 152 #[.pointer (some ⟨p, 0, none⟩), .int .i64 kI] w (GrowQ K p w (.int .i64 0) fun w' => ∃ a c g, g.length = k ∧ Buf K w' p a (0 + k) c ([] ++ g) vu m mo R) := by
  subst hkk
  obtain ⟨i0, hi, hz0, hz1, hz2⟩ := info_parts Tryz.infoB
  have c0 := h.c0
  have f0 := h.fz 0
  have hmk := fun w => run_make (P := Tryz.prog) w 31 5 i0 (.int .u8 0) Tryz.underlying31 hi hz0 .i64 .i64 k 64 (by omega) (by omega) (by rw [hz2]; omega) (by omega)
  have hsz := h.lt
  have hq := fun w => Lib.run_eql_slice_nil_nil (P := Tryz.prog) w (t := 31) 0 0 Tryz.underlying31
  have H := Lib.hid h; clear h
  go_enter Tryz.func152, Tryz.ntmps152
  go_wp2_with fail
  refine (tryGrow_no H.out k k rfl (by omega)).mono ?_
  rintro e w' ⟨rfl, rfl⟩
  go_wp2
  go_ret
  have hw : (w.setCell ⟨p, 0, none⟩ (.slice (some ⟨w.heap.size, 0, none⟩) k 64)).alloc (.cells (madeCells #[.int .u8 0] 64) 5) = (w.alloc (.cells (madeCells #[.int .u8 0] 64) 5)).setCell ⟨p, 0, none⟩ (.slice (some ⟨w.heap.size, 0, none⟩) k 64) := (World.setCell_alloc_past _ _ _ _ hsz).symm
  have hcs : (madeCells #[Value.int .u8 0] 64).size = 64 := size_madeCells _ _
  have hgk : ((madeCells #[Value.int .u8 0] 64).toList.take k).length = k := by rw [List.length_take, Array.length_toList, hcs]; omega
  refine ⟨rfl, ⟨some ⟨w.heap.size, 0, none⟩, 64, _, hgk, ?_⟩, ?_⟩
  · rw [hw]
    rw [Nat.zero_add]
    exact (H.out.alloc _).setSl (.inr ⟨w.heap.size, _, rfl, H.out.fresh (Nat.le_refl _), heap_alloc_new w _, by omega, by omega, hcs, rfl⟩)
  · rw [hw]
    exact (Kp.of_below H.out.hK ((Below.refl _ w).alloc (Nat.le_refl _) _)).setCell H.out.hp _ _

/-- copy whose run is known. -/
theorem wpList_copy_known (w : World) {ops : Array Oper} {rest : List Oper} {o : Oper} {a : Act} {Q : Exit → Act → World → Prop} (hgd : o.guard = none) (s x : Operand) (t1 t2 : TypeId)
    (ho : o.op = .call { callee := .builtin .copy, args := #[s, x], argTypes := #[t1, t2] }) (v u : Value) (hs : a.eval s = v) (hx : a.eval x = u) {v' : Value} {w' : World}
    (hr : (Builtin.copy_ #[t1, t2] o.type #[v, u]).run Tryz.prog w = .ok v' w') (h : wpList Tryz.prog ops Q rest (a.put o.dst v') w') : wpList Tryz.prog ops Q (o :: rest) a w := by
  refine wpList_plain hgd fun K hK => ?_
  unfold Oper.wp execOp
  simp only [ho, resolve, invoke, builtin, Sem.run_bind, Sem.run_pure, Result.andThen_ok, List.map_toArray, List.map_cons, List.map_nil, hs, hx, hr]
  exact hK _ _ h
theorem byte_size1 : (Tryz.prog.info? 5).map (·.size) = some 1 := by kernel_rfl

set_option maxHeartbeats 2000000 in
set_option maxRecDepth 100000 in
theorem grow_some {K : Nat → Prop} {w : World} {p : Nat} {a : Option Addr} {c : Nat} {l : List UInt8} {vu : Nat} {m : Int} {mo : Bool} {R : Nat → Option Value} (h : Buf K w p a l.length c (Lib.byteCells l) vu m mo R) (kI : Int) (k : Nat) (hkk : kI = k) (hk : c < l.length + k) (hl : l.length ≤ 1000000) (hk2 : k ≤ 1000000) (hna : a = none → 64 < k) :
    Calls Tryz.prog 152 #[.pointer (some ⟨p, 0, none⟩), .int .i64 kI] w (GrowQ K p w (.int .i64 l.length) fun w' => ∃ a c g, g.length = k ∧ Buf K w' p a (l.length + k) c (Lib.byteCells l ++ g) vu m mo R) := by
  subst hkk
  have c0 := h.c0
  have f0 := h.fz 0
  have hsz := h.lt
  have hle := h.le.1
  have hne : ((binOp .eql 31 (.slice a l.length c) (.slice none 0 0)).run Tryz.prog w = .ok (.bool a.isNone) w) := by
    cases a with
    | none => exact Lib.run_eql_slice_nil_nil w _ _ Tryz.underlying31
    | some x => exact Lib.run_eql_slice_some_nil w _ _ _ Tryz.underlying31
  have hnk : (a.isNone && decide ((k : Int) ≤ 64)) = false := by
    cases a with
    | none => have := hna rfl; simp; omega
    | some x => rfl
  generalize a.isNone = bn at hne hnk
  have H := Lib.hid h; clear h hna
  generalize hN : w.alloc (.cells (madeCells #[.int .u8 0] (2 * c + k)) 5) = w1
  have hcp : ∃ cur w2, (Builtin.copy_ #[31, 31] 3 #[.slice (some ⟨w.heap.size, 0, none⟩) (2 * c + k) (2 * c + k), .slice a l.length c]).run Tryz.prog w1 = .ok (.int .i64 l.length) w2 ∧ cur.size = 2 * c + k ∧ cur.toList.take l.length = Lib.byteCells l ∧ w2.heap[w.heap.size]? = some (.cells cur 5 (0, 0)) ∧ Below w.heap.size w w2 := by
    have hb1 : Below w.heap.size w w1 := by rw [← hN]; exact (Below.refl _ w).alloc (Nat.le_refl _) _
    have hh1 : w1.heap[w.heap.size]? = some (.cells (madeCells #[.int .u8 0] (2 * c + k)) 5 (0, 0)) := by rw [← hN]; exact heap_alloc_new w _
    have hms : (madeCells #[Value.int .u8 0] (2 * c + k)).size = 2 * c + k := size_madeCells _ _
    rcases H.out.row with ⟨h1, h2, h3, h4⟩ | ⟨g, cur, ha, hg, hh, h1, h2, h3, h4⟩
    · subst h1
      have hl0 : l = [] := List.eq_nil_of_length_eq_zero h2
      subst hl0
      refine ⟨_, w1, ?_, hms, by simp [Lib.byteCells], hh1, hb1⟩
      rw [h3]
      exact run_copy_nil Tryz.prog w1 _ _ _ 5 _ _ _ Tryz.underlying31 (by rw [byte_size1]; rfl)
    · subst ha
      have hbl : (Lib.byteCells l).length = l.length := Lib.byteCells_length l
      have hr := run_copy_row (P := Tryz.prog) w1 31 31 3 5 w.heap.size 0 (2 * c + k) (2 * c + k) ⟨g, 0, none⟩ l.length c (madeCells #[.int .u8 0] (2 * c + k)) 5 (Lib.byteCells l) Tryz.underlying31 byte_size1 hh1
        (by rw [hbl]; exact (Nat.min_eq_left (by omega)).symm) (by
          intro j v hj
          rw [add_plain, Nat.zero_add, hb1.cell (p := ⟨g, j, none⟩) (Array.getElem?_eq_some_iff.1 hh).1]
          have hj2 : j < l.length := by rw [← hbl]; exact (List.getElem?_eq_some_iff.1 hj).1
          rw [← h4, List.getElem?_take_of_lt hj2, Array.getElem?_toList] at hj
          simp [World.cell?, hh, hj]) (by rw [hbl, hms]; omega) (Lib.byteCells_one l)
      rw [hbl] at hr
      refine ⟨_, _, hr, ?_, ?_, setRow_heap w1 w.heap.size _ _ 5 _ hh1, hb1.trans ⟨rfl, rfl, rfl, by simp [World.setRow], fun k hk => setRow_other w1 w.heap.size k _ (by omega)⟩⟩
      · simp [hbl, hms]; omega
      · simp [hbl]
  obtain ⟨cur, w2, hcp, hcs, hct, hh2, hb2⟩ := hcp
  have c0' : w2.cell? ⟨p, 0, none⟩ = some (.slice a l.length c) := (hb2.cell (p := ⟨p, 0, none⟩) hsz).trans c0
  have f0' : w2.frozen? ⟨p, 0, none⟩ = false := (hb2.frozen (p := ⟨p, 0, none⟩) hsz).trans f0
  have c01 : w1.cell? ⟨p, 0, none⟩ = some (.slice a l.length c) := by rw [← hN]; exact ((Below.refl _ w).alloc (Nat.le_refl _) _).cell (p := ⟨p, 0, none⟩) hsz |>.trans c0
  have hsl := fun w' => slice_hi (some ⟨w.heap.size, 0, none⟩) (2 * c + k) (2 * c + k) (l.length + k) (by omega) (by omega) (fun x hx => by cases hx; rfl) w'
  have e1 : ((l.length : Int) + (k : Int)).toNat = l.length + k := by omega
  rw [e1] at hsl
  have hb1 : Below w.heap.size w w1 := by rw [← hN]; exact (Below.refl _ w).alloc (Nat.le_refl _) _
  have hcp2 := Lib.hid hcp; clear hcp
  have KK := Lib.hid (And.intro hb2 (And.intro hh2 hct)); clear hb2 hh2 hct hb1
  have hbn : bn = true → 64 < (k : Int) := by
    intro hb
    rw [hb] at hnk
    simp at hnk; omega
  clear hnk
  cases bn
  all_goals
    first | have h64 := hbn rfl | skip
    clear hbn
    go_enter Tryz.func152, Tryz.ntmps152
    go_wp2_with fail
    refine (tryGrow_no H.out k k rfl hk).mono ?_
    rintro e w' ⟨rfl, rfl⟩
    go_wp2_with fail
    refine (makeSlice_any (2 * c + k) (2 * c + k) (by omega) (by omega) _).mono ?_
    rintro e w' ⟨rfl, rfl⟩
    rw [hN]
    go_wp2_with (refine wpList_copy_known _ rfl _ _ _ _ rfl _ _ rfl rfl hcp2.out ?_)
    go_ret
    obtain ⟨hb2, hh2, hct⟩ := KK.out
    refine ⟨rfl, ?_, ?_⟩
    · obtain ⟨g, hg, hB⟩ := H.out.moved hb2 w.heap.size cur (H.out.fresh (Nat.le_refl _)) hh2 (2 * c + k) hcs (by omega) k (by omega) hct (.slice (some ⟨w.heap.size, 0, none⟩) (2 * c + k : Nat) (2 * c + k : Nat))
      exact ⟨_, _, g, hg, hB⟩
    · exact ((Kp.of_below H.out.hK hb2).setCell H.out.hp _ _).setCell H.out.hp _ _
end Go.Proofs.YtlmcglaajmjanaaGreatDoor
