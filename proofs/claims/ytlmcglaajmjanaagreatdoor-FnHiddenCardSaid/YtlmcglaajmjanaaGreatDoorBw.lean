/- Walks: WriteRune; a builder in memory and its methods. -/
import Derived.Test.YtlmcglaajmjanaaGreatDoorZl
import Derived.Test.YtlmcglaajmjanaaGreatDoorBp
import Derived.Test.YtlmcglaajmjanaaGreatDoorShelf
namespace Go.Proofs.YtlmcglaajmjanaaGreatDoor
open Go.RowKit
section
variable {K : Nat → Prop} {w : World} {p : Nat} {a : Option Addr} {n c : Nat} {xs : List Value} {l : List UInt8} {vu : Nat} {m : Int} {mo : Bool} {R : Nat → Option Value}
theorem encodeRune_ascii (g n k c : Nat) (r : Int) (h0 : 0 ≤ r) (h1 : r ≤ 127) (hk : 0 < k) (w : World) (x : Value) (hc : w.cell? ⟨g, n, none⟩ = some x) (hf : w.frozen? ⟨g, n, none⟩ = false) :
    Calls Tryz.prog 155 #[.slice (some ⟨g, n, none⟩) k c, .int .i32 r] w fun e w' => e = .returned (.int .i64 1) ∧ w' = w.setCell ⟨g, n, none⟩ (.int .u8 r) := by
  have e1 : IntKind.u32.wrap r = r := by rw [IntKind.wrap_u32]; omega
  have e2 : IntKind.u8.wrap r = r := by rw [IntKind.wrap_u8]; omega
  have d1 : decide (r ≤ 127) = true := decide_eq_true h1
  go_enter Tryz.func155, Tryz.ntmps155
  go_wp2_with fail
  go_ret
  exact ⟨rfl, rfl⟩
theorem runeLen_ascii (r : Int) (h0 : 0 ≤ r) (h1 : r ≤ 127) : Lib.runeLen r = 1 := by
  unfold Lib.runeLen
  rw [if_neg (by omega), if_pos (by omega)]
set_option maxHeartbeats 1000000 in
set_option maxRecDepth 100000 in
theorem writeRune_any (x : Int) (hx0 : 0 ≤ x) (hx1 : x ≤ 127) (h : BufL K w p l vu m mo R) (hl : l.length ≤ 90000) (hz : m = 0 → mo = false → NoHash l) :
    Calls Tryz.prog 126 #[.pointer (some ⟨p, 0, none⟩), .int .i32 x] w (BufQ K p w .nilIface (swl l m mo ++ [UInt8.ofNat x.toNat]) (swv l vu m mo) m (swm m mo) R) := by
  have HB := Lib.hid h; clear h
  have hl1 := swl_le l m mo
  have HS := startWrite_any HB.out (by omega) hz
  generalize swl l m mo = l1 at HS hl1
  generalize swv l vu m mo = vu1 at HS
  generalize swm m mo = mo1 at HS
  have HS := Lib.hid HS
  have HXB : Hid ([Value.int .u8 x] = Lib.byteCells [UInt8.ofNat x.toNat]) := by
    have h : x = ((UInt8.ofNat x.toNat).toNat : Int) := by simp; omega
    show [Value.int .u8 x] = [Value.int .u8 ((UInt8.ofNat x.toNat).toNat : Int)]
    rw [← h]
  have HRL := Lib.hid (runeLen_ascii x hx0 hx1)
  clear hz
  go_enter Tryz.func126, Tryz.ntmps126
  go_wp2_with fail
  refine HS.out.mono ?_
  rintro e w1 ⟨rfl, h1, hbP⟩
  obtain ⟨a1, c1, h1⟩ := h1.out
  have H1 := Lib.hid h1; clear h1
  go_wp2_with fail
  refine (Tryz.utf8_RuneLen _ _).mono ?_
  rw [HRL.out]
  rintro e w2 ⟨rfl, rfl⟩
  go_wp2_with fail
  by_cases hroom : l1.length + 1 ≤ c1
  · refine (tryGrow_yes H1.out 1 1 rfl hroom (by omega) (by omega)).mono ?_
    rintro e w' ⟨rfl, ⟨g, hg, hB⟩, hb⟩
    obtain ⟨y, rfl⟩ := list_one hg
    obtain ⟨g, rfl⟩ := hB.some_
    obtain ⟨hc1, hc2, hB2, hb2⟩ := hB.put (Lib.byteCells_length l1) (.int .u8 x)
    obtain ⟨d, dc, hsl, hd⟩ := hB.fill (k := 1) (Lib.byteCells_length l1) l1.length rfl
    obtain ⟨g', cur, rfl, ha, _⟩ := hd (by decide)
    obtain rfl : g = g' := by injection ha with ha; injection ha
    clear hd ha
    have d0 := hB.c0
    have hcap := hB.le
    have HB2 := Lib.hid hB2
    have HER := Lib.hid (encodeRune_ascii g l1.length 1 dc x hx0 hx1 (by decide) w' _ hc1 hc2)
    clear hB hB2 hc1 hc2
    go_wp2_with fail
    refine HER.out.mono ?_
    rintro e w9 ⟨rfl, rfl⟩
    go_wp2_with fail
    go_ret
    exact ⟨rfl, Buf.toL (t := [UInt8.ofNat x.toNat]) (by rw [← HXB.out]; exact HB2.out) rfl, hbP.trans (hb.trans hb2)⟩
  · refine (tryGrow_no H1.out 1 1 rfl (by omega)).mono ?_
    rintro e w' ⟨rfl, rfl⟩
    go_wp2_with fail
    refine (grow_any (k := 1) H1.out 1 rfl (by omega) (by omega) (by omega)).mono ?_
    rintro e w' ⟨rfl, ⟨a', c', g, hg, hB⟩, hb⟩
    obtain ⟨y, rfl⟩ := list_one hg
    obtain ⟨g, rfl⟩ := hB.some_
    obtain ⟨hc1, hc2, hB2, hb2⟩ := hB.put (Lib.byteCells_length l1) (.int .u8 x)
    obtain ⟨d, dc, hsl, hd⟩ := hB.fill (k := 1) (Lib.byteCells_length l1) l1.length rfl
    obtain ⟨g', cur, rfl, ha, _⟩ := hd (by decide)
    obtain rfl : g = g' := by injection ha with ha; injection ha
    clear hd ha
    have d0 := hB.c0
    have hcap := hB.le
    have HB2 := Lib.hid hB2
    have HER := Lib.hid (encodeRune_ascii g l1.length 1 dc x hx0 hx1 (by decide) w' _ hc1 hc2)
    clear hB hB2 hc1 hc2
    go_wp2_with fail
    refine HER.out.mono ?_
    rintro e w9 ⟨rfl, rfl⟩
    go_wp2_with fail
    go_ret
    exact ⟨rfl, Buf.toL (t := [UInt8.ofNat x.toNat]) (by rw [← HXB.out]; exact HB2.out) rfl, hbP.trans (hb.trans hb2)⟩
end
section
variable {K : Nat → Prop} {w : World} {bp : Nat} {o : List Nat} {c : Nat} {m : Int}
/-- A builder at bp in mode m that holds the text o, into which c arguments were put. -/
def BM (K : Nat → Prop) (w : World) (bp : Nat) (m : Int) (o : List Nat) (c : Nat) : Prop := ∃ R,
  (m = 0 ∧ ∃ o0 s, o = unsafeN o0 s ∧ GoodT o0 (410 * c) ∧ Scs s ∧ (encs s).length ≤ 100 * c ∧ BufL K w bp (encs (openN o0) ++ encs s) (encs (openN o0)).length 0 true R) ∨
  (m = 0 ∧ BufL K w bp (encs o) (encs o).length 0 false R) ∨
  (m = 1 ∧ ∃ a t, o = a ++ t ∧ NoM t ∧ BufL K w bp (encs o) (encs a).length 1 false R) ∨
  (m = 2 ∧ ∃ vu, vu ≤ (encs o).length ∧ BufL K w bp (encs o) vu 2 false R)
def BMQ (K : Nat → Prop) (bp : Nat) (w : World) (r : Value) (m : Int) (o : List Nat) (c : Nat) (e : Ending) (w' : World) : Prop := e = .returned r ∧ Hid (BM K w' bp m o c) ∧ Kp K w w'
theorem BM.bufL (h : BM K w bp m o c) : ∃ l vu m mo R, BufL K w bp l vu m mo R := by
  obtain ⟨R, ⟨_, o0, s, _, _, _, _, h⟩ | ⟨_, h⟩ | ⟨_, a, t, _, _, h⟩ | ⟨_, vu, _, h⟩⟩ := h
  all_goals exact ⟨_, _, _, _, _, h⟩
theorem BM.hK (h : BM K w bp m o c) : ∀ k, K k → k < w.heap.size := by obtain ⟨_, _, _, _, _, h⟩ := h.bufL; exact h.hK
theorem BM.lt (h : BM K w bp m o c) : bp < w.heap.size := by obtain ⟨_, _, _, _, _, h⟩ := h.bufL; exact h.lt
theorem BM.map {K' : Nat → Prop} {w' : World} (h : BM K w bp m o c) (f : ∀ l vu m mo R, BufL K w bp l vu m mo R → BufL K' w' bp l vu m mo R) : BM K' w' bp m o c := by
  obtain ⟨R, ⟨h1, o0, s, h2, h3, h4, h5, h⟩ | ⟨h1, h⟩ | ⟨h1, a, t, h2, h3, h⟩ | ⟨h1, vu, h2, h⟩⟩ := h
  · exact ⟨R, .inl ⟨h1, o0, s, h2, h3, h4, h5, f _ _ _ _ _ h⟩⟩
  · exact ⟨R, .inr (.inl ⟨h1, f _ _ _ _ _ h⟩)⟩
  · exact ⟨R, .inr (.inr (.inl ⟨h1, a, t, h2, h3, f _ _ _ _ _ h⟩))⟩
  · exact ⟨R, .inr (.inr (.inr ⟨h1, vu, h2, f _ _ _ _ _ h⟩))⟩
theorem BM.anti {K' : Nat → Prop} (h : BM K w bp m o c) (hk : ∀ k, K' k → K k) : BM K' w bp m o c := h.map fun _ _ _ _ _ h => h.anti hk
theorem BM.keepN (h : BM K w bp m o c) {w' : World} (hb : Below w.heap.size w w') : BM (fun k => K k ∨ (w.heap.size ≤ k ∧ k < w'.heap.size)) w' bp m o c := h.map fun _ _ _ _ _ h => h.keepN hb
theorem BM.below (h : BM K w bp m o c) {w' : World} (hb : Below w.heap.size w w') : BM K w' bp m o c := (h.keepN hb).anti fun _ hk => .inl hk
theorem BM.closed {R : Nat → Option Value} (h : BufL K w bp (encs o) (encs o).length m false R) (hm : m = 0 ∨ m = 1 ∨ m = 2) : BM K w bp m o c := by
  rcases hm with rfl | rfl | rfl
  · exact ⟨R, .inr (.inl ⟨rfl, h⟩)⟩
  · exact ⟨R, .inr (.inr (.inl ⟨rfl, o, [], by simp, NoM.nil, h⟩))⟩
  · exact ⟨R, .inr (.inr (.inr ⟨rfl, _, Nat.le_refl _, h⟩))⟩
theorem smE_shut (l : List UInt8) : smE l l.length 0 = l := by
  show escT l l.length true = l
  unfold escT
  rw [List.take_length, List.drop_length, escGo_nil]
theorem sm_shut {l : List UInt8} (h : l.length ≤ 50000) (hb : badEnd l = false) : SM l l.length 0 false :=
  ⟨.inl rfl, h, by rw [smE_shut]; omega, Nat.le_refl _, hb, fun h => by cases h⟩
theorem sm_raw {l : List UInt8} {vu : Nat} (h : l.length ≤ 50000) (hv : vu ≤ l.length) (hb : badEnd l = false) : SM l vu 2 false :=
  ⟨.inr (.inr rfl), h, by show l.length ≤ _; omega, hv, hb, fun h => by cases h⟩
theorem setModeB (m' : Int) {l : List UInt8} {vu : Nat} {m : Int} {mo : Bool} {R : Nat → Option Value} (h : BufL K w bp l vu m mo R) (hmm : m ≠ m') (hm' : m' = 0 ∨ m' = 1 ∨ m' = 2) (hE : Env K w bp) (hs : SM l vu m mo) (he : smL l vu m mo = encs o) :
    Calls Tryz.prog 101 #[.pointer (some ⟨bp, 0, none⟩), .int .i64 m'] w (BMQ K bp w (.tuple #[]) m' o c) := by
  refine (setMode_any m' h hmm hs.hm hs.hl hs.hl2 hs.hv hE.2.2.2 hE.2.2.1 hs.hbad hs.hn).mono ?_
  rintro e w' ⟨rfl, h1, hk⟩
  have h1 := h1.out
  rw [he] at h1
  exact ⟨rfl, BM.closed h1 hm', hk⟩
/-- SetMode. -/
theorem setMode_bm (m' : Int) (hm' : m' = 0 ∨ m' = 1 ∨ m' = 2) (h : BM K w bp m o c) (hg : GoodT o (410 * c)) (hc : c ≤ 20) (hE : Env K w bp) :
    Calls Tryz.prog 101 #[.pointer (some ⟨bp, 0, none⟩), .int .i64 m'] w (BMQ K bp w (.tuple #[]) m' o c) := by
  have hle := hg.le
  have h0 := h
  obtain ⟨R, ⟨rfl, o0, s, rfl, hg0, hs, hsl, h⟩ | ⟨rfl, h⟩ | ⟨rfl, a, t, rfl, hn, h⟩ | ⟨rfl, vu, hv, h⟩⟩ := h
  · by_cases hm : (0 : Int) = m'
    · subst hm
      refine (setMode_same h).mono ?_
      rintro e w' ⟨rfl, rfl⟩
      exact ⟨rfl, h0, Kp.refl K w⟩
    · have := hg0.le
      exact setModeB m' h hm hm' hE (sm_0 hg0.sc hg0.mkd hs (by omega)) (smL_0 hg0.sc hg0.mkd hs)
  · by_cases hm : (0 : Int) = m'
    · subst hm
      refine (setMode_same h).mono ?_
      rintro e w' ⟨rfl, rfl⟩
      exact ⟨rfl, h0, Kp.refl K w⟩
    · exact setModeB m' h hm hm' hE (sm_shut (by omega) (badEnd_enc hg.sc)) (smE_shut _)
  · by_cases hm : (1 : Int) = m'
    · subst hm
      refine (setMode_same h).mono ?_
      rintro e w' ⟨rfl, rfl⟩
      exact ⟨rfl, h0, Kp.refl K w⟩
    · exact setModeB m' h hm hm' hE (sm_1 hg.sc hn (by omega)) (smL_1 hg.sc hn)
  · by_cases hm : (2 : Int) = m'
    · subst hm
      refine (setMode_same h).mono ?_
      rintro e w' ⟨rfl, rfl⟩
      exact ⟨rfl, h0, Kp.refl K w⟩
    · exact setModeB m' h hm hm' hE (sm_raw (by omega) hv (badEnd_enc hg.sc)) rfl
/-- What is written as unsafe. -/
theorem BM.uns (h : BM K w bp 0 o c) (hg : GoodT o (410 * c)) (hc : c ≤ 20) : ∃ l vu mo R, BufL K w bp l vu 0 mo R ∧ l.length ≤ 50000 ∧ (mo = false → NoHash l) ∧
    ∀ w' s', Scs s' → (encs s').length ≤ 100 → BufL K w' bp (swl l 0 mo ++ encs s') (swv l vu 0 mo) 0 (swm 0 mo) R → BM K w' bp 0 (unsafeN o s') (c + 1) := by
  have hle := hg.le
  obtain ⟨R, ⟨_, o0, s, rfl, hg0, hs, hsl, h⟩ | ⟨_, h⟩ | ⟨h1, _⟩ | ⟨h1, _⟩⟩ := h
  · have := openN_le o0
    have := hg0.le
    refine ⟨_, _, true, R, h, by rw [List.length_append]; omega, (fun h => by cases h), fun w' s' hs' hl' h' => ⟨R, .inl ⟨rfl, o0, s ++ s', (unsafeN_append hg0.mkd s s').symm, hg0.mono (by omega), hs.append hs', by rw [encs_append, List.length_append]; omega, ?_⟩⟩⟩
    have e1 : swl (encs (openN o0) ++ encs s) 0 true = encs (openN o0) ++ encs s := rfl
    have e2 : swv (encs (openN o0) ++ encs s) (encs (openN o0)).length 0 true = (encs (openN o0)).length := rfl
    rw [e1, e2, List.append_assoc, ← encs_append] at h'
    exact h'
  · refine ⟨_, _, false, R, h, by omega, fun _ => noHash_good hg, fun w' s' hs' hl' h' => ⟨R, .inl ⟨rfl, o, s', rfl, hg.mono (by omega), hs', by omega, ?_⟩⟩⟩
    have e1 : swl (encs o) 0 false = encs (openN o) := openL_enc hg.sc
    have e2 : swv (encs o) (encs o).length 0 false = (encs (openN o)).length := by rw [← openL_enc hg.sc]; rfl
    rw [e1, e2] at h'
    exact h'
  · cases h1
  · cases h1
/-- What is written as safe. -/
theorem BM.sfe (h : BM K w bp 1 o c) (hg : GoodT o (410 * c)) (hc : c ≤ 20) : ∃ l vu R, BufL K w bp l vu 1 false R ∧ l.length ≤ 50000 ∧
    ∀ w' s', NoM s' → BufL K w' bp (l ++ encs s') vu 1 false R → BM K w' bp 1 (o ++ s') (c + 1) := by
  have hle := hg.le
  obtain ⟨R, ⟨h1, _⟩ | ⟨h1, _⟩ | ⟨_, a, t, rfl, hn, h⟩ | ⟨h1, _⟩⟩ := h
  · cases h1
  · cases h1
  · refine ⟨_, _, R, h, by omega, fun w' s' hn' h' => ⟨R, .inr (.inr (.inl ⟨rfl, a, t ++ s', by simp, hn.append hn', ?_⟩))⟩⟩
    rw [← encs_append] at h'
    exact h'
  · cases h1
/-- What is written as it is. -/
theorem BM.raw (h : BM K w bp 2 o c) (hg : GoodT o (410 * c)) (hc : c ≤ 20) : ∃ l vu R, BufL K w bp l vu 2 false R ∧ l.length ≤ 50000 ∧
    ∀ w' s', BufL K w' bp (l ++ encs s') vu 2 false R → BM K w' bp 2 (o ++ s') (c + 1) := by
  have hle := hg.le
  obtain ⟨R, ⟨h1, _⟩ | ⟨h1, _⟩ | ⟨h1, _⟩ | ⟨_, vu, hv, h⟩⟩ := h
  · cases h1
  · cases h1
  · cases h1
  · refine ⟨_, _, R, h, by omega, fun w' s' h' => ⟨R, .inr (.inr (.inr ⟨rfl, vu, by rw [encs_append, List.length_append]; omega, ?_⟩))⟩⟩
    rw [← encs_append] at h'
    exact h'
theorem ByteArray.en_ {s : ByteArray} {rs : List Nat} (ht : Txt s rs) : s.data.toList = encs rs := ht.en
theorem swl_0 (l : List UInt8) (mo : Bool) (s : ByteArray) {rs : List Nat} (ht : Txt s rs) : swl l 0 mo ++ s.data.toList = swl l 0 mo ++ encs rs := by rw [ht.en]
set_option maxRecDepth 100000 in
theorem unsafeString_bm (s : ByteArray) (rs : List Nat) (ht : Txt s rs) (h : BM K w bp m o c) (hg : GoodT o (410 * c)) (hc : c ≤ 20) (hE : Env K w bp) :
    Calls Tryz.prog 86 #[.pointer (some ⟨bp, 0, none⟩), .string s] w (BMQ K bp w (.tuple #[]) 0 (unsafeN o rs) (c + 1)) := by
  have HT := Lib.hid ht; clear ht
  have HM := Lib.hid (setMode_bm 0 (.inl rfl) h hg hc hE)
  have HG := Lib.hid hg; clear hg hE h
  go_enter Tryz.func86, Tryz.ntmps86
  go_wp2_with fail
  refine HM.out.mono ?_
  rintro e w1 ⟨rfl, h1, hk1⟩
  obtain ⟨l, vu, mo, R, hB, hl, hz, hnx⟩ := h1.out.uns HG.out hc
  have HN := Lib.hid hnx; clear hnx
  have HC := Lib.hid (writeString_any s hB (by omega) (by have := HT.out.le; omega) (fun _ => hz))
  clear hB hz h1
  go_wp2_with fail
  refine HC.out.mono ?_
  rintro e w2 ⟨rfl, h2, hk2⟩
  go_wp2_with fail
  first | go_end0 | ((try simp only [Exit.inBlock, Exit.then]); refine bodyPost_ret (results_none rfl _ _ _) rfl ?_)
  exact ⟨rfl, HN.out _ _ HT.out.sc HT.out.len (by have := h2.out; rw [HT.out.en] at this; exact this), hk1.trans hk2⟩
set_option maxRecDepth 100000 in
theorem writeString_bm (s : ByteArray) (rs : List Nat) (ht : Txt s rs) (h : BM K w bp m o c) (hg : GoodT o (410 * c)) (hc : c ≤ 20) (hE : Env K w bp) :
    Calls Tryz.prog 90 #[.pointer (some ⟨bp, 0, none⟩), .string s] w (BMQ K bp w (.tuple #[.int .i64 s.size, .nilIface]) 0 (unsafeN o rs) (c + 1)) := by
  have HT := Lib.hid ht; clear ht
  have HM := Lib.hid (setMode_bm 0 (.inl rfl) h hg hc hE)
  have HG := Lib.hid hg; clear hg hE h
  go_enter Tryz.func90, Tryz.ntmps90
  go_wp2_with fail
  refine HM.out.mono ?_
  rintro e w1 ⟨rfl, h1, hk1⟩
  obtain ⟨l, vu, mo, R, hB, hl, hz, hnx⟩ := h1.out.uns HG.out hc
  have HN := Lib.hid hnx; clear hnx
  have HC := Lib.hid (writeString_any s hB (by omega) (by have := HT.out.le; omega) (fun _ => hz))
  clear hB hz h1
  go_wp2_with fail
  refine HC.out.mono ?_
  rintro e w2 ⟨rfl, h2, hk2⟩
  go_wp2_with fail
  go_ret2
  exact ⟨rfl, HN.out _ _ HT.out.sc HT.out.len (by have := h2.out; rw [HT.out.en] at this; exact this), hk1.trans hk2⟩
set_option maxRecDepth 100000 in
theorem unsafeByte_bm (x : UInt8) (hx : x.toNat ≤ 127) (h : BM K w bp m o c) (hg : GoodT o (410 * c)) (hc : c ≤ 20) (hE : Env K w bp) :
    Calls Tryz.prog 94 #[.pointer (some ⟨bp, 0, none⟩), .int .u8 x.toNat] w (BMQ K bp w (.tuple #[]) 0 (unsafeN o [x.toNat]) (c + 1)) := by
  have HX : Hid (encs [x.toNat] = [x]) := by show _ = _; rw [encs_one, encL_ascii _ (by omega)]; simp
  have HM := Lib.hid (setMode_bm 0 (.inl rfl) h hg hc hE)
  have HG := Lib.hid hg; clear hg hE h
  go_enter Tryz.func94, Tryz.ntmps94
  go_wp2_with fail
  refine HM.out.mono ?_
  rintro e w1 ⟨rfl, h1, hk1⟩
  obtain ⟨l, vu, mo, R, hB, hl, hz, hnx⟩ := h1.out.uns HG.out hc
  have HN := Lib.hid hnx; clear hnx
  have HC := Lib.hid (writeByte_any x hB (by omega) (fun _ => hz) (fun _ => by omega))
  clear hB hz h1
  go_wp2_with fail
  refine HC.out.mono ?_
  rintro e w2 ⟨rfl, h2, hk2⟩
  go_wp2_with fail
  first | go_end0 | ((try simp only [Exit.inBlock, Exit.then]); refine bodyPost_ret (results_none rfl _ _ _) rfl ?_)
  exact ⟨rfl, HN.out _ _ (asc_sc1 (by omega)) (by rw [HX.out]; simp) (by rw [HX.out]; exact h2.out), hk1.trans hk2⟩
set_option maxRecDepth 100000 in
theorem unsafeRune_bm (x : Int) (hx0 : 0 ≤ x) (hx1 : x ≤ 127) (h : BM K w bp m o c) (hg : GoodT o (410 * c)) (hc : c ≤ 20) (hE : Env K w bp) :
    Calls Tryz.prog 92 #[.pointer (some ⟨bp, 0, none⟩), .int .i32 x] w (BMQ K bp w (.tuple #[]) 0 (unsafeN o [x.toNat]) (c + 1)) := by
  have HX : Hid (encs [x.toNat] = [UInt8.ofNat x.toNat]) := by show _ = _; rw [encs_one, encL_ascii _ (by omega)]
  have HM := Lib.hid (setMode_bm 0 (.inl rfl) h hg hc hE)
  have HG := Lib.hid hg; clear hg hE h
  go_enter Tryz.func92, Tryz.ntmps92
  go_wp2_with fail
  refine HM.out.mono ?_
  rintro e w1 ⟨rfl, h1, hk1⟩
  obtain ⟨l, vu, mo, R, hB, hl, hz, hnx⟩ := h1.out.uns HG.out hc
  have HN := Lib.hid hnx; clear hnx
  have HC := Lib.hid (writeRune_any x hx0 hx1 hB (by omega) (fun _ => hz))
  clear hB hz h1
  go_wp2_with fail
  refine HC.out.mono ?_
  rintro e w2 ⟨rfl, h2, hk2⟩
  go_wp2_with fail
  first | go_end0 | ((try simp only [Exit.inBlock, Exit.then]); refine bodyPost_ret (results_none rfl _ _ _) rfl ?_)
  exact ⟨rfl, HN.out _ _ (asc_sc1 (by omega)) (by rw [HX.out]; simp) (by rw [HX.out]; exact h2.out), hk1.trans hk2⟩
set_option maxRecDepth 100000 in
theorem safeString_bm (s : ByteArray) (rs : List Nat) (ht : Txt s rs) (hn : NoM rs) (h : BM K w bp m o c) (hg : GoodT o (410 * c)) (hc : c ≤ 20) (hE : Env K w bp) :
    Calls Tryz.prog 87 #[.pointer (some ⟨bp, 0, none⟩), .string s] w (BMQ K bp w (.tuple #[]) 1 (o ++ rs) (c + 1)) := by
  have HT := Lib.hid (And.intro ht hn); clear ht hn
  have HM := Lib.hid (setMode_bm 1 (.inr (.inl rfl)) h hg hc hE)
  have HG := Lib.hid hg; clear hg hE h
  go_enter Tryz.func87, Tryz.ntmps87
  go_wp2_with fail
  refine HM.out.mono ?_
  rintro e w1 ⟨rfl, h1, hk1⟩
  obtain ⟨l, vu, R, hB, hl, hnx⟩ := h1.out.sfe HG.out hc
  have HN := Lib.hid hnx; clear hnx
  have HC := Lib.hid (writeString_any s hB (by omega) (by have := HT.out.1.le; omega) (fun h => by cases h))
  clear hB h1
  go_wp2_with fail
  refine HC.out.mono ?_
  rintro e w2 ⟨rfl, h2, hk2⟩
  go_wp2_with fail
  first | go_end0 | ((try simp only [Exit.inBlock, Exit.then]); refine bodyPost_ret (results_none rfl _ _ _) rfl ?_)
  exact ⟨rfl, HN.out _ _ HT.out.2 (by have := h2.out; rw [HT.out.1.en] at this; exact this), hk1.trans hk2⟩
set_option maxRecDepth 100000 in
theorem safeByte_bm (x : UInt8) (hx : x.toNat ≤ 127) (h : BM K w bp m o c) (hg : GoodT o (410 * c)) (hc : c ≤ 20) (hE : Env K w bp) :
    Calls Tryz.prog 95 #[.pointer (some ⟨bp, 0, none⟩), .int .u8 x.toNat] w (BMQ K bp w (.tuple #[]) 1 (o ++ [x.toNat]) (c + 1)) := by
  have HX : Hid (encs [x.toNat] = [x]) := by show _ = _; rw [encs_one, encL_ascii _ (by omega)]; simp
  have HM := Lib.hid (setMode_bm 1 (.inr (.inl rfl)) h hg hc hE)
  have HG := Lib.hid hg; clear hg hE h
  go_enter Tryz.func95, Tryz.ntmps95
  go_wp2_with fail
  refine HM.out.mono ?_
  rintro e w1 ⟨rfl, h1, hk1⟩
  obtain ⟨l, vu, R, hB, hl, hnx⟩ := h1.out.sfe HG.out hc
  have HN := Lib.hid hnx; clear hnx
  have HC := Lib.hid (writeByte_any x hB (by omega) (fun h => by cases h) (fun h => by cases h))
  clear hB h1
  go_wp2_with fail
  refine HC.out.mono ?_
  rintro e w2 ⟨rfl, h2, hk2⟩
  go_wp2_with fail
  first | go_end0 | ((try simp only [Exit.inBlock, Exit.then]); refine bodyPost_ret (results_none rfl _ _ _) rfl ?_)
  exact ⟨rfl, HN.out _ _ (asc_noM1 hx) (by rw [HX.out]; exact h2.out), hk1.trans hk2⟩
set_option maxRecDepth 100000 in
theorem safeRune_bm (x : Int) (hx0 : 0 ≤ x) (hx1 : x ≤ 127) (h : BM K w bp m o c) (hg : GoodT o (410 * c)) (hc : c ≤ 20) (hE : Env K w bp) :
    Calls Tryz.prog 93 #[.pointer (some ⟨bp, 0, none⟩), .int .i32 x] w (BMQ K bp w (.tuple #[]) 1 (o ++ [x.toNat]) (c + 1)) := by
  have HX : Hid (encs [x.toNat] = [UInt8.ofNat x.toNat]) := by show _ = _; rw [encs_one, encL_ascii _ (by omega)]
  have HM := Lib.hid (setMode_bm 1 (.inr (.inl rfl)) h hg hc hE)
  have HG := Lib.hid hg; clear hg hE h
  go_enter Tryz.func93, Tryz.ntmps93
  go_wp2_with fail
  refine HM.out.mono ?_
  rintro e w1 ⟨rfl, h1, hk1⟩
  obtain ⟨l, vu, R, hB, hl, hnx⟩ := h1.out.sfe HG.out hc
  have HN := Lib.hid hnx; clear hnx
  have HC := Lib.hid (writeRune_any x hx0 hx1 hB (by omega) (fun h => by cases h))
  clear hB h1
  go_wp2_with fail
  refine HC.out.mono ?_
  rintro e w2 ⟨rfl, h2, hk2⟩
  go_wp2_with fail
  first | go_end0 | ((try simp only [Exit.inBlock, Exit.then]); refine bodyPost_ret (results_none rfl _ _ _) rfl ?_)
  exact ⟨rfl, HN.out _ _ (asc_noM1 (by omega)) (by rw [HX.out]; exact h2.out), hk1.trans hk2⟩
/-- Bytes that lie in a block that was laid since. -/
theorem write_new (y : Value) (t : List UInt8) {l : List UInt8} {vu : Nat} {m : Int} {mo : Bool} {R : Nat → Option Value} (h : BufL K w bp l vu m mo R) (hy : BAt w y t) (hK : ∀ b n c, y = .slice (some b) n c → K b.block) (hll : l.length ≤ 50000) (htl : t.length ≤ 40000) (hz : m = 0 → mo = false → NoHash l) :
    Calls Tryz.prog 125 #[.pointer (some ⟨bp, 0, none⟩), y] w (BufQ K bp w (.tuple #[.int .i64 t.length, .nilIface]) (swl l m mo ++ t) (swv l vu m mo) m (swm m mo) R) :=
  write_any y t h hy (by omega) (by omega) hz (fun w' a' n' c' xs' vu' mo' _ hk => hy.kp hk fun b n c hv _ => hK b n c hv)
set_option maxRecDepth 100000 in
theorem unsafeBytes_bm (y : Value) (rs : List Nat) (hy : BAt w y (encs rs)) (hK : ∀ b n c, y = .slice (some b) n c → K b.block) (hsc : Scs rs) (hln : (encs rs).length ≤ 100) (h : BM K w bp m o c) (hg : GoodT o (410 * c)) (hc : c ≤ 20) (hE : Env K w bp) :
    Calls Tryz.prog 91 #[.pointer (some ⟨bp, 0, none⟩), y] w (BMQ K bp w (.tuple #[]) 0 (unsafeN o rs) (c + 1)) := by
  have HT := Lib.hid (And.intro hsc (And.intro hln (And.intro hy hK))); clear hsc hln hy hK
  have HM := Lib.hid (setMode_bm 0 (.inl rfl) h hg hc hE)
  have HG := Lib.hid hg; clear hg hE h
  go_enter Tryz.func91, Tryz.ntmps91
  go_wp2_with fail
  refine HM.out.mono ?_
  rintro e w1 ⟨rfl, h1, hk1⟩
  obtain ⟨l, vu, mo, R, hB, hl, hz, hnx⟩ := h1.out.uns HG.out hc
  have HN := Lib.hid hnx; clear hnx
  have HC := Lib.hid (write_new y (encs rs) hB (HT.out.2.2.1.kp hk1 fun b n c hv _ => HT.out.2.2.2 b n c hv) HT.out.2.2.2 hl (by have := HT.out.2.1; omega) (fun _ => hz))
  clear hB hz h1
  go_wp2_with fail
  refine HC.out.mono ?_
  rintro e w2 ⟨rfl, h2, hk2⟩
  go_wp2_with fail
  first | go_end0 | ((try simp only [Exit.inBlock, Exit.then]); refine bodyPost_ret (results_none rfl _ _ _) rfl ?_)
  exact ⟨rfl, HN.out _ _ HT.out.1 HT.out.2.1 h2.out, hk1.trans hk2⟩
/-- Print of a redactable text. -/
theorem IfAt.anti2 {K' : Nat → Prop} {v : Value} {xs : List Value} (h : IfAt K w v xs) (hk : ∀ k, K k → K' k) : IfAt K' w v xs := h.anti hk
set_option maxHeartbeats 1000000 in
set_option maxRecDepth 100000 in
theorem print_bm (v : Value) (s : ByteArray) (h : BM K w bp m o c) (hg : GoodT o (410 * c)) (hc : c ≤ 20) (hE : Env K w bp) (hv : IfAt K w v [.iface 50 (.string s)]) (hs : Txt s (runes s)) (hm : Mk (runes s)) :
    Calls Tryz.prog 88 #[.pointer (some ⟨bp, 0, none⟩), v] w (BMQ K bp w (.tuple #[]) 2 (o ++ runes s) (c + 1)) := by
  have HV := Lib.hid (And.intro hv (And.intro hE (And.intro hs hm))); clear hv hs hm
  have HM := Lib.hid (setMode_bm 2 (.inr (.inr rfl)) h hg hc hE)
  have HG := Lib.hid hg; clear hg hE h
  go_enter Tryz.func88, Tryz.ntmps88
  go_wp2_with fail
  refine HM.out.mono ?_
  rintro e w1 ⟨rfl, h1, hk1⟩
  obtain ⟨l, vu, R, hB, hl, hnx⟩ := h1.out.raw HG.out hc
  have HN := Lib.hid hnx; clear hnx
  have hlt := hB.lt
  have hE1 := HV.out.2.1.kp hk1
  have HC := Lib.hid (fprint_any v [⟨4, s, 0⟩] bp hB ⟨hE1.2.2.2, by have := hE1.2.2.1; omega⟩ ((HV.out.1.kp hk1).anti hB.hK) (by simp) (red_ok HV.out.2.2.1 HV.out.2.2.2) hl)
  rw [spr_red] at HC
  clear hB h1 hE1 hlt
  go_wp2_with fail
  refine HC.out.mono ?_
  rintro e w2 ⟨rfl, h2, hk2⟩
  go_wp2_with fail
  first | go_end0 | ((try simp only [Exit.inBlock, Exit.then]); refine bodyPost_ret (results_none rfl _ _ _) rfl ?_)
  exact ⟨rfl, HN.out _ _ h2.out, hk1.trans hk2⟩
end
end Go.Proofs.YtlmcglaajmjanaaGreatDoor
