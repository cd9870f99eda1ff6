/- Walks: Fprintf of a safe number into a builder; put, Build. -/
import Derived.Test.YtlmcglaajmjanaaGreatDoorBw
import Derived.Test.YtlmcglaajmjanaaGreatDoorPy
import Derived.Test.YtlmcglaajmjanaaGreatDoorJd
namespace Go.Proofs.YtlmcglaajmjanaaGreatDoor
open Go.RowKit
attribute [local irreducible] Utf8.encode Utf8.decode
section
variable {K : Nat → Prop} {w : World} {bp : Nat} {o : List Nat} {c : Nat} {m : Int} {l : List UInt8} {vu : Nat} {R : Nat → Option Value}
theorem fwrite1_any {w3 : World} (y : Value) (t : List UInt8) {bp : Nat} (h : BufL K w bp l vu 1 false R) (hy : BAt w3 y t) (hoff : OffK (· < w.heap.size) y) (hll : l.length ≤ 50000) (htl : t.length ≤ 40000) (hb : Below w.heap.size w w3) :
    Calls Tryz.prog 125 #[.pointer (some ⟨bp, 0, none⟩), y] w3 (FwQ K bp w (.tuple #[.int .i64 t.length, .nilIface]) (l ++ t) vu 1 false R) := by
  refine (write_any y t (h.keepN hb) hy (by omega) (by omega) (fun h => by cases h) (fun w' a' n' c' xs' vu' mo' _ hk => hy.kp hk fun b n c hv hlt => .inr ⟨by have := hoff b n c hv; omega, hlt⟩)).mono ?_
  rintro e w4 ⟨rfl, h4, hk4⟩
  exact ⟨rfl, h4.out.anti (fun k hk => .inl hk), (Kp.of_below h.hK hb).trans (hk4.anti fun k hk => .inl hk)⟩
theorem pce_nil : Pce [] := ⟨Scs.nil, NoM.nil, by simp [encs_nil], by simp [encs_nil]⟩
theorem GoodT.num {o : List Nat} {n : Nat} (h : GoodT o n) (k : Int) : GoodT (o ++ numN k) (n + 410) :=
  (h.safe (numN_sc _) (Mk.safe (numN_noM _)) (k := 21) (by rw [numN_enc]; exact numL_le k)).mono (by omega)
set_option maxHeartbeats 4000000 in
set_option maxRecDepth 100000 in
theorem fprintfInt_any (v : Value) (n : Int) (h0 : -9223372036854775808 ≤ n) (h1 : n ≤ 9223372036854775807) (h : BufL K w bp l vu 1 false R) (hT : TabW w) (hv : IfAt (· < w.heap.size) w v [.iface 101 (.int .i64 n)]) (hll : l.length ≤ 50000) :
    Calls Tryz.prog 124 #[.iface 118 (.pointer (some ⟨bp, 0, none⟩)), .string ⟨#[37, 100]⟩, v] w (BufQ K bp w (.tuple #[.int .i64 (encs (numN n)).length, .nilIface]) (l ++ encs (numN n)) vu 1 false R) := by
  have hP := newPP_pp w hT
  have hK0 : Kp (· < w.heap.size) w (initW (w.alloc (.cells Z0 89)).drew w.heap.size) := Kp.of_below (fun _ h => h) (initW_below w)
  have hD := doPrintf_any v ⟨#[37, 100]⟩ [[], []] [⟨.iface 101 (.int .i64 n), 100, fun o => o ++ numN n⟩] hP (hv.kp hK0) (by rfl) (fun x hx => by
      have : x = [] := by simpa using hx
      rw [this]; exact pce_nil) rfl (by simp) (by decide) (fun it hit => by
      obtain rfl := List.mem_singleton.1 hit
      exact ⟨.inr (.inr rfl), fun o w hps hg => printArg_3v n h0 h1 100 (.inr rfl) hps hg, fun o k hg => hg.num n⟩)
  have e : fmtN [] [[], []] ([⟨.iface 101 (.int .i64 n), 100, fun o => o ++ numN n⟩].map PIt.f) = numN n := by simp [fmtN]
  rw [e] at hD
  have HD := Lib.hid hD
  have HG : Hid (GoodT (numN n) 40000) := by
    have := (GoodT.nil.num n).mono (show 0 + 410 ≤ 40000 by omega)
    rwa [List.nil_append] at this
  have HK0 := Lib.hid hK0
  have HB := Lib.hid h
  clear hP hK0 hv hT h hD e
  generalize numN n = g at HD HG ⊢
  generalize hW : initW (w.alloc (.cells Z0 89)).drew w.heap.size = W at HD HK0
  have HW := Lib.hid hW; clear hW
  go_enter Tryz.func124, Tryz.ntmps124
  go_wp2_with fail
  refine (newPrinter_any w).mono ?_
  rintro e w1 ⟨rfl, hw1⟩
  obtain rfl : w1 = W := hw1.trans HW.out
  clear hw1
  go_wp2_with fail
  refine HD.out.mono ?_
  rintro e w2 ⟨rfl, h2, hb2⟩
  have H2 : Hid (Ps (· < w.heap.size) w2.drew w.heap.size g 0) := by
    obtain ⟨a, t, e1, e2, e3⟩ := h2.out
    exact ⟨a, t, e1, e2, e3.below (Below.refl _ _).drew⟩
  have hb2 : Kp (· < w.heap.size) w w2.drew := (HK0.out.trans hb2).drewN 1
  clear h2
  have hmf : ∀ (fn : Fn) (first cap : Array Value) (w : World), (Instr.makeFunc fn first cap).run Tryz.prog w = .ok (.func fn first cap) w := fun _ _ _ _ => rfl
  have nw := fun w => nil_write ⟨bp, 0, none⟩ w
  have mw := fun w => method_write ⟨bp, 0, none⟩ w
  go_upto_region 3 with fail
  go_cut [6, 7] (fun s4 s5 wx => s4 = .int .i64 (encs g).length ∧ s5 = .nilIface ∧ Hid (BufL K wx bp (l ++ encs g) vu 1 false R) ∧ Kp K w wx)
  case first =>
    go_region_with (first
      | (go_at_call 153; refine (takeF_ps H2.out HG.out).mono ?_; rintro e w3 ⟨y, rfl, hy, hb3⟩; have HWr := Lib.hid (fwrite1_any y (encs g) HB.out hy.out.1 hy.out.2 hll (by have := HG.out.le; omega) (hb2.trans hb3).below); clear hb3 hy)
      | (go_at_call 125; refine HWr.out.mono ?_; rintro e w4 ⟨rfl, h4, hk4⟩))
    all_goals (go_wp2_with fail; go_meet; exact ⟨rfl, rfl, h4, hk4⟩)
  case rest =>
    obtain ⟨rfl, rfl, h4, hk4⟩ := hcut
    go_wp2_with fail
    refine bodyPost_ret (v := .tuple #[.int .i64 (encs g).length, .nilIface]) (by simp [results, Tryz.results124, go_sem]) rfl ?_
    exact ⟨rfl, h4, hk4⟩
set_option maxHeartbeats 1000000 in
set_option maxRecDepth 100000 in
theorem safeInt_bm (n : Int) (h0 : -9223372036854775808 ≤ n) (h1 : n ≤ 9223372036854775807) (h : BM K w bp m o c) (hg : GoodT o (410 * c)) (hc : c ≤ 20) (hE : Env K w bp) :
    Calls Tryz.prog 89 #[.pointer (some ⟨bp, 0, none⟩), .int .i64 n] w (BMQ K bp w (.tuple #[]) 1 (o ++ numN n) (c + 1)) := by
  have HM := Lib.hid (setMode_bm 1 (.inr (.inl rfl)) h hg hc hE)
  have HG := Lib.hid (And.intro hg (And.intro hE (And.intro h0 h1))); clear hg hE h h0 h1
  go_enter Tryz.func89, Tryz.ntmps89
  go_wp2_with fail
  refine HM.out.mono ?_
  rintro e w1 ⟨rfl, h1, hk1⟩
  obtain ⟨l, vu, R, hB, hl, hnx⟩ := h1.out.sfe HG.out.1 hc
  have HN := Lib.hid hnx; clear hnx
  have hE1 := HG.out.2.1.kp hk1
  have hlt := hB.lt
  have hb2 : Below w1.heap.size w1 (w1.alloc (.cells #[.iface 101 (.int .i64 n)] 20)) := (Below.refl _ w1).alloc (Nat.le_refl _) _
  have hkb := Kp.of_below hB.hK hb2
  have HK2 := Lib.hid (hk1.trans hkb)
  have HC := Lib.hid (fprintfInt_any (.slice (some ⟨w1.heap.size, 0, none⟩) 1 1) n HG.out.2.2.1 HG.out.2.2.2 (hB.below hb2) ⟨(hE1.kp hkb).2.2.2, by have := hE1.2.2.1; have := hb2.size; omega⟩
    ⟨_, w1.heap.size, 0, 1, rfl, Nat.le_refl _, by decide, .inr ⟨rfl, by simp⟩, fun j hj => by
      obtain rfl : j = 0 := by simp at hj; omega
      exact cell_new _ _ _ _⟩ hl)
  clear hB h1 hE1 hb2 hkb
  go_wp2_with fail
  refine HC.out.mono ?_
  rintro e w2 ⟨rfl, h2, hk2⟩
  go_wp2_with fail
  first | go_end0 | ((try simp only [Exit.inBlock, Exit.then]); refine bodyPost_ret (results_none rfl _ _ _) rfl ?_)
  exact ⟨rfl, HN.out _ _ (numN_noM n) h2.out, HK2.out.trans hk2⟩
/-- '[]byte(s)', in a block of its own. -/
theorem toBytesK (w : World) (s : ByteArray) (src : TypeId) (hs : Tryz.prog.underlying src = some .string) (hsz : s.size ≤ 1000000) :
    ∃ v w', (convert src 31 (.string s)).run Tryz.prog w = .ok v w' ∧ BAt w' v s.data.toList ∧ (∀ b n c, v = .slice (some b) n c → w.heap.size ≤ b.block ∧ b.block < w'.heap.size) ∧ Below w.heap.size w w' := by
  obtain ⟨v, w', hc, hv, hb, hz⟩ := toBytes w s src hs hsz
  have h := run_bytes_of_string (P := Tryz.prog) w src 31 5 s hs Tryz.underlying31 Tryz.underlying5
  have e := hc.symm.trans h
  injection e with e1 e2
  refine ⟨v, w', hc, hv, fun b n c hv => ?_, hb⟩
  rw [e1] at hv
  injection hv with hv _ _
  injection hv with hv
  subst hv
  exact ⟨Nat.le_refl _, hz⟩
def PutQ (K : Nat → Prop) (bp : Nat) (w : World) (o : List Nat) (c : Nat) (e : Ending) (w' : World) : Prop := e = .returned (.tuple #[]) ∧ Hid (∃ m, BM K w' bp m o c) ∧ Kp K w w'
theorem byte_of (n : Int) (h0 : 0 ≤ n) (h1 : n ≤ 127) : ∃ x : UInt8, n = (x.toNat : Int) ∧ x.toNat = n.toNat ∧ x.toNat ≤ 127 := ⟨UInt8.ofNat n.toNat, by simp; omega, by simp; omega, by simp; omega⟩
set_option maxHeartbeats 2000000 in
set_option maxRecDepth 100000 in
theorem put_any (a : AArg) (ha : a.OkB) (h : BM K w bp m o c) (hg : GoodT o (410 * c)) (hc : c ≤ 20) (hE : Env K w bp) :
    Calls Tryz.prog 64 #[.pointer (some ⟨bp, 0, none⟩), a.val] w (PutQ K bp w (putB o a) (c + 1)) := by
  obtain ⟨k, s, n⟩ := a
  obtain ⟨hkd, htx, hsf, hmk, hn0, hn1, hnn⟩ := ha
  dsimp only at hkd htx hsf hmk hn0 hn1 hnn
  have hbx : Below w.heap.size w (w.alloc (.cells #[.int .i64 k, .string s, .int .i64 n] 47)) := (Below.refl _ w).alloc (Nat.le_refl _) _
  have hkx := Kp.of_below h.hK hbx
  have HE := Lib.hid (hE.kp hkx)
  have HH := Lib.hid (h.below hbx)
  have HK := Lib.hid hkx
  have HG := Lib.hid hg
  clear hbx hkx hE h hg
  have HT := Lib.hid htx; clear htx
  rcases hkd with rfl | rfl | rfl | rfl | rfl | rfl | rfl | rfl | rfl | rfl
  · clear hsf hmk hnn
    show Calls Tryz.prog 64 #[.pointer (some ⟨bp, 0, none⟩), .agg #[.int .i64 0, .string s, .int .i64 n]] w (PutQ K bp w (unsafeN o (runes s)) (c + 1))
    go_enter Tryz.func64, Tryz.ntmps64
    go_wp2_with fail
    refine (unsafeString_bm s _ HT.out HH.out HG.out hc HE.out).mono ?_
    rintro e w2 ⟨rfl, h2, hk2⟩
    go_wp2_with fail
    first | go_end0 | ((try simp only [Exit.inBlock, Exit.then]); refine bodyPost_ret (results_none rfl _ _ _) rfl ?_)
    exact ⟨rfl, ⟨_, h2.out⟩, HK.out.trans hk2⟩
  · have HS := Lib.hid (hsf rfl)
    clear hsf hmk hnn
    show Calls Tryz.prog 64 #[.pointer (some ⟨bp, 0, none⟩), .agg #[.int .i64 1, .string s, .int .i64 n]] w (PutQ K bp w (o ++ runes s) (c + 1))
    go_enter Tryz.func64, Tryz.ntmps64
    go_wp2_with fail
    refine (safeString_bm s _ HT.out HS.out HH.out HG.out hc HE.out).mono ?_
    rintro e w2 ⟨rfl, h2, hk2⟩
    go_wp2_with fail
    first | go_end0 | ((try simp only [Exit.inBlock, Exit.then]); refine bodyPost_ret (results_none rfl _ _ _) rfl ?_)
    exact ⟨rfl, ⟨_, h2.out⟩, HK.out.trans hk2⟩
  · clear hsf hmk hnn
    show Calls Tryz.prog 64 #[.pointer (some ⟨bp, 0, none⟩), .agg #[.int .i64 3, .string s, .int .i64 n]] w (PutQ K bp w (o ++ numN n) (c + 1))
    go_enter Tryz.func64, Tryz.ntmps64
    go_wp2_with fail
    refine (safeInt_bm n hn0 hn1 HH.out HG.out hc HE.out).mono ?_
    rintro e w2 ⟨rfl, h2, hk2⟩
    go_wp2_with fail
    first | go_end0 | ((try simp only [Exit.inBlock, Exit.then]); refine bodyPost_ret (results_none rfl _ _ _) rfl ?_)
    exact ⟨rfl, ⟨_, h2.out⟩, HK.out.trans hk2⟩
  · have HM := Lib.hid (hmk rfl)
    clear hsf hmk hnn
    show Calls Tryz.prog 64 #[.pointer (some ⟨bp, 0, none⟩), .agg #[.int .i64 4, .string s, .int .i64 n]] w (PutQ K bp w (o ++ runes s) (c + 1))
    generalize hW1 : w.alloc (.cells #[.int .i64 4, .string s, .int .i64 n] 47) = W1 at HH HK HE
    have hb2 : Below W1.heap.size W1 (W1.alloc (.cells #[.iface 50 (.string s)] 20)) := (Below.refl _ W1).alloc (Nat.le_refl _) _
    have hk1 := Kp.of_below HH.out.hK hb2
    have hE1 := HE.out.kp hk1
    have HC := Lib.hid (print_bm (.slice (some ⟨W1.heap.size, 0, none⟩) 1 1) s (HH.out.keepN hb2) HG.out hc ⟨.inl hE1.1, .inl hE1.2.1, hE1.2.2.1, hE1.2.2.2⟩ ⟨_, W1.heap.size, 0, 1, rfl, Nat.le_refl _, by decide, .inr ⟨rfl, .inr ⟨Nat.le_refl _, by simp⟩⟩, fun j hj => by
      obtain rfl : j = 0 := by simp at hj; omega
      exact cell_new _ _ _ _⟩ HT.out HM.out)
    have HK1 := Lib.hid (HK.out.trans hk1)
    have HW1 := Lib.hid hW1
    have e1 : W1.heap.size = w.heap.size + 1 := by rw [← hW1]; simp
    rw [e1] at HC
    clear hb2 hk1 hE1 hW1 e1
    go_enter Tryz.func64, Tryz.ntmps64
    go_wp2_with fail
    rw [HW1.out]
    refine HC.out.mono ?_
    rintro e w2 ⟨rfl, h2, hk2⟩
    go_wp2_with fail
    first | go_end0 | ((try simp only [Exit.inBlock, Exit.then]); refine bodyPost_ret (results_none rfl _ _ _) rfl ?_)
    exact ⟨rfl, ⟨_, h2.out.anti fun _ hk => .inl hk⟩, HK1.out.trans (hk2.anti fun _ hk => .inl hk)⟩
  · clear hsf hmk hnn
    show Calls Tryz.prog 64 #[.pointer (some ⟨bp, 0, none⟩), .agg #[.int .i64 5, .string s, .int .i64 n]] w (PutQ K bp w (unsafeN o (runes s)) (c + 1))
    go_enter Tryz.func64, Tryz.ntmps64
    go_wp2_with fail
    refine (writeString_bm s _ HT.out HH.out HG.out hc HE.out).mono ?_
    rintro e w2 ⟨rfl, h2, hk2⟩
    go_wp2_with fail
    first | go_end0 | ((try simp only [Exit.inBlock, Exit.then]); refine bodyPost_ret (results_none rfl _ _ _) rfl ?_)
    exact ⟨rfl, ⟨_, h2.out⟩, HK.out.trans hk2⟩
  · clear hsf hmk hnn
    show Calls Tryz.prog 64 #[.pointer (some ⟨bp, 0, none⟩), .agg #[.int .i64 6, .string s, .int .i64 n]] w (PutQ K bp w (unsafeN o (runes s)) (c + 1))
    have hsz := HT.out.le
    obtain ⟨y, W2, hconv, hy, hyK, hb2⟩ := toBytesK (w.alloc (.cells #[.int .i64 6, .string s, .int .i64 n] 47)) s 9 Tryz.underlying9 (by omega)
    rw [HT.out.en] at hy
    have hk1 := Kp.of_below HH.out.hK hb2
    have hE1 := HE.out.kp hk1
    have HC := Lib.hid (unsafeBytes_bm y (runes s) hy (fun b n c hv => .inr (hyK b n c hv)) HT.out.sc HT.out.len (HH.out.keepN hb2) HG.out hc ⟨.inl hE1.1, .inl hE1.2.1, hE1.2.2.1, hE1.2.2.2⟩)
    have HK1 := Lib.hid (HK.out.trans hk1)
    clear hk1 hE1 hy hyK hb2
    go_enter Tryz.func64, Tryz.ntmps64
    go_wp2_with fail
    refine HC.out.mono ?_
    rintro e w2 ⟨rfl, h2, hk2⟩
    go_wp2_with fail
    first | go_end0 | ((try simp only [Exit.inBlock, Exit.then]); refine bodyPost_ret (results_none rfl _ _ _) rfl ?_)
    exact ⟨rfl, ⟨_, h2.out.anti fun _ hk => .inl hk⟩, HK1.out.trans (hk2.anti fun _ hk => .inl hk)⟩
  · obtain ⟨n0, n1⟩ := hnn (by decide)
    clear hsf hmk hnn
    have ew : IntKind.i32.wrap n = n := by rw [IntKind.wrap_i32]; omega
    show Calls Tryz.prog 64 #[.pointer (some ⟨bp, 0, none⟩), .agg #[.int .i64 7, .string s, .int .i64 n]] w (PutQ K bp w (unsafeN o [n.toNat]) (c + 1))
    go_enter Tryz.func64, Tryz.ntmps64
    go_wp2_with fail
    refine (unsafeRune_bm n n0 n1 HH.out HG.out hc HE.out).mono ?_
    rintro e w2 ⟨rfl, h2, hk2⟩
    go_wp2_with fail
    first | go_end0 | ((try simp only [Exit.inBlock, Exit.then]); refine bodyPost_ret (results_none rfl _ _ _) rfl ?_)
    exact ⟨rfl, ⟨_, h2.out⟩, HK.out.trans hk2⟩
  · obtain ⟨n0, n1⟩ := hnn (by decide)
    clear hsf hmk hnn
    have ew : IntKind.i32.wrap n = n := by rw [IntKind.wrap_i32]; omega
    show Calls Tryz.prog 64 #[.pointer (some ⟨bp, 0, none⟩), .agg #[.int .i64 8, .string s, .int .i64 n]] w (PutQ K bp w (o ++ [n.toNat]) (c + 1))
    go_enter Tryz.func64, Tryz.ntmps64
    go_wp2_with fail
    refine (safeRune_bm n n0 n1 HH.out HG.out hc HE.out).mono ?_
    rintro e w2 ⟨rfl, h2, hk2⟩
    go_wp2_with fail
    first | go_end0 | ((try simp only [Exit.inBlock, Exit.then]); refine bodyPost_ret (results_none rfl _ _ _) rfl ?_)
    exact ⟨rfl, ⟨_, h2.out⟩, HK.out.trans hk2⟩
  · obtain ⟨n0, n1⟩ := hnn (by decide)
    clear hsf hmk hnn
    have ew : IntKind.u8.wrap n = n := by rw [IntKind.wrap_u8]; omega
    obtain ⟨x, hx1, hx2, hx3⟩ := byte_of n n0 n1
    have HC := Lib.hid (unsafeByte_bm x hx3 HH.out HG.out hc HE.out)
    rw [← hx1, hx2] at HC
    clear hx1 hx2 hx3
    show Calls Tryz.prog 64 #[.pointer (some ⟨bp, 0, none⟩), .agg #[.int .i64 9, .string s, .int .i64 n]] w (PutQ K bp w (unsafeN o [n.toNat]) (c + 1))
    go_enter Tryz.func64, Tryz.ntmps64
    go_wp2_with fail
    refine (HC.out).mono ?_
    rintro e w2 ⟨rfl, h2, hk2⟩
    go_wp2_with fail
    first | go_end0 | ((try simp only [Exit.inBlock, Exit.then]); refine bodyPost_ret (results_none rfl _ _ _) rfl ?_)
    exact ⟨rfl, ⟨_, h2.out⟩, HK.out.trans hk2⟩
  · obtain ⟨n0, n1⟩ := hnn (by decide)
    clear hsf hmk hnn
    have ew : IntKind.u8.wrap n = n := by rw [IntKind.wrap_u8]; omega
    obtain ⟨x, hx1, hx2, hx3⟩ := byte_of n n0 n1
    have HC := Lib.hid (safeByte_bm x hx3 HH.out HG.out hc HE.out)
    rw [← hx1, hx2] at HC
    clear hx1 hx2 hx3
    show Calls Tryz.prog 64 #[.pointer (some ⟨bp, 0, none⟩), .agg #[.int .i64 10, .string s, .int .i64 n]] w (PutQ K bp w (o ++ [n.toNat]) (c + 1))
    go_enter Tryz.func64, Tryz.ntmps64
    go_wp2_with fail
    refine (HC.out).mono ?_
    rintro e w2 ⟨rfl, h2, hk2⟩
    go_wp2_with fail
    first | go_end0 | ((try simp only [Exit.inBlock, Exit.then]); refine bodyPost_ret (results_none rfl _ _ _) rfl ?_)
    exact ⟨rfl, ⟨_, h2.out⟩, HK.out.trans hk2⟩
end
end Go.Proofs.YtlmcglaajmjanaaGreatDoor
