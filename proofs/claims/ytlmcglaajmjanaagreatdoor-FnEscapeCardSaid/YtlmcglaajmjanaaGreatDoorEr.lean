/- Walks: EscapeBytes, impl.Escape; the law FnEscape. (One text of three: a claim has at most sixty files.) -/
import Derived.Test.YtlmcglaajmjanaaGreatDoorZj
import Derived.Test.YtlmcglaajmjanaaGreatDoorCln
import Derived.Lib.AppendStr
import Derived.Test.YtlmcglaajmjanaaGreatDoorZk
import Derived.Deep.DeepCutAuto
/- Walks: EscapeBytes, impl.Escape; what they make in runes. -/
namespace Go.Proofs.YtlmcglaajmjanaaGreatDoor
open Go.RowKit
attribute [local irreducible] Utf8.encode Utf8.decode
theorem last_tail {q : Nat} {b : List Nat} (h : (q :: b).getLast? ≠ some 10) : b.getLast? ≠ some 10 := by
  cases b with
  | nil => simp
  | cons x b => rw [List.getLast?_cons_cons] at h; exact h
/-- What is escaped does not end with a marker that begins, where the text does not end with a new line. -/
theorem imp_end : ∀ (n : Nat) (s o : List Nat), s.length ≤ n → Scs o → Scs s → (s ≠ [] ∨ o.getLast? ≠ some 8249) → s.getLast? ≠ some 10 → ∃ y, Scs y ∧ escGo true (encs o) (encs s) = encs y ∧ y.getLast? ≠ some 8249 := by
  intro n
  induction n with
  | zero =>
    intro s o hn ho hs hc _
    have : s = [] := List.eq_nil_of_length_eq_zero (by omega)
    subst this
    exact ⟨o, ho, by rw [encs_nil, escGo_nil], by simpa using hc⟩
  | succ n ih =>
    intro s o hn ho hs hc hlast
    cases s with
    | nil => exact ih [] o (by simp) ho hs hc hlast
    | cons r t =>
      by_cases hr : r = 10
      · obtain ⟨k, b, hkb, hb⟩ := nl_split (r :: t)
        have hk : 0 < k := by
          rcases Nat.eq_zero_or_pos k with rfl | hk
          · simp at hkb; rw [← hkb] at hb; simp [hr] at hb
          · exact hk
        obtain ⟨k, rfl⟩ : ∃ j, k = j + 1 := ⟨k - 1, by omega⟩
        rw [hkb] at hs hn hlast ⊢
        have hbs : Scs b := hs.right
        have hw := nl_while (encs b) (encs_head hbs hb) (k + 1)
        have hhd : (encs (List.replicate (k + 1) 10 ++ b)).head? = some 10 := by rw [encs_append, encs_nl]; rfl
        rw [escGo_nl _ hhd]
        rw [encs_append, encs_nl, hw.1, hw.2]
        have hX : (if Lib.hasSuffix (encs o) mkS then (encs o).take ((encs o).length - 3) else encs o ++ mkE) = encs (closeN o) := closeL_enc ho
        rw [hX]
        have hen : encs (closeN o) ++ List.replicate (k + 1) 10 ++ mkS = encs (closeN o ++ List.replicate (k + 1) 10 ++ [8249]) := by rw [encs_append, encs_append, encs_nl, encs_one, encS]
        rw [hen]
        have hnl : Scs (List.replicate (k + 1) 10) := fun x hx => by rw [(List.mem_replicate.1 hx).2]; exact sc_lt (by omega)
        have hsc : Scs (closeN o ++ List.replicate (k + 1) 10) := ho.closeN.append hnl
        cases b with
        | nil => exfalso; apply hlast; rw [List.append_nil, List.getLast?_replicate]; simp
        | cons q b =>
          have hq : q ≠ 10 := by simpa using hb
          rw [encs_cons, escGo_rune hbs.head (by simpa using hq), ← encs_one, ← encs_append]
          refine ih b _ ?_ ((hsc.append (Scs.one scS)).append (Scs.one (sc_esc hbs.head))) hbs.tail (.inr ?_) (last_tail (q := q) ?_)
          · simp at hn; omega
          · simp; exact escN_S q
          · rw [List.getLast?_append] at hlast
            intro h; rw [h] at hlast; simp at hlast
      · rw [encs_cons, escGo_rune hs.head (by simpa using hr), ← encs_one, ← encs_append]
        refine ih t _ (by simp at hn; omega) (ho.append (Scs.one (sc_esc hs.head))) hs.tail (.inr ?_) (last_tail hlast)
        simp; exact escN_S r
/-- What EscapeBytes makes is what the reference says. -/
theorem escapeBytes_enc {s : List Nat} (hs : Scs s) (hne : s ≠ []) (hl : s.getLast? ≠ some 10) : escT (mkS ++ encs s) 3 true ++ mkE = encs (unsafeN [] s) := by
  have h1 := unsafe_impl Scs.nil hs hne
  have h2 : openL (encs []) = encs [8249] := by rw [encs_one, encS]; rfl
  rw [h2] at h1
  obtain ⟨y, hy, he, hlast⟩ := imp_end _ s [8249] (Nat.le_refl _) (Scs.one scS) hs (.inl hne) hl
  rw [he, closeL_enc hy] at h1
  have h3 : closeN y = y ++ [8250] := by unfold closeN; rw [if_neg (by simpa using hlast)]
  rw [h3, encs_append, encs_one, encE] at h1
  rw [← h1]
  have h4 : escT (mkS ++ encs s) 3 true = escGo true mkS (encs s) := by
    unfold escT
    rw [List.take_left' (show mkS.length = 3 from rfl), List.drop_left' (show mkS.length = 3 from rfl)]
  rw [h4]
  rw [encs_one, encS] at he
  rw [he]
/-- 'append(v, s...)' of a string. -/
theorem Own.appendS {w : World} {B : Nat} {v : Value} {l : List UInt8} (h : Own w B v l) (s : ByteArray) (hsz : l.length + s.size ≤ 1000000) (hB : B ≤ w.heap.size) (ty u : TypeId) (hu : Tryz.prog.underlying u = some .string) :
    ∃ v' w', (Builtin.append_ #[31, u] ty #[v, .string s]).run Tryz.prog w = .ok v' w' ∧ Own w' B v' (l ++ s.data.toList) ∧ w.grownBy w' v.ownBlock := by
  obtain ⟨i0, hi, hz0, hz1, hz2⟩ := info_parts Tryz.infoB
  obtain ⟨v', w', hr, ho, hg, _⟩ := Lib.run_append_own_string (P := Tryz.prog) w B 31 u ty 5 i0 Tryz.underlying31 hu hi hz0 hz1 hz2 v l.length (Lib.byteCells l) h s (by unfold maxLen; omega) (by omega) hB
  refine ⟨v', w', hr, ?_, hg⟩
  have hlen : s.data.toList.length = s.size := (Lib.size_eq s).symm
  unfold Own
  rw [List.length_append, hlen, Lib.byteCells, List.map_append]; exact ho
theorem wpList_appendS_known (w : World) {ops : Array Oper} {rest : List Oper} {o : Oper} {a : Act} {Q : Exit → Act → World → Prop} {u0 : TypeId} (hgd : o.guard = none) (s x : Operand)
    (ho : o.op = .call { callee := .builtin .append, args := #[s, x], argTypes := #[31, u0] }) (v u : Value) (hs : a.eval s = v) (hx : a.eval x = u) {v' : Value} {w' : World}
    (hr : (Builtin.append_ #[31, u0] o.type #[v, u]).run Tryz.prog w = .ok v' w') (h : wpList Tryz.prog ops Q rest (a.put o.dst v') w') : wpList Tryz.prog ops Q (o :: rest) a w := by
  refine wpList_plain hgd fun K hK => ?_
  unfold Oper.wp execOp
  simp only [ho, resolve, invoke, builtin, Sem.run_bind, Sem.run_pure, Result.andThen_ok, List.map_toArray, List.map_cons, List.map_nil, hs, hx, hr]
  exact hK _ _ h
set_option maxHeartbeats 1000000 in
set_option maxRecDepth 100000 in
theorem rfmtEscape_any (s : Value) (l : List UInt8) (w : World) (hs : BAt w s l) (hl : l.length ≤ 400) (hT : TabW w) (hbad : badEnd (mkS ++ l) = false) (hgl : (escT (mkS ++ l) 3 true).length ≤ 90000) : Calls Tryz.prog 56 #[s] w (BytesQ (escT (mkS ++ l) 3 true ++ mkE) w) := by
  have hlen := hs.len 3
  obtain ⟨w1, hmk, hown1, hb1⟩ := Own.make w (l.length + 6) (by omega)
  rw [show ((l.length + 6 : Nat) : Int) = (l.length : Int) + 3 + 3 by omega] at hmk
  have hz1 := hb1.size
  obtain ⟨v2, w2, hap2, hown2, hg2⟩ := hown1.appendS ⟨#[226, 128, 185]⟩ (by simp [ByteArray.size]) hz1 31 9 Tryz.underlying9
  have hb2 : Below w.heap.size w w2 := hb1.grown hg2 hz1 (fun k hk => hown1.blk k hk)
  have hlen2 := hown2.bat.len 3
  obtain ⟨v3, w3, hap3, hown3, hg3⟩ := hown2.append (hs.below hb2) (by simp; omega) hb2.size 31
  have hb3 : Below w.heap.size w w3 := hb2.grown hg3 hb2.size (fun k hk => hown2.blk k hk)
  have hown3' : Own w3 w.heap.size v3 (mkS ++ l) := hown3
  have HT := Lib.hid (hT.below hb3)
  have HB := Lib.hid (And.intro hown3' hb3)
  have HBad := Lib.hid hbad
  have HGL := Lib.hid hgl
  clear hs hown1 hb1 hz1 hown2 hg2 hb2 hown3 hg3 hown3' hb3 hT hbad hgl
  obtain ⟨g, hg⟩ : ∃ g, escT (mkS ++ l) 3 true = g := ⟨_, rfl⟩
  rw [hg] at HGL
  have HG := Lib.hid hg
  rw [hg]
  clear hg
  go_enter Tryz.func56, Tryz.ntmps56
  go_wp2_with (first | (at_builtin; refine wpList_appendS_known _ rfl _ _ rfl _ _ rfl rfl hap2 ?_) | (at_builtin; refine wpList_append_known _ rfl _ _ rfl _ _ rfl rfl hap3 ?_))
  refine (escBytes_true v3 (mkS ++ l) 3 3 rfl w3 HB.out.1.bat (by simp [mkS]; omega) (by simp [mkS]) HT.out.1 HT.out.2 HBad.out).mono ?_
  rw [HG.out]
  rintro e w4 ⟨v4, rfl, hv4, hb4⟩
  have hb := HB.out.2.trans (hb4.mono HB.out.2.size)
  have hown4 : Own w4 w.heap.size v4 g := by
    rcases hv4.out with ⟨rfl, rfl⟩ | h
    · exact HB.out.1.below hb4
    · exact h.base HB.out.2.size
  obtain ⟨v5, w5, hap5, hown5, hg5⟩ := hown4.appendS ⟨#[226, 128, 186]⟩ (by simp [ByteArray.size]; have := HGL.out; omega) hb.size 31 9 Tryz.underlying9
  have hb5 : Below w.heap.size w w5 := hb.grown hg5 hb.size (fun k hk => hown4.blk k hk)
  have HV := Lib.hid (And.intro hown5 hb5)
  clear hown5 hb5 hg5 hown4 hb hb4 hv4 HT HB
  go_wp2_with (at_builtin; refine wpList_appendS_known _ rfl _ _ rfl _ _ rfl rfl hap5 ?_)
  go_ret
  exact ⟨v5, rfl, HV.out.1.bat, HV.out.2⟩
end Go.Proofs.YtlmcglaajmjanaaGreatDoor

/- Walk of impl.Escape. -/
namespace Go.Proofs.YtlmcglaajmjanaaGreatDoor
open Go.RowKit
attribute [local irreducible] Utf8.encode Utf8.decode
def OwnQ (l : List UInt8) (w : World) (e : Ending) (w' : World) : Prop := ∃ v, e = .returned v ∧ Hid (Own w' w.heap.size v l) ∧ Below w.heap.size w w'
set_option maxHeartbeats 1000000 in
theorem cloneF_any (s : Value) (l : List UInt8) (w : World) (hs : BAt w s l) (hl : l.length ≤ 100000) : Calls Tryz.prog 51 #[s] w (OwnQ l w) := by
  have q22 : ∀ (w : World) (a : Option Addr) (n c n' c' : Nat), (binOp .eql 31 (.slice a n c) (.slice none n' c')).run Tryz.prog w = .ok (.bool a.isNone) w := fun w a n c n' c' => Lib.run_eql_slice_nil w _ _ a n c n' c' Tryz.underlying31
  obtain ⟨p, n, c, rfl, hpl⟩ : ∃ p n c, s = .slice p n c ∧ (p = none → l = []) := by
    obtain ⟨p, b, o, c, hv, hc, hm, hp, hx⟩ := hs
    refine ⟨p, _, c, hv, fun hn => ?_⟩
    rcases hp with hp | hp
    · exact hp.1
    · rw [hn] at hp; cases hp
  cases p with
  | none =>
    have HE := Lib.hid (hpl rfl); clear hpl hs
    go_enter Tryz.func51, Tryz.ntmps51
    go_wp2_with fail
    go_ret
    exact ⟨_, rfl, by show Own _ _ _ _; rw [HE.out]; exact Own.nil _ _, Below.refl _ _⟩
  | some a =>
    clear hpl
    have hown0 : Own (w.alloc (.cells #[] 5)) w.heap.size (.slice (some ⟨w.heap.size, 0, none⟩) 0 0) [] := World.ownsRow_made w #[] 0 (Nat.le_refl _) (Nat.zero_le _) rfl
    have hb0 : Below w.heap.size w (w.alloc (.cells #[] 5)) := (Below.refl _ w).alloc (Nat.le_refl _) _
    obtain ⟨v', w1, hap, hown, hg⟩ := hown0.append (hs.below hb0) (by simp; omega) (by simp) 31
    have hb1 : Below w.heap.size w w1 := hb0.grown hg (by simp) (by intro k hk; simp [Value.ownBlock] at hk; omega)
    have HO := Lib.hid hown; clear hown hown0 hg hb0 hs
    go_enter Tryz.func51, Tryz.ntmps51
    go_wp2_with (at_builtin; refine wpList_append_known _ rfl _ _ rfl _ _ rfl rfl hap ?_)
    go_ret
    exact ⟨v', rfl, by show Own _ _ _ _; simpa using HO.out, hb1⟩
/-- The row of a slice lies in no block below B. -/
def Fresh (B : Nat) (v : Value) : Prop := ∀ b n c, v = .slice (some b) n c → B ≤ b.block
theorem Own.fresh {w : World} {B : Nat} {v : Value} {l : List UInt8} (h : Own w B v l) : Fresh B v := by
  intro b n c hv
  exact h.blk _ (by rw [hv]; rfl)
def CloBQ (ob : Nat) (l : List UInt8) (w : World) (e : Ending) (w' : World) : Prop := ∃ v, e = .returned (.tuple #[]) ∧ Hid (BAt w' v l ∧ Fresh w.heap.size v) ∧ w'.cell? ⟨ob, 0, none⟩ = some v ∧ Kp (But w ob) w w'
def TriBQ (ob : Nat) (l : List UInt8) (w : World) (e : Ending) (w' : World) : Prop := ∃ v, e = .returned (.bool true) ∧ Hid (BAt w' v l ∧ Fresh w.heap.size v) ∧ w'.cell? ⟨ob, 0, none⟩ = some v ∧ Kp (But w ob) w w'
set_option maxHeartbeats 1000000 in
theorem escapeClo_any (s : Value) (l : List UInt8) (lb ob : Nat) (v0 : Value) (w : World) (hT : TabW w) (hs : BAt w s l) (hl : l.length ≤ 400) (hbad : badEnd (mkS ++ l) = false) (hgl : (escT (mkS ++ l) 3 true).length ≤ 90000)
    (cl : w.cell? ⟨lb, 0, none⟩ = some s) (co : w.cell? ⟨ob, 0, none⟩ = some v0) (fo : w.frozen? ⟨ob, 0, none⟩ = false) (hv0 : ∃ q n c, v0 = .slice q n c) :
    Calls Tryz.prog 55 #[.pointer (some ⟨lb, 0, none⟩), .pointer (some ⟨ob, 0, none⟩)] w (CloBQ ob (escT (mkS ++ l) 3 true ++ mkE) w) := by
  obtain ⟨q0, n0, c0, rfl⟩ := hv0
  have hob := World.block_lt_of_cell? w _ co
  have HV := Lib.hid (cloneF_any s l w hs (by omega))
  have HT := Lib.hid hT
  have HBad := Lib.hid hbad
  have HGL := Lib.hid hgl
  clear hs hT hbad hgl
  obtain ⟨g, hg⟩ : ∃ g, escT (mkS ++ l) 3 true = g := ⟨_, rfl⟩
  have HG := Lib.hid hg
  rw [hg]
  clear hg
  go_enter Tryz.func55, Tryz.ntmps55
  go_wp2_with fail
  refine HV.out.mono ?_
  rintro e w1 ⟨v1, rfl, hv1, hb1⟩
  have HS := Lib.hid (rfmtEscape_any v1 l w1 hv1.out.bat hl (HT.out.below hb1) HBad.out HGL.out)
  rw [HG.out] at HS HGL
  clear hv1
  go_wp2_with fail
  refine HS.out.mono ?_
  rintro e w2 ⟨v2, rfl, hv2, hb2⟩
  have hb := hb1.trans (hb2.mono hb1.size)
  clear hb1 hb2
  go_wp2_with fail
  refine (cloneF_any v2 _ w2 hv2.out (by have := HGL.out; simp [mkE]; omega)).mono ?_
  rintro e w3 ⟨v3, rfl, hv3, hb3⟩
  have hfr := hv3.out.fresh
  have hbt := hv3.out.bat
  have hfr2 : Fresh w.heap.size v3 := fun b n c h => Nat.le_trans hb.size (hfr b n c h)
  have hb := hb.trans (hb3.mono hb.size)
  have co2 := (hb.cell (p := ⟨ob, 0, none⟩) hob).trans co
  have fo2 := (hb.frozen (p := ⟨ob, 0, none⟩) hob).trans fo
  obtain ⟨q3, c3, hq3⟩ : ∃ q c, v3 = .slice q (g ++ mkE).length c := by
    obtain ⟨p, b, o, c, hv, _⟩ := hbt
    exact ⟨p, c, hv⟩
  generalize (g ++ mkE).length = n3 at hq3
  subst hq3
  have HB := Lib.hid (And.intro hbt hfr2)
  clear hb3 co fo hv2 hv3 hfr hfr2 hbt
  go_wp2_with fail
  first | go_end0 | ((try simp only [Exit.inBlock, Exit.then]); refine bodyPost_ret (results_none rfl _ _ _) rfl ?_)
  exact ⟨_, rfl, ⟨HB.out.1.setCell ob (fun b c n h _ => by have := HB.out.2 b n c h; omega) 0 _, HB.out.2⟩, cell_set co2, (Kp.of_below (fun k hk => hk.1) hb).setCell (fun hk => hk.2 rfl) _ _⟩
theorem tried_escape (lb : Nat) (ob : Nat) (l : List UInt8) (w : World) (hob : ob < w.heap.size)
    (hC : Calls Tryz.prog 55 #[.pointer (some ⟨lb, 0, none⟩), .pointer (some ⟨ob, 0, none⟩)] (w.alloc (.cells #[.bool false] 4)) (CloBQ ob l (w.alloc (.cells #[.bool false] 4)))) :
    Calls Tryz.prog 47 #[.func (.func 55) #[] #[.pointer (some ⟨lb, 0, none⟩), .pointer (some ⟨ob, 0, none⟩)]] w (TriBQ ob l w) := by
  have hmf : ∀ (fn : Fn) (first cap : Array Value) (w : World), (Instr.makeFunc fn first cap).run Tryz.prog w = .ok (.func fn first cap) w := fun _ _ _ _ => rfl
  have HC := Lib.hid hC; clear hC
  go_enter_defers Tryz.func47, Tryz.ntmps47
  go_wp2_with fail
  refine HC.out.mono ?_
  rintro e w1 ⟨y, rfl, hy, hcy, hb⟩
  have hrb : But (w.alloc (.cells #[.bool false] 4)) ob w.heap.size := ⟨by simp, by omega⟩
  have hr : w1.cell? ⟨w.heap.size, 0, none⟩ = some (.bool false) := (hb.cell hrb 0).trans (cell_new _ _ _ _)
  have hf : w1.frozen? ⟨w.heap.size, 0, none⟩ = false := (hb.frozen hrb 0).trans (frozen_new _ _ _ _)
  have HY := Lib.hid (And.intro hcy hb); clear hcy hb
  go_wp2_with fail
  refine leaves_cons (f := 74) (args := #[.pointer (some ⟨w.heap.size, 0, none⟩)]) (by simp) (by simp [go_sem]) ?_
  refine (tried1_idle _ _).mono ?_
  rintro e u' w'' ⟨rfl, rfl, rfl⟩
  have hcell := cell_set (v := .bool true) hr
  have hfr : ∀ b n c, y = .slice (some b) n c → w.heap.size + 1 ≤ b.block := fun b n c h => by have := hy.out.2 b n c h; simpa using this
  simp only [Leaves, settle]
  refine ⟨.bool true, by simp [results, Tryz.results47, go_sem, hr], y, rfl, ⟨hy.out.1.setCell w.heap.size (fun b c n h _ => by have := hfr b n c h; omega) 0 _, fun b n c h => by have := hfr b n c h; omega⟩, ?_, ?_⟩
  · exact (World.cell?_of_block (Below.heap_setCell _ _ _ _ (show ob ≠ w.heap.size by omega))).trans HY.out.1
  · exact (((Kp.of_below (fun k hk => hk.1) ((Below.refl _ w).alloc (Nat.le_refl _) _) : Kp (But w ob) w _)).trans (HY.out.2.anti fun k hk => ⟨Nat.lt_of_lt_of_le hk.1 (by simp), hk.2⟩)).setCell (fun hk => Nat.lt_irrefl _ hk.1) _ _
set_option maxHeartbeats 1000000 in
theorem implEscape_any (s : Value) (l : List UInt8) (w : World) (hT : TabW w) (hs : BAt w s l) (hl : l.length ≤ 400) (hbad : badEnd (mkS ++ l) = false) (hgl : (escT (mkS ++ l) 3 true).length ≤ 90000) :
    Calls Tryz.prog 28 #[s] w (BytesQ (escT (mkS ++ l) 3 true ++ mkE) w) := by
  have hlen0 := hs.len 3
  obtain ⟨q, n, c, rfl⟩ : ∃ q n c, s = .slice q n c := by
    obtain ⟨p, b, o, c, hv, _⟩ := hs
    exact ⟨p, _, c, hv⟩
  have hn : n = l.length := by
    obtain ⟨p, b, o, c, hv, _⟩ := hs
    injection hv
  have hmf : ∀ (fn : Fn) (first cap : Array Value) (w : World), (Instr.makeFunc fn first cap).run Tryz.prog w = .ok (.func fn first cap) w := fun _ _ _ _ => rfl
  have hd : decide ((n : Int) ≤ 400) = true := by simp; omega
  have hd2 : decide (n ≤ 400) = true := by simp; omega
  clear hlen0 hn
  generalize hW : (w.alloc (.cells #[.slice q n c] 31)).alloc (.cells #[.slice none 0 0] 31) = W
  have hbW : Below w.heap.size w W := by rw [← hW]; exact ((Below.refl _ w).alloc (Nat.le_refl _) _).alloc (by simp) _
  have hsz : W.heap.size = w.heap.size + 2 := by rw [← hW]; simp
  have hl0 : W.cell? ⟨w.heap.size, 0, none⟩ = some (.slice q n c) := by
    rw [← hW]
    have h1 := cell_new w #[.slice q n c] 31 0
    exact (World.cell?_alloc_past _ _ _ (by simp)).trans h1
  have ho0 : W.cell? ⟨w.heap.size + 1, 0, none⟩ = some (.slice none 0 0) := by
    have h1 := cell_new (w.alloc (.cells #[.slice q n c] 31)) #[.slice none 0 0] 31 0
    rw [show (w.alloc (.cells #[.slice q n c] 31)).heap.size = w.heap.size + 1 by simp, hW] at h1
    exact h1
  have hf0 : W.frozen? ⟨w.heap.size + 1, 0, none⟩ = false := by
    have h1 := frozen_new (w.alloc (.cells #[.slice q n c] 31)) #[.slice none 0 0] 31 0
    rw [show (w.alloc (.cells #[.slice q n c] 31)).heap.size = w.heap.size + 1 by simp, hW] at h1
    exact h1
  have hba : Below W.heap.size W (W.alloc (.cells #[.bool false] 4)) := (Below.refl _ W).alloc (Nat.le_refl _) _
  have hl1 := (hba.cell (p := ⟨w.heap.size, 0, none⟩) (by show w.heap.size < _; omega)).trans hl0
  have ho1 := (hba.cell (p := ⟨w.heap.size + 1, 0, none⟩) (by show w.heap.size + 1 < _; omega)).trans ho0
  have hf1 := (hba.frozen (p := ⟨w.heap.size + 1, 0, none⟩) (by show w.heap.size + 1 < _; omega)).trans hf0
  have hT3 : TabW (W.alloc (.cells #[.bool false] 4)) := (hT.below hbW).below hba
  have HTR := Lib.hid (tried_escape w.heap.size (w.heap.size + 1) _ W (by omega) (escapeClo_any _ l w.heap.size (w.heap.size + 1) _ _ hT3 ((hs.below hbW).below hba) hl hbad hgl hl1 ho1 hf1 ⟨_, _, _, rfl⟩))
  have HR := Lib.hid (And.intro hbW hsz)
  have HW := Lib.hid hW
  clear hbW hsz ho0 hf0 hba hl1 ho1 hf1 hT3 hs hT hbad hgl hW
  generalize escT (mkS ++ l) 3 true ++ mkE = g at HTR ⊢
  go_enter Tryz.func28, Tryz.ntmps28
  go_upto_region 2 with fail
  rw [HW.out]
  go_wp2_with fail
  refine HTR.out.mono ?_
  rintro e w4 ⟨y, rfl, hy, hcy, hk4⟩
  go_wp2_with fail
  go_ret
  exact ⟨y, rfl, hy.out.1, Kp.below_but HR.out.1 (by have := HR.out.2; omega) (by omega) hk4⟩
end Go.Proofs.YtlmcglaajmjanaaGreatDoor

/- Walk of the law FnEscape. -/
namespace Go.Proofs.YtlmcglaajmjanaaGreatDoor
open Go.RowKit
attribute [local irreducible] Utf8.encode Utf8.decode
theorem last_nl {s : ByteArray} {o : List Nat} (he : s.data.toList = encs o) (hp : 0 < s.size) (hx : ((s[s.size - 1]'(by omega)).toNat : Int) ≠ 10) : o.getLast? ≠ some 10 := by
  intro h
  rcases List.eq_nil_or_concat o with rfl | ⟨a, r, rfl⟩
  · cases h
  · rw [List.concat_eq_append] at h he
    simp at h
    subst h
    rw [encs_append, encs_one, enc10] at he
    have hl : s.size = (encs a).length + 1 := by rw [Lib.size_eq, he]; simp
    have h1 : s.data.toList[s.size - 1]? = some (s[s.size - 1]'(by omega)) := by
      rw [List.getElem?_eq_getElem (by rw [← Lib.size_eq]; omega)]; rfl
    rw [he] at h1
    have h2 : (encs a ++ [10])[s.size - 1]? = some 10 := by rw [hl, Nat.add_sub_cancel]; simp
    rw [h2] at h1
    injection h1 with h1
    apply hx
    rw [← h1]; rfl
set_option maxHeartbeats 1000000 in
set_option maxRecDepth 100000 in
theorem fnEscape_any (s : ByteArray) (w : World) (hs : s.size ≤ 9223372036854775807) (hT : TabW w) : Calls Tryz.prog 8 #[.string s] w (ValQ (.bool true) w) := by
  have HTab := Lib.hid hT; clear hT
  by_cases hz : s.size ≤ 2147483647
  · have hd : decide ((2147483647 : Int) < (s.size : Int)) = false := by simp; omega
    have hd2 : decide (2147483647 < s.size) = false := by simp; omega
    have HP := Lib.hid (isPlain_any s w hs)
    cases hp : plainB s.data.toList with
    | false =>
      rw [hp] at HP
      clear hp
      go_enter Tryz.func8, Tryz.ntmps8
      go_wp2_with fail
      refine HP.out.mono ?_
      rintro e w1 ⟨rfl, hb1⟩
      go_wp2_with fail
      go_ret
      exact ⟨rfl, hb1⟩
    | true =>
      rw [hp] at HP
      by_cases h0 : s.size = 0
      · have hq : ((s.size : Int) == 0) = true := by rw [h0]; rfl
        clear hp
        go_enter Tryz.func8, Tryz.ntmps8
        go_wp2_with fail
        refine HP.out.mono ?_
        rintro e w1 ⟨rfl, hb⟩
        go_wp2_with fail
        go_ret
        exact ⟨rfl, hb⟩
      · have hq : ((s.size : Int) == 0) = false := beq_eq_false_iff_ne.2 (by omega)
        have hix : ∀ w, (Instr.index 9 (.string s) (.int .i64 ((s.size : Int) - 1))).run Tryz.prog w = .ok (.int .u8 ((s[s.size - 1]'(by omega)).toNat : Int)) w := by
          intro w
          rw [run_index_string w 9 s .i64 _ Tryz.underlying9, dif_pos (by omega)]
          congr 4
          simp only [show ((s.size : Int) - 1).toNat = s.size - 1 by omega]
        have HL := Lib.hid (fun o (he : s.data.toList = encs o) (hx : ((s[s.size - 1]'(by omega)).toNat : Int) ≠ 10) => last_nl he (by omega) hx)
        obtain ⟨x, hx⟩ : ∃ x : Int, ((s[s.size - 1]'(by omega)).toNat : Int) = x := ⟨_, rfl⟩
        rw [hx] at HL
        simp only [hx] at hix
        clear hx
        by_cases hx : x = 10
        · have hx2 : (x == 10) = true := beq_iff_eq.2 hx
          clear hp HL hx
          go_enter Tryz.func8, Tryz.ntmps8
          go_wp2_with fail
          refine HP.out.mono ?_
          rintro e w1 ⟨rfl, hb⟩
          go_wp2_with fail
          go_ret
          exact ⟨rfl, hb⟩
        · have hx2 : (x == 10) = false := beq_eq_false_iff_ne.2 hx
          have hl8 := plainB_len hp
          have hlen : s.data.toList.length = s.size := (Lib.size_eq s).symm
          have hsz : s.size ≤ 80 := by omega
          obtain ⟨hsc, he⟩ := plainB_encs hp
          obtain ⟨o, ho⟩ : ∃ o, runesL s.data.toList = o := ⟨_, rfl⟩
          rw [ho] at hsc he
          have hol : (encs o).length ≤ 80 := by rw [← he]; exact hl8
          have hlast := HL.out o he hx
          have hne : o ≠ [] := by rintro rfl; rw [he, encs_nil] at hlen; simp at hlen; omega
          have hEB := escapeBytes_enc hsc hne hlast
          have hle := unsafeN_le (o := []) hsc
          have hgl : (escT (mkS ++ encs o) 3 true).length ≤ 90000 := by
            have := congrArg List.length hEB
            rw [encs_nil] at hle
            simp at this hle; omega
          have hbad : badEnd (mkS ++ encs o) = false := by
            have := badEnd_enc (hsc.cons scS)
            rwa [encs_cons, encS] at this
          have HO := Lib.hid ho
          have HE := Lib.hid he
          have HSC := Lib.hid hsc
          have HEB := Lib.hid hEB
          have HGL := Lib.hid hgl
          have HBad := Lib.hid hbad
          clear ho he hsc hp hl8 hlen hlast hne hEB hle hgl hbad HL hx
          have h0' : 0 < s.size := by omega
          clear h0
          go_enter Tryz.func8, Tryz.ntmps8
          go_wp2_with fail
          refine HP.out.mono ?_
          rintro e w1 ⟨rfl, hb⟩
          have hb1 : Below w.heap.size w w1.drew := hb.drew
          obtain ⟨vb, wb, hcb, hvb, hnb, hbb, _⟩ := toBytesN w1.drew s 9 Tryz.underlying9 (by omega)
          rw [HE.out] at hvb
          have hb2 := Below.trans' hb1 (Nat.le_refl _) hbb
          have HVB := Lib.hid hvb; clear hvb hnb hbb hb1
          go_upto_region 5 with fail
          go_cut [2] (fun s2 wx => s2 = .bool true ∧ Below w.heap.size w wx)
          case first =>
            go_region_with (first
              | (go_at_call 28; refine (implEscape_any vb (encs o) wb (HTab.out.below hb2) HVB.out (by omega) HBad.out HGL.out).mono ?_; rintro e w5 ⟨vr, rfl, hvr, hb5⟩; have hb3 := hb2.trans (hb5.mono hb2.size); clear hcb hb5; have hst := hvr.out.str 9 Tryz.underlying9; rw [HEB.out] at hst)
              | (go_at_call 29; refine (specUnsafe_enc ⟨#[]⟩ s [] o _ rfl HE.out Scs.nil HSC.out (by decide) (by omega)).mono ?_; rintro e w6 ⟨y, rfl, hy, hb6⟩; obtain rfl : y = ⟨(encs (unsafeN [] o)).toArray⟩ := str_of hy.out; have hst2 := (hvr.out.below hb6).str 9 Tryz.underlying9; rw [HEB.out] at hst2; have hb4 := hb3.trans (hb6.mono hb3.size); obtain ⟨vc, wc2, hcc, hvc, hnc, hbc, _⟩ := toBytesN w6 s 9 Tryz.underlying9 (by omega); rw [HE.out] at hvc; have HVC := Lib.hid hvc; have HNC := Lib.hid hnc; have hb7 := hb4.trans (hbc.mono hb4.size); clear hvc hnc hbc hb6 hy)
              | (go_at_call 30; refine (implEscapeMarkers_any vc (encs o) wc2 HVC.out HNC.out (by omega)).mono ?_; rintro e w7 ⟨vd, rfl, hvd, hb8⟩; have hb9 := hb7.trans (hb8.mono hb7.size); clear hcc hb8; have hst3 := hvd.out.str 9 Tryz.underlying9; rw [st_esc o HSC.out] at hst3)
              | (go_at_call 31; refine (escaped_any s _ (by omega)).mono ?_; rintro e w8 ⟨⟨y, rfl, hy⟩, hb10⟩; obtain rfl : y = ⟨(encs (o.map escN)).toArray⟩ := str_of (by rw [hy.out.1, HE.out, escB_enc HSC.out]); have hst4 := (hvd.out.below hb10).str 9 Tryz.underlying9; rw [st_esc o HSC.out] at hst4; have hb11 := hb9.trans (hb10.mono hb9.size); clear hb10 hy)
              | (go_at_call 20; refine (marks_true _ (HTab.out.below hb11)).mono ?_; rintro e w9 ⟨rfl, hb12⟩; have hb13 := hb11.trans (hb12.mono hb11.size); clear hb12))
            all_goals (go_wp2_with fail; go_meet; exact ⟨rfl, hb13⟩)
          case rest =>
            obtain ⟨rfl, hbx⟩ := hcut
            go_wp2_with fail
            go_ret
            exact ⟨rfl, hbx⟩
  ·
    have hd : decide ((2147483647 : Int) < (s.size : Int)) = true := by simp; omega
    have hd2 : decide (2147483647 < s.size) = true := by simp; omega
    go_enter Tryz.func8, Tryz.ntmps8
    go_wp2_with fail
    go_ret
    exact ⟨rfl, Below.refl _ _⟩
end Go.Proofs.YtlmcglaajmjanaaGreatDoor
