/- What printing an argument makes of a printer's text, in runes. -/
import Derived.Test.YtlmcglaajmjanaaGreatDoorPh
import Derived.Test.YtlmcglaajmjanaaGreatDoorAut
namespace Go.Proofs.YtlmcglaajmjanaaGreatDoor
open Go.RowKit
def NoM (t : List Nat) : Prop := ∀ r ∈ t, isM r = false
theorem NoM.nil : NoM [] := fun _ h => by cases h
theorem NoM.append {a b : List Nat} (h : NoM a) (k : NoM b) : NoM (a ++ b) := fun x hx => by
  rcases List.mem_append.1 hx with hx | hx
  · exact h x hx
  · exact k x hx
theorem NoM.esc {t : List Nat} (h : NoM t) : t.map escN = t := by
  induction t with
  | nil => rfl
  | cons r t ih =>
    have h1 := h r (List.mem_cons_self ..)
    rw [List.map_cons, ih (fun x hx => h x (List.mem_cons_of_mem _ hx))]
    unfold escN
    rw [h1]; rfl
theorem smE_1 {a t : List Nat} (hs : Scs (a ++ t)) (ht : NoM t) : smE (encs (a ++ t)) (encs a).length 1 = encs (a ++ t) := by
  have : smE (encs (a ++ t)) (encs a).length 1 = escT (encs (a ++ t)) (encs a).length false := rfl
  rw [this]
  unfold escT
  rw [encs_append, List.take_left' rfl, List.drop_left' rfl, escGo_false _ _ hs.right, ht.esc, encs_append]
theorem sm_1 {a t : List Nat} (hs : Scs (a ++ t)) (ht : NoM t) (hl : (encs (a ++ t)).length ≤ 50000) : SM (encs (a ++ t)) (encs a).length 1 false :=
  ⟨.inr (.inl rfl), hl, by rw [smE_1 hs ht]; omega, by rw [encs_append, List.length_append]; omega, badEnd_enc hs, fun h => by cases h⟩
theorem smL_1 {a t : List Nat} (hs : Scs (a ++ t)) (ht : NoM t) : smL (encs (a ++ t)) (encs a).length 1 false = encs (a ++ t) := by
  unfold smL
  rw [if_neg (by simp), smE_1 hs ht]
theorem smE_0 (l s : List UInt8) : smE (l ++ s) l.length 0 = escGo true l s := by
  have : smE (l ++ s) l.length 0 = escT (l ++ s) l.length true := rfl
  rw [this]
  unfold escT
  rw [List.take_left' rfl, List.drop_left' rfl]
/-- How long the text becomes. -/
theorem encL_esc_le {r : Nat} (h : Sc r) : (encL (escN r)).length ≤ (encL r).length := by
  have := encL_pos h
  unfold escN
  split
  · rw [encL63]; simp; omega
  · exact Nat.le_refl _
theorem closeN_le (o : List Nat) : (encs (closeN o)).length ≤ (encs o).length + 3 := by
  unfold closeN
  split
  · rename_i h
    obtain ⟨a, rfl⟩ := last_snoc (by simpa using h)
    rw [List.dropLast_concat, encs_append]; simp; omega
  · rw [encs_append, encs_one, encE]; simp [mkE]
theorem openN_le (o : List Nat) : (encs (openN o)).length ≤ (encs o).length + 3 := by
  unfold openN
  split
  · rename_i h
    obtain ⟨a, rfl⟩ := last_snoc (by simpa using h)
    rw [List.dropLast_concat, encs_append]; simp; omega
  · rw [encs_append, encs_one, encS]; simp [mkS]
theorem unsN_le (st : List Nat × Bool) (r : Nat) : (encs (unsN st r).1).length ≤ (encs st.1).length + 3 + (encL r).length := by
  unfold unsN
  rw [encs_append, encs_one, List.length_append]
  have := closeN_le st.1
  split
  · omega
  · split
    · rw [encs_append, encs_one, encS]; simp [mkS]
    · omega
theorem unsFold_le : ∀ (s : List Nat) (st : List Nat × Bool), Scs s → (encs ((s.map escN).foldl unsN st).1).length ≤ (encs st.1).length + 4 * (encs s).length := by
  intro s
  induction s with
  | nil => intro st _; simp
  | cons r s ih =>
    intro st h
    rw [List.map_cons, List.foldl_cons]
    have h1 := ih (unsN st (escN r)) h.tail
    have h2 := unsN_le st (escN r)
    have h3 := encL_esc_le h.head
    have h4 := encL_pos h.head
    rw [encs_cons, List.length_append]
    omega
theorem unsafeN_le {o s : List Nat} (h : Scs s) : (encs (unsafeN o s)).length ≤ (encs o).length + 4 * (encs s).length + 6 := by
  unfold unsafeN
  split
  · omega
  · have h1 := unsFold_le s (openN o, false) h
    have h2 := openN_le o
    generalize (s.map escN).foldl unsN (openN o, false) = st at h1
    unfold finN
    dsimp only at h1
    split
    · omega
    · rw [encs_append, encs_one, encE]
      have : mkE.length = 3 := rfl
      rw [List.length_append, this]; omega
theorem smL_0 {o s : List Nat} (ho : Scs o) (hm : Mk o) (hs : Scs s) : smL (encs (openN o) ++ encs s) (encs (openN o)).length 0 true = encs (unsafeN o s) := by
  unfold smL
  rw [if_pos rfl, smE_0]
  by_cases h : s = []
  · subst h
    rw [encs_nil, escGo_nil, closeL_enc ho.openN, closeN_openN hm]
    unfold unsafeN
    rw [if_pos rfl]
  · have := unsafe_impl ho hs h
    rw [openL_enc ho] at this
    exact this
theorem mk_E : ¬ Mk [8250] := by unfold Mk mkS_; decide
theorem sm_0 {o s : List Nat} (ho : Scs o) (hm : Mk o) (hs : Scs s) (hl : (encs o).length + 4 * (encs s).length ≤ 49000) : SM (encs (openN o) ++ encs s) (encs (openN o)).length 0 true := by
  have h1 := openN_le o
  have h2 := smL_0 ho hm hs
  unfold smL at h2
  rw [if_pos rfl] at h2
  have h3 := unsafeN_le (o := o) hs
  have hc : ∀ x : List UInt8, x.length ≤ (closeL x).length + 3 := by
    intro x
    unfold closeL
    split
    · simp; omega
    · simp; omega
  refine ⟨.inl rfl, by rw [List.length_append]; omega, ?_, by rw [List.length_append]; omega, ?_, fun _ hn => ?_⟩
  · have := hc (smE (encs (openN o) ++ encs s) (encs (openN o)).length 0)
    rw [h2] at this; omega
  · rw [← encs_append]; exact badEnd_enc (ho.openN.append hs)
  · rw [hn] at h2
    have e1 : closeL [] = encs [8250] := by rw [encs_one, encE]; rfl
    rw [e1] at h2
    have h4 := congrArg runesL h2
    rw [runesL_encs (Scs.one scE), runesL_encs (ho.unsafeN hs)] at h4
    have := hm.unsafeN (s := s)
    rw [← h4] at this
    exact mk_E this
section
variable {K : Nat → Prop} {w : World} {p : Nat} {o rs : List Nat}
/-- A printer between two arguments: its text is that of the runes o. -/
def Ps (K : Nat → Prop) (w : World) (p : Nat) (o : List Nat) (ov : Int) : Prop := ∃ a t, o = a ++ t ∧ NoM t ∧ PP K w p (encs o) (encs a).length 1 false ov
/-- The text is right, and not too long. -/
structure GoodT (o : List Nat) (n : Nat) : Prop where
  sc : Scs o
  mkd : Mk o
  le : (encs o).length ≤ n
structure Txt (s : ByteArray) (rs : List Nat) : Prop where
  sc : Scs rs
  en : s.data.toList = encs rs
  le : s.size ≤ 100
def PsQ (K : Nat → Prop) (p : Nat) (w : World) (o : List Nat) (ov : Int) (e : Ending) (w' : World) : Prop := e = .returned (.tuple #[]) ∧ Hid (Ps K w' p o ov) ∧ Kp K w w'
theorem Txt.len {s : ByteArray} (h : Txt s rs) : (encs rs).length ≤ 100 := by rw [← h.en, ← Lib.size_eq]; exact h.le
/-- Writers: what they write behind the text. -/
theorem fmtS_pp {l : List UInt8} {vu : Nat} {m : Int} {mo : Bool} {ov : Int} (s : ByteArray) (h : PP K w p l vu m mo ov) (hl : l.length ≤ 90000) (hs : s.size ≤ 90000) (hz : m = 0 → mo = false → NoHash l) :
    Calls Tryz.prog 167 #[.pointer (some ⟨p, 6, none⟩), .string s] w (PPQ K p w (.tuple #[]) (swl l m mo ++ s.data.toList) (swv l vu m mo) m (swm m mo) ov) := by
  obtain ⟨R, hR, h, hE⟩ := h
  exact (fmtS_any s hR h hl hs hz).mono fun e w' hq => PPQ.of_buf hR hE hq
theorem writeString_pp {l : List UInt8} {vu : Nat} {m : Int} {mo : Bool} {ov : Int} (s : ByteArray) (h : PP K w p l vu m mo ov) (hl : l.length ≤ 90000) (hs : s.size ≤ 90000) (hz : m = 0 → mo = false → NoHash l) :
    Calls Tryz.prog 122 #[.pointer (some ⟨p, 0, none⟩), .string s] w (PPQ K p w (.tuple #[.int .i64 s.size, .nilIface]) (swl l m mo ++ s.data.toList) (swv l vu m mo) m (swm m mo) ov) := by
  obtain ⟨R, hR, h, hE⟩ := h
  exact (writeString_any s h hl hs hz).mono fun e w' hq => PPQ.of_buf hR hE hq
theorem PsQ.of {l : List UInt8} {vu : Nat} {ov : Int} {e : Ending} {w' : World} (a t : List Nat) (hl : l = encs (a ++ t)) (hv : vu = (encs a).length) (ht : NoM t) (h : PPQ K p w (.tuple #[]) l vu 1 false ov e w') : PsQ K p w (a ++ t) ov e w' := by
  subst hl; subst hv
  exact ⟨h.1, ⟨a, t, rfl, ht, h.2.1.out⟩, h.2.2⟩
theorem PsQ.of_whole {l : List UInt8} {ov : Int} {e : Ending} {w' : World} (hl : l = encs o) (h : PPQ K p w (.tuple #[]) l l.length 1 false ov e w') : PsQ K p w o ov e w' := by
  have := PsQ.of (K := K) (p := p) (w := w) (vu := l.length) o [] (by rw [hl]; simp) (by rw [hl]) NoM.nil h
  simpa using this
theorem noHash_good {n : Nat} (h : GoodT o n) : NoHash (encs o) := noHash_enc h.sc h.mkd.noH
/-- An unsafe text. -/
theorem printArg_0 (s : ByteArray) (verb : Int) (hv : verb = 118 ∨ verb = 115) (ht : Txt s rs) (h : Ps K w p o 0) (hg : GoodT o 40000) :
    Calls Tryz.prog 104 #[.pointer (some ⟨p, 0, none⟩), .iface 9 (.string s), .int .i32 verb] w (PsQ K p w (unsafeN o rs) 0) := by
  obtain ⟨a, t, rfl, hn, h⟩ := h
  have hlen := ht.len
  have hle := hg.le
  have e1 := smL_1 hg.sc hn
  have s1 := sm_1 hg.sc hn (by omega)
  have s0 := sm_0 hg.sc hg.mkd ht.sc (by omega)
  have e0 := smL_0 hg.sc hg.mkd ht.sc
  have heo := openL_enc hg.sc
  refine (printArg_string s verb h fun W hW => fmtString_of s verb hv (startUnsafe_0 hW s1) (fun W' hW' => fmtS_pp s hW' (by rw [e1]; omega) (by have := ht.le; omega) (fun _ _ => by rw [e1]; exact noHash_good hg)) (fun W' hW' => ?_)).mono (fun e w' hq => PsQ.of_whole (l := encs (unsafeN (a ++ t) rs)) rfl hq)
  have e2 : swl (smL (encs (a ++ t)) (encs a).length 1 false) 0 false ++ s.data.toList = encs (openN (a ++ t)) ++ encs rs := by rw [e1, ht.en, ← heo]; rfl
  have e3 : swv (smL (encs (a ++ t)) (encs a).length 1 false) (smL (encs (a ++ t)) (encs a).length 1 false).length 0 false = (encs (openN (a ++ t))).length := by rw [e1, ← heo]; rfl
  rw [e2, e3, show swm 0 false = true from rfl] at hW'
  have := restore_to (m' := 1) (ov' := 0) hW' (by decide) s0
  rw [e0] at this
  exact this
/-- The runes of a number. -/
def numN (n : Int) : List Nat := (numL n).map (·.toNat)
theorem numL_asc (n : Int) : Asc (numL n) := by
  unfold numL
  split
  · intro b hb
    rcases List.mem_cons.1 hb with rfl | hb
    · decide
    · exact digs_ascii _ b hb
  · exact digs_ascii _
theorem numL_le (n : Int) : (numL n).length ≤ 21 := by
  have := digs_len n.natAbs
  unfold numL
  split <;> simp <;> omega
theorem encs_asc (l : List UInt8) (h : Asc l) : encs (l.map (·.toNat)) = l := by
  induction l with
  | nil => rfl
  | cons b l ih =>
    rw [List.map_cons, encs_cons, encL_ascii _ (h b (List.mem_cons_self ..)), ih (fun x hx => h x (List.mem_cons_of_mem _ hx))]
    simp
theorem numN_enc (n : Int) : encs (numN n) = numL n := encs_asc _ (numL_asc n)
theorem asc_sc (l : List UInt8) (h : Asc l) : Scs (l.map (·.toNat)) := fun x hx => by
  obtain ⟨b, hb, rfl⟩ := List.mem_map.1 hx
  exact sc_lt (by have := h b hb; omega)
theorem asc_noM (l : List UInt8) (h : Asc l) : NoM (l.map (·.toNat)) := fun x hx => by
  obtain ⟨b, hb, rfl⟩ := List.mem_map.1 hx
  have := h b hb
  unfold isM
  simp; omega
theorem numN_sc (n : Int) : Scs (numN n) := asc_sc _ (numL_asc n)
theorem numN_noM (n : Int) : NoM (numN n) := asc_noM _ (numL_asc n)
/-- An unsafe number. -/
theorem printArg_2 (n : Int) (h0 : -9223372036854775808 ≤ n) (h1 : n ≤ 9223372036854775807) (verb : Int) (hv : verb = 118 ∨ verb = 100) (h : Ps K w p o 0) (hg : GoodT o 40000) :
    Calls Tryz.prog 104 #[.pointer (some ⟨p, 0, none⟩), .iface 2 (.int .i64 n), .int .i32 verb] w (PsQ K p w (unsafeN o (numN n)) 0) := by
  obtain ⟨a, t, rfl, hn, h⟩ := h
  have hlen := numL_le n
  have hle := hg.le
  have e1 := smL_1 hg.sc hn
  have s1 := sm_1 hg.sc hn (by omega)
  have s0 := sm_0 hg.sc hg.mkd (numN_sc n) (by rw [numN_enc]; omega)
  have e0 := smL_0 hg.sc hg.mkd (numN_sc n)
  have heo := openL_enc hg.sc
  refine (printArg_int n h0 h1 verb h fun W hW => ppInteger_of n verb hv hW (startUnsafe_0 hW s1) (fun W' hW' => fmtInteger_any n h0 h1 verb hv hW' (by rw [e1]; omega) (fun _ _ => by rw [e1]; exact noHash_good hg)) (fun W' hW' => ?_)).mono (fun e w' hq => PsQ.of_whole (l := encs (unsafeN (a ++ t) (numN n))) rfl hq)
  have e2 : swl (smL (encs (a ++ t)) (encs a).length 1 false) 0 false ++ numL n = encs (openN (a ++ t)) ++ encs (numN n) := by rw [e1, numN_enc, ← heo]; rfl
  have e3 : swv (smL (encs (a ++ t)) (encs a).length 1 false) (smL (encs (a ++ t)) (encs a).length 1 false).length 0 false = (encs (openN (a ++ t))).length := by rw [e1, ← heo]; rfl
  rw [e2, e3, show swm 0 false = true from rfl] at hW'
  have := restore_to (m' := 1) (ov' := 0) hW' (by decide) s0
  rw [e0] at this
  exact this
theorem swl_1 (l : List UInt8) : swl l 1 false = l := rfl
theorem swv_1 (l : List UInt8) (vu : Nat) : swv l vu 1 false = vu := rfl
/-- A safe text. -/
theorem printArg_1 (s : ByteArray) (verb : Int) (hv : verb = 118 ∨ verb = 115) (ht : Txt s rs) (hm : NoM rs) (h : Ps K w p o 0) (hg : GoodT o 40000) :
    Calls Tryz.prog 104 #[.pointer (some ⟨p, 0, none⟩), .iface 142 (.agg #[.iface 9 (.string s)]), .int .i32 verb] w (PsQ K p w (o ++ rs) 0) := by
  obtain ⟨a, t, rfl, hn, h⟩ := h
  have hle := hg.le
  have hts := ht.le
  rw [List.append_assoc]
  refine (printArg_safeString s verb h (fun K W hW => startSafe_0 hW) (fun K W hW => fmtString_of s verb hv (startUnsafe_1 hW) (fun W' hW' => fmtS_pp s hW' (by omega) (by omega) (fun h _ => by cases h)) (fun W' hW' => restore_same hW')) (fun K W hW => restore_same hW)).mono (fun e w' hq => PsQ.of a (t ++ rs) ?_ rfl (hn.append hm) hq)
  rw [swl_1, ht.en, ← encs_append, List.append_assoc]
/-- A safe number. -/
theorem printArg_3 (n : Int) (h0 : -9223372036854775808 ≤ n) (h1 : n ≤ 9223372036854775807) (verb : Int) (hv : verb = 118 ∨ verb = 100) (h : Ps K w p o 0) (hg : GoodT o 40000) :
    Calls Tryz.prog 104 #[.pointer (some ⟨p, 0, none⟩), .iface 142 (.agg #[.iface 2 (.int .i64 n)]), .int .i32 verb] w (PsQ K p w (o ++ numN n) 0) := by
  obtain ⟨a, t, rfl, hn, h⟩ := h
  have hle := hg.le
  rw [List.append_assoc]
  refine (printArg_safeInt n h0 h1 verb h (fun K W hW => startSafe_0 hW) (fun K W hW => ppInteger_of n verb hv hW (startUnsafe_1 hW) (fun W' hW' => fmtInteger_any n h0 h1 verb hv hW' (by omega) (fun h _ => by cases h)) (fun W' hW' => restore_same hW')) (fun K W hW => restore_same hW)).mono (fun e w' hq => PsQ.of a (t ++ numN n) ?_ rfl (hn.append (numN_noM n)) hq)
  rw [swl_1, ← numN_enc, ← encs_append, List.append_assoc]
/-- A safe number of the package's own type. -/
theorem printArg_3v (n : Int) (h0 : -9223372036854775808 ≤ n) (h1 : n ≤ 9223372036854775807) (verb : Int) (hv : verb = 118 ∨ verb = 100) (h : Ps K w p o 0) (hg : GoodT o 40000) :
    Calls Tryz.prog 104 #[.pointer (some ⟨p, 0, none⟩), .iface 101 (.int .i64 n), .int .i32 verb] w (PsQ K p w (o ++ numN n) 0) := by
  obtain ⟨a, t, rfl, hn, h⟩ := h
  have hle := hg.le
  rw [List.append_assoc]
  refine (printArg_safeIntV n h0 h1 verb h (fun W hW => startSafe_0 hW) (fun W hW => ppInteger_of n verb hv hW (startUnsafe_1 hW) (fun W' hW' => fmtInteger_any n h0 h1 verb hv hW' (by omega) (fun h _ => by cases h)) (fun W' hW' => restore_same hW')) (fun W hW => restore_same hW)).mono (fun e w' hq => PsQ.of a (t ++ numN n) ?_ rfl (hn.append (numN_noM n)) hq)
  rw [swl_1, ← numN_enc, ← encs_append, List.append_assoc]
/-- A redactable text. -/
theorem printArg_4 (s : ByteArray) (verb : Int) (ht : Txt s rs) (h : Ps K w p o 0) (hg : GoodT o 40000) :
    Calls Tryz.prog 104 #[.pointer (some ⟨p, 0, none⟩), .iface 50 (.string s), .int .i32 verb] w (PsQ K p w (o ++ rs) 0) := by
  obtain ⟨a, t, rfl, hn, h⟩ := h
  have hle := hg.le
  have hlen := ht.len
  have hts := ht.le
  have e1 := smL_1 hg.sc hn
  have s1 := sm_1 hg.sc hn (by omega)
  refine (printArg_redactable s _ verb h (fun W hW => startPre_0 hW s1) (fun W hW => writeString_pp s hW (by rw [e1]; omega) (by omega) (fun h _ => by cases h)) (fun W hW => ?_)).mono (fun e w' hq => PsQ.of_whole (l := encs ((a ++ t) ++ rs)) rfl hq)
  have e2 : swl (smL (encs (a ++ t)) (encs a).length 1 false) 2 false ++ s.data.toList = encs ((a ++ t) ++ rs) := by rw [e1, ht.en, encs_append (a ++ t) rs]; rfl
  have e3 : swv (smL (encs (a ++ t)) (encs a).length 1 false) (smL (encs (a ++ t)) (encs a).length 1 false).length 2 false = (encs (a ++ t)).length := by rw [e1]; rfl
  rw [e2, e3, show swm 2 false = false from rfl] at hW
  have s2 : SM (encs ((a ++ t) ++ rs)) (encs (a ++ t)).length 2 false := ⟨.inr (.inr rfl), by rw [encs_append, List.length_append]; omega, by show (encs ((a ++ t) ++ rs)).length ≤ _; rw [encs_append, List.length_append]; omega, by rw [encs_append (a ++ t), List.length_append]; omega, badEnd_enc (hg.sc.append ht.sc), fun h => by cases h⟩
  exact restore_to (m' := 1) (ov' := 0) hW (by decide) s2
/-- A text that is made unsafe. -/
theorem printArg_5 (s : ByteArray) (verb : Int) (hv : verb = 118 ∨ verb = 115) (ht : Txt s rs) (h : Ps K w p o 0) (hg : GoodT o 40000) :
    Calls Tryz.prog 104 #[.pointer (some ⟨p, 0, none⟩), .iface 147 (.agg #[.iface 9 (.string s)]), .int .i32 verb] w (PsQ K p w (unsafeN o rs) 0) := by
  obtain ⟨a, t, rfl, hn, h⟩ := h
  have hlen := ht.len
  have hts := ht.le
  have hle := hg.le
  have e1 := smL_1 hg.sc hn
  have s1 := sm_1 hg.sc hn (by omega)
  have s0 := sm_0 hg.sc hg.mkd ht.sc (by omega)
  have e0 := smL_0 hg.sc hg.mkd ht.sc
  have heo := openL_enc hg.sc
  refine (printArg_unsafeString s verb h (fun K W hW => startUnsafeOv_0 hW s1) (fun K W hW => fmtString_of s verb hv (startUnsafe_2 hW) (fun W' hW' => fmtS_pp s hW' (by rw [e1]; omega) (by omega) (fun _ _ => by rw [e1]; exact noHash_good hg)) (fun W' hW' => restore_same hW')) (fun K W hW => ?_)).mono (fun e w' hq => PsQ.of_whole (l := encs (unsafeN (a ++ t) rs)) rfl hq)
  have e2 : swl (smL (encs (a ++ t)) (encs a).length 1 false) 0 false ++ s.data.toList = encs (openN (a ++ t)) ++ encs rs := by rw [e1, ht.en, ← heo]; rfl
  have e3 : swv (smL (encs (a ++ t)) (encs a).length 1 false) (smL (encs (a ++ t)) (encs a).length 1 false).length 0 false = (encs (openN (a ++ t))).length := by rw [e1, ← heo]; rfl
  rw [e2, e3, show swm 0 false = true from rfl] at hW
  have := restore_to (m' := 1) (ov' := 0) hW (by decide) s0
  rw [e0] at this
  exact this
end
end Go.Proofs.YtlmcglaajmjanaaGreatDoor
