/- Walks of package redactfmt: numbers printed. -/
import Derived.Test.YtlmcglaajmjanaaGreatDoorPr
import Derived.LoopN
namespace Go.Proofs.YtlmcglaajmjanaaGreatDoor
open Go.RowKit
section
variable {K : Nat → Prop} {w : World} {p : Nat} {l : List UInt8} {vu : Nat} {m : Int} {mo : Bool} {R : Nat → Option Value} {ov : Int}
theorem pad_any (s : Value) (t : List UInt8) (hR : PPR p R ov) (h : BufL K w p l vu m mo R) (hs : BAt w s t) (hl : l.length ≤ 90000) (hs2 : t.length ≤ 90000) (hz : m = 0 → mo = false → NoHash l) (hp : ∀ w' a' n' c' xs' vu' mo', Buf K w' p a' n' c' xs' vu' m mo' R → Kp K w w' → BAt w' s t) :
    Calls Tryz.prog 177 #[.pointer (some ⟨p, 6, none⟩), s] w (BufQ K p w (.tuple #[]) (swl l m mo ++ t) (swv l vu m mo) m (swm m mo) R) := by
  have HW := Lib.hid (fbWrite s t h hs hl hs2 hz hp)
  have c7 := (h.cR 7 (by omega)).trans (hR.fl 7 (by omega) (by omega))
  have c6 := (h.cR 6 (by omega)).trans hR.fb
  clear h hz hR hp hs
  generalize swl l m mo ++ t = l1 at HW
  generalize swv l vu m mo = vu1 at HW
  generalize swm m mo = mo1 at HW
  go_enter Tryz.func177, Tryz.ntmps177
  go_wp2_with fail
  refine HW.out.mono ?_
  rintro e w1 ⟨rfl, h1, hb1⟩
  go_wp2_with fail
  first | go_end0 | ((try simp only [Exit.inBlock, Exit.then]); refine bodyPost_ret (results_none rfl _ _ _) rfl ?_)
  exact ⟨rfl, h1, hb1⟩
/-- The end of a printer's number buffer holds d. -/
def PPI (K : Nat → Prop) (w : World) (p : Nat) (l : List UInt8) (vu : Nat) (m : Int) (mo : Bool) (ov : Int) (d : List UInt8) : Prop :=
  ∃ R, PPR p R ov ∧ BufL K w p l vu m mo R ∧ Env K w p ∧ d.length ≤ 68 ∧ ∀ j (h : j < d.length), R (18 + (68 - d.length) + j) = some (.int .u8 ((d[j]'h).toNat : Int))
theorem PP.nil (h : PP K w p l vu m mo ov) : PPI K w p l vu m mo ov [] := by
  obtain ⟨R, hR, h, hE⟩ := h
  exact ⟨R, hR, h, hE, by simp, fun j hj => by cases hj⟩
theorem PPI.pp {d : List UInt8} (h : PPI K w p l vu m mo ov d) : PP K w p l vu m mo ov := by
  obtain ⟨R, hR, h, hE, _⟩ := h
  exact ⟨R, hR, h, hE⟩
theorem PPI.len {d : List UInt8} (h : PPI K w p l vu m mo ov d) : d.length ≤ 68 := by
  obtain ⟨R, hR, h, hE, hl, _⟩ := h
  exact hl
theorem PPI.push {d : List UInt8} (h : PPI K w p l vu m mo ov d) (i : Nat) (hi : i + 1 + d.length = 68) (x : UInt8) :
    (∃ y, w.cell? ⟨p, 18 + i, none⟩ = some y) ∧ w.frozen? ⟨p, 18 + i, none⟩ = false ∧ PPI K (w.setCell ⟨p, 18 + i, none⟩ (.int .u8 (x.toNat : Int))) p l vu m mo ov (x :: d) := by
  have hpK := h.pp.hp
  obtain ⟨R, hR, ⟨a, c, h⟩, hE, hl, hd⟩ := h
  obtain ⟨b, hb⟩ := hR.ib (18 + i) (by omega) (by omega)
  refine ⟨⟨_, (h.cR (18 + i) (by omega)).trans hb⟩, h.fz _, _, ?_, ⟨a, c, h.setR (18 + i) (by omega) _ (.int .u8 (x.toNat : Int)) hb⟩, hE.kp ((Kp.refl K w).setCell hpK _ _), by simp; omega, fun j hj => ?_⟩
  · exact ⟨by rw [if_neg (by omega)]; exact hR.ov, by obtain ⟨v, hv⟩ := hR.arg; exact ⟨v, by rw [if_neg (by omega)]; exact hv⟩, by rw [if_neg (by omega)]; exact hR.fb, fun k h1 h2 => by rw [if_neg (by omega)]; exact hR.fl k h1 h2, by rw [if_neg (by omega)]; exact hR.wd, by rw [if_neg (by omega)]; exact hR.pr,
      fun k h1 h2 => by
        by_cases hk : k = 18 + i
        · exact ⟨x, by rw [if_pos hk]⟩
        · rw [if_neg hk]; exact hR.ib k h1 h2,
      fun k h1 h2 => by rw [if_neg (by omega)]; exact hR.er k h1 h2⟩
  · simp only [List.length_cons] at hj ⊢
    cases j with
    | zero => rw [if_pos (by omega)]; rfl
    | succ j =>
      rw [if_neg (by omega)]
      have := hd j (by omega)
      simp only [List.getElem_cons_succ]
      rw [← this]; congr 1; omega
/-- The last n bytes of the number buffer, as a slice. -/
theorem PPI.bat {d : List UInt8} {R : Nat → Option Value} {a : Option Addr} {n c : Nat} {xs : List Value} (h : Buf K w p a n c xs vu m mo R) (hl : d.length ≤ 68) (hd : ∀ j (h : j < d.length), R (18 + (68 - d.length) + j) = some (.int .u8 ((d[j]'h).toNat : Int))) :
    BAt w (.slice (some ⟨p, 18 + (68 - d.length), none⟩) d.length d.length) d :=
  ⟨_, p, 18 + (68 - d.length), d.length, rfl, Nat.le_refl _, by omega, .inr rfl, fun j hj => by rw [h.cR _ (by omega)]; exact hd j hj⟩
theorem padI_any {d : List UInt8} (h : PPI K w p l vu m mo ov d) (hl : l.length ≤ 90000) (hz : m = 0 → mo = false → NoHash l) :
    Calls Tryz.prog 177 #[.pointer (some ⟨p, 6, none⟩), .slice (some ⟨p, 18 + (68 - d.length), none⟩) d.length d.length] w (PPQ K p w (.tuple #[]) (swl l m mo ++ d) (swv l vu m mo) m (swm m mo) ov) := by
  obtain ⟨R, hR, h, hE, hdl, hd⟩ := h
  have h0 := h
  obtain ⟨a, c, hB⟩ := h0
  exact (pad_any _ d hR h (PPI.bat hB hdl hd) hl (by omega) hz (fun w' _ _ _ _ _ _ hB' _ => PPI.bat hB' hdl hd)).mono fun e w' hq => PPQ.of_buf hR hE hq
theorem padI_at {d : List UInt8} (h : PPI K w p l vu m mo ov d) (i : Nat) (hi : i + d.length = 68) (hl : l.length ≤ 90000) (hz : m = 0 → mo = false → NoHash l) :
    Calls Tryz.prog 177 #[.pointer (some ⟨p, 6, none⟩), .slice (some ⟨p, 18 + i, none⟩) (68 - i) (68 - i)] w (PPQ K p w (.tuple #[]) (swl l m mo ++ d) (swv l vu m mo) m (swm m mo) ov) := by
  have h1 := padI_any h hl hz
  rw [show 68 - d.length = i by omega, show d.length = 68 - i by omega] at h1
  exact h1
theorem PPI.setZ {d : List UInt8} (h : PPI K w p l vu m mo ov d) : PPI K (w.setCell ⟨p, 13, none⟩ (.bool false)) p l vu m mo ov d := by
  have hpK := h.pp.hp
  obtain ⟨R, hR, ⟨a, c, h⟩, hE, hl, hd⟩ := h
  refine ⟨_, ?_, ⟨a, c, h.setR 13 (by omega) _ (.bool false) (hR.fl 13 (by omega) (by omega))⟩, hE.kp ((Kp.refl K w).setCell hpK _ _), hl, fun j hj => by rw [if_neg (by omega)]; exact hd j hj⟩
  exact ⟨by rw [if_neg (by omega)]; exact hR.ov, by obtain ⟨v, hv⟩ := hR.arg; exact ⟨v, by rw [if_neg (by omega)]; exact hv⟩, by rw [if_neg (by omega)]; exact hR.fb,
    fun k h1 h2 => by
      by_cases hk : k = 13
      · rw [if_pos hk]
      · rw [if_neg hk]; exact hR.fl k h1 h2,
    by rw [if_neg (by omega)]; exact hR.wd, by rw [if_neg (by omega)]; exact hR.pr, fun k h1 h2 => by rw [if_neg (by omega)]; exact hR.ib k h1 h2, fun k h1 h2 => by rw [if_neg (by omega)]; exact hR.er k h1 h2⟩
theorem PP.setZ (h : PP K w p l vu m mo ov) : PP K (w.setCell ⟨p, 13, none⟩ (.bool false)) p l vu m mo ov := h.nil.setZ.pp
def LD : ByteArray := ⟨#[48, 49, 50, 51, 52, 53, 54, 55, 56, 57, 97, 98, 99, 100, 101, 102, 120]⟩
theorem arr_len : Tryz.prog.arrayLen 85 = 68 := by kernel_rfl
theorem arr_elem : Tryz.prog.elem 85 = 5 := by kernel_rfl
theorem arr_und : Tryz.prog.underlying 85 = some (.array (Tryz.prog.arrayLen 85) (Tryz.prog.elem 85)) := by rw [arr_len, arr_elem]; exact Tryz.underlying85
theorem buf_slice (p : Nat) : ∃ bv : Value, (∀ w', (Instr.sliceAt 85 (.pointer (some ⟨p, 18, none⟩)) (some (.int .i64 0)) none none).run Tryz.prog w' = .ok bv w') ∧
    (∀ w' ty, (Builtin.len_ #[31] ty #[bv]).run Tryz.prog w' = .ok (.int .i64 68) w') ∧
    (∀ (i : Nat), i < 68 → ∀ w', (Instr.indexAt 31 bv (.int .i64 i)).run Tryz.prog w' = .ok (.pointer (some ⟨p, 18 + i, none⟩)) w') ∧
    (∀ (i : Nat), i < 68 → ∀ w', (Instr.sliceAt 31 bv (some (.int .i64 i)) none none).run Tryz.prog w' = .ok (.slice (some ⟨p, 18 + i, none⟩) (68 - i) (68 - i)) w') := by
  refine ⟨.slice (some ⟨p, 18, none⟩) 68 68, fun w' => ?_, fun w' ty => run_len_slice w' _ _ _ _ _ und_bytes, fun i hi w' => ?_, fun i hi w' => ?_⟩
  · rw [run_sliceAt_array_l (P := Tryz.prog) _ _ _ arr_und .i64 0 (by decide) (by rw [arr_len]; decide), arr_elem, sizeOf_byte, arr_len]
    simp [Result.andThen, slicedAt, add_plain]
  · have h3 : ¬ 68 ≤ i := by omega
    simp [Instr.indexAt, asIntOf, run_underlying und_bytes, elem_bytes, h3, add_plain]
  · rw [run_sliceAt_slice w' _ _ _ _ _ und_bytes, run_slice_l w' _ _ _ _ und_bytes _ _ (by omega) (by omega), elem_bytes, sizeOf_byte]
    simp [Result.andThen, sliced, add_plain]; omega
theorem byte_wrap (u : Nat) : IntKind.u64.wrap (IntKind.u64.wrap (48 + (u : Int)) - (u : Int) / 10 * 10) % 256 = ((UInt8.ofNat (48 + u % 10)).toNat : Int) := by
  rw [byte_nat (by omega), IntKind.wrap_u64, IntKind.wrap_u64]
  omega
theorem digs_push {u jj : Nat} {d goal : List UInt8} (h10 : 10 ≤ u) (hu : u < 10 ^ (jj + 1)) (hj : jj ≤ 19) (h : digs u ++ d = goal) : digs (u / 10) ++ (UInt8.ofNat (48 + u % 10) :: d) = goal := by
  have : u < 10 ^ 20 := Nat.lt_of_lt_of_le hu (Nat.pow_le_pow_right (by omega) (by omega))
  rw [← h, digs_high u h10 this]; simp
theorem digit_at : ∀ (u : Nat) (h : u < 10), ((⟨#[48, 49, 50, 51, 52, 53, 54, 55, 56, 57, 97, 98, 99, 100, 101, 102, 120]⟩ : ByteArray)[u]'(by show u < 17; omega)) = UInt8.ofNat (48 + u) := by decide
theorem pow_down {u j : Nat} (h : u < 10 ^ j) (h10 : 10 ≤ u) : ∃ k, j = k + 1 ∧ 1 ≤ k ∧ u / 10 < 10 ^ k := by
  cases j with
  | zero => simp at h; omega
  | succ k =>
    refine ⟨k, rfl, ?_, ?_⟩
    · cases k with
      | zero => simp at h; omega
      | succ k => omega
    · rw [Nat.pow_succ] at h
      exact Nat.div_lt_of_lt_mul (by omega)
theorem PPI.flags {d : List UInt8} (h : PPI K w p l vu m mo ov d) (i : Nat) (h1 : 7 ≤ i) (h2 : i < 16) : w.cell? ⟨p, i, none⟩ = some (.bool false) := h.pp.fl i h1 h2
set_option maxHeartbeats 2000000 in
set_option maxRecDepth 100000 in
theorem fmtInteger_pos (n : Nat) (hn : n < 9223372036854775808) (verb : Int) (hv : verb = 118 ∨ verb = 100) (h : PP K w p l vu m mo ov) (hl : l.length ≤ 90000) (hz : m = 0 → mo = false → NoHash l) :
    Calls Tryz.prog 162 #[.pointer (some ⟨p, 6, none⟩), .int .u64 n, .int .i64 10, .bool true, .int .i32 verb, .string LD] w (PPQ K p w (.tuple #[]) (swl l m mo ++ digs n) (swv l vu m mo) m (swm m mo) ov) := by
  obtain ⟨bv, hsl, hbl, hbi, hbf⟩ := buf_slice p
  have c7 := h.fl 7 (by omega) (by omega)
  have c8 := h.fl 8 (by omega) (by omega)
  have c11 := h.fl 11 (by omega) (by omega)
  have c13 := h.fl 13 (by omega) (by omega)
  have hv79 : (verb == 79) = false := by rcases hv with rfl | rfl <;> rfl
  have hneg : (decide ((n : Int) < 0)) = false := by simp
  have HI := Lib.hid h.nil; clear h
  have HBI := Lib.hid hbi; clear hbi
  have HBF := Lib.hid hbf; clear hbf
  generalize hG : digs n = goal
  have HG := Lib.hid hG; clear hG
  have HZ := Lib.hid hz; clear hz
  unfold LD
  go_enter Tryz.func162, Tryz.ntmps162
  go_wp2_with fail
  go_loopw [1, 17] (fun a b wr => ∃ (u i j : Nat) (d : List UInt8), a = .int .u64 u ∧ b = .int .i64 i ∧ i + d.length = 68 ∧ j + d.length = 20 ∧ u < 18446744073709551616 ∧ Hid (u < 10 ^ j ∧ digs u ++ d = goal) ∧ Hid (PPI K wr p l vu m mo ov d) ∧ Hid (Kp K w wr))
    (fun a _ _ => (intOf a).toNat)
  case atStart => exact ⟨n, 68, 20, [], rfl, rfl, rfl, rfl, by omega, ⟨by omega, by rw [HG.out]; simp⟩, HI.out, Kp.refl K w⟩
  case round =>
    obtain ⟨u, i, j, d, rfl, rfl, hid, hjd, hu, hdig, hI, hK⟩ := hrel
    by_cases h10 : 10 ≤ u
    · obtain ⟨jj, hj, hj1, hu2⟩ := pow_down hdig.out.1 h10
      have hix := HBI.out (i - 1) (by omega)
      have ei : ((i - 1 : Nat) : Int) = (i : Int) - 1 := by omega
      rw [ei] at hix
      obtain ⟨⟨y, hy⟩, hfz, hpush⟩ := hI.out.push (i - 1) (by omega) (UInt8.ofNat (48 + u % 10))
      have HU2 := Lib.hid hu2; clear hu2
      have HJ := Lib.hid hj; clear hj
      clear ei
      have HPU := Lib.hid hpush; clear hpush
      have h10i : (10 : Int) ≤ (u : Int) := by omega
      have hui : (u : Int) < 18446744073709551616 := by omega
      have HD := Lib.hid hdig; clear hdig
      go_wp2_with fail
      go_roundw
      case rel =>
        rw [byte_wrap u]
        refine ⟨u / 10, i - 1, jj, UInt8.ofNat (48 + u % 10) :: d, by go_num, by go_num, by simp; omega, by have := HJ.out; simp; omega, by omega, ⟨HU2.out, ?_⟩, HPU.out, hK.out.setCell hI.out.pp.hp _ _⟩
        have h2 := HD.out.out
        rw [HJ.out] at h2
        exact digs_push h10 h2.1 (by have := HJ.out; omega) h2.2
      case measure => simp [intOf]; omega
    · have h10i : (u : Int) < 10 := by omega
      have h0i : (0 : Int) ≤ (u : Int) := by omega
      have hix := HBI.out (i - 1) (by omega)
      have ei : ((i - 1 : Nat) : Int) = (i : Int) - 1 := by omega
      rw [ei] at hix
      obtain ⟨x, hx⟩ : ∃ x, UInt8.ofNat (48 + u) = x := ⟨_, rfl⟩
      have hdx : ((⟨#[48, 49, 50, 51, 52, 53, 54, 55, 56, 57, 97, 98, 99, 100, 101, 102, 120]⟩ : ByteArray)[u]'(by show u < 17; omega)) = x := by rw [← hx]; exact digit_at u (by omega)
      have HX := Lib.hid hx; clear hx
      obtain ⟨⟨y, hy⟩, hfz, hpush⟩ := hI.out.push (i - 1) (by omega) x
      clear ei
      have HPU := Lib.hid (And.intro hpush (hK.out.setCell hI.out.pp.hp (18 + (i - 1)) (.int .u8 (x.toNat : Int)))); clear hpush
      have HD := Lib.hid hdig; clear hdig
      have h5 : (68 : Int) - ((i : Int) - 1) ≥ 0 := by omega
      have hii : i - 1 < 68 := by omega
      go_wp2_with fail
      generalize wr.setCell ⟨p, 18 + (i - 1), none⟩ (.int .u8 (x.toNat : Int)) = W2 at HPU ⊢
      clear hy hfz hix hdx
      have e7 := HPU.out.1.flags 7 (by omega) (by omega)
      have e10 := HPU.out.1.flags 10 (by omega) (by omega)
      have e11 := HPU.out.1.flags 11 (by omega) (by omega)
      have e12 := HPU.out.1.flags 12 (by omega) (by omega)
      have e13 := HPU.out.1.flags 13 (by omega) (by omega)
      have f13 := HPU.out.1.pp.fz 13
      have hbf := HBF.out (i - 1) hii
      have ei : ((i - 1 : Nat) : Int) = (i : Int) - 1 := by omega
      rw [ei] at hbf
      clear ei
      refine wp_loop_rounds 1 ?_
      rw [rounds_succ]
      go_wp2_with fail
      refine (padI_at HPU.out.1.setZ (i - 1) (by simp; omega) hl HZ.out).mono ?_
      rintro e w3 ⟨rfl, h3, hb3⟩
      have g13 := h3.out.fl 13 (by omega) (by omega)
      have k13 := h3.out.fz 13
      go_wp2_with fail
      first | go_end0 | ((try simp only [Exit.inBlock, Exit.then]); refine bodyPost_ret (results_none rfl _ _ _) rfl ?_)
      have hgoal : x :: d = goal := by
        have h2 := HD.out.out.2
        rw [digs_low u (by omega), HX.out] at h2
        exact h2
      rw [← hgoal]
      exact ⟨rfl, h3.out.setZ, ((HPU.out.2.setCell HI.out.pp.hp _ _).trans hb3).setCell HI.out.pp.hp _ _⟩
set_option maxHeartbeats 2000000 in
set_option maxRecDepth 100000 in
theorem fmtInteger_neg (n : Nat) (hn0 : 0 < n) (hn : n ≤ 9223372036854775808) (uI : Int) (huI : uI = 18446744073709551616 - (n : Int)) (verb : Int) (hv : verb = 118 ∨ verb = 100) (h : PP K w p l vu m mo ov) (hl : l.length ≤ 90000) (hz : m = 0 → mo = false → NoHash l) :
    Calls Tryz.prog 162 #[.pointer (some ⟨p, 6, none⟩), .int .u64 uI, .int .i64 10, .bool true, .int .i32 verb, .string LD] w (PPQ K p w (.tuple #[]) (swl l m mo ++ (45 :: digs n)) (swv l vu m mo) m (swm m mo) ov) := by
  obtain ⟨bv, hsl, hbl, hbi, hbf⟩ := buf_slice p
  have c7 := h.fl 7 (by omega) (by omega)
  have c8 := h.fl 8 (by omega) (by omega)
  have c11 := h.fl 11 (by omega) (by omega)
  have c13 := h.fl 13 (by omega) (by omega)
  have hv79 : (verb == 79) = false := by rcases hv with rfl | rfl <;> rfl
  have hw1 : IntKind.i64.wrap uI = -(n : Int) := by rw [IntKind.wrap_i64]; omega
  have hw2 : IntKind.u64.wrap (-uI) = (n : Int) := by rw [IntKind.wrap_u64]; omega
  have hw3 : -(n : Int) < 0 := by omega
  have HN := Lib.hid (And.intro hn0 huI); clear hn0 huI
  have HI := Lib.hid h.nil; clear h
  have HBI := Lib.hid hbi; clear hbi
  have HBF := Lib.hid hbf; clear hbf
  generalize hG : digs n = goal
  have HG := Lib.hid hG; clear hG
  have HZ := Lib.hid hz; clear hz
  unfold LD
  go_enter Tryz.func162, Tryz.ntmps162
  go_wp2_with fail
  go_loopw [1, 17] (fun a b wr => ∃ (u i j : Nat) (d : List UInt8), a = .int .u64 u ∧ b = .int .i64 i ∧ i + d.length = 68 ∧ j + d.length = 20 ∧ u < 18446744073709551616 ∧ Hid (u < 10 ^ j ∧ digs u ++ d = goal) ∧ Hid (PPI K wr p l vu m mo ov d) ∧ Hid (Kp K w wr))
    (fun a _ _ => (intOf a).toNat)
  case atStart => exact ⟨n, 68, 20, [], rfl, rfl, rfl, rfl, by omega, ⟨by omega, by rw [HG.out]; simp⟩, HI.out, Kp.refl K w⟩
  case round =>
    obtain ⟨u, i, j, d, rfl, rfl, hid, hjd, hu, hdig, hI, hK⟩ := hrel
    by_cases h10 : 10 ≤ u
    · obtain ⟨jj, hj, hj1, hu2⟩ := pow_down hdig.out.1 h10
      have hix := HBI.out (i - 1) (by omega)
      have ei : ((i - 1 : Nat) : Int) = (i : Int) - 1 := by omega
      rw [ei] at hix
      obtain ⟨⟨y, hy⟩, hfz, hpush⟩ := hI.out.push (i - 1) (by omega) (UInt8.ofNat (48 + u % 10))
      have HU2 := Lib.hid hu2; clear hu2
      have HJ := Lib.hid hj; clear hj
      clear ei
      have HPU := Lib.hid hpush; clear hpush
      have h10i : (10 : Int) ≤ (u : Int) := by omega
      have hui : (u : Int) < 18446744073709551616 := by omega
      have HD := Lib.hid hdig; clear hdig
      go_wp2_with fail
      go_roundw
      case rel =>
        rw [byte_wrap u]
        refine ⟨u / 10, i - 1, jj, UInt8.ofNat (48 + u % 10) :: d, by go_num, by go_num, by simp; omega, by have := HJ.out; simp; omega, by omega, ⟨HU2.out, ?_⟩, HPU.out, hK.out.setCell hI.out.pp.hp _ _⟩
        have h2 := HD.out.out
        rw [HJ.out] at h2
        exact digs_push h10 h2.1 (by have := HJ.out; omega) h2.2
      case measure => simp [intOf]; omega
    · have h10i : (u : Int) < 10 := by omega
      have h0i : (0 : Int) ≤ (u : Int) := by omega
      have hix := HBI.out (i - 1) (by omega)
      have ei : ((i - 1 : Nat) : Int) = (i : Int) - 1 := by omega
      rw [ei] at hix
      obtain ⟨x, hx⟩ : ∃ x, UInt8.ofNat (48 + u) = x := ⟨_, rfl⟩
      have hdx : ((⟨#[48, 49, 50, 51, 52, 53, 54, 55, 56, 57, 97, 98, 99, 100, 101, 102, 120]⟩ : ByteArray)[u]'(by show u < 17; omega)) = x := by rw [← hx]; exact digit_at u (by omega)
      have HX := Lib.hid hx; clear hx
      obtain ⟨⟨y, hy⟩, hfz, hpush⟩ := hI.out.push (i - 1) (by omega) x
      clear ei
      have HPU := Lib.hid (And.intro hpush (hK.out.setCell hI.out.pp.hp (18 + (i - 1)) (.int .u8 (x.toNat : Int)))); clear hpush
      have HD := Lib.hid hdig; clear hdig
      have h5 : (68 : Int) - ((i : Int) - 1) ≥ 0 := by omega
      have hii : i - 1 < 68 := by omega
      go_wp2_with fail
      generalize wr.setCell ⟨p, 18 + (i - 1), none⟩ (.int .u8 (x.toNat : Int)) = W2 at HPU ⊢
      clear hy hfz hix hdx
      have e7 := HPU.out.1.flags 7 (by omega) (by omega)
      have e10 := HPU.out.1.flags 10 (by omega) (by omega)
      have e11 := HPU.out.1.flags 11 (by omega) (by omega)
      have e12 := HPU.out.1.flags 12 (by omega) (by omega)
      have e13 := HPU.out.1.flags 13 (by omega) (by omega)
      have f13 := HPU.out.1.pp.fz 13
      have hbf := HBF.out (i - 2) (by omega)
      have hix := HBI.out (i - 2) (by omega)
      have ei : ((i - 2 : Nat) : Int) = (i : Int) - 1 - 1 := by omega
      rw [ei] at hbf hix
      clear ei
      obtain ⟨⟨y, hy⟩, hfz, hpush⟩ := HPU.out.1.push (i - 2) (by simp; omega) 45
      have HP2 := Lib.hid hpush; clear hpush
      refine wp_loop_rounds 1 ?_
      rw [rounds_succ]
      go_wp2_with fail
      refine (padI_at (d := 45 :: x :: d) (PPI.setZ (by exact HP2.out)) (i - 2) (by simp; omega) hl HZ.out).mono ?_
      rintro e w3 ⟨rfl, h3, hb3⟩
      have g13 := h3.out.fl 13 (by omega) (by omega)
      have k13 := h3.out.fz 13
      go_wp2_with fail
      first | go_end0 | ((try simp only [Exit.inBlock, Exit.then]); refine bodyPost_ret (results_none rfl _ _ _) rfl ?_)
      have hgoal : x :: d = goal := by
        have h2 := HD.out.out.2
        rw [digs_low u (by omega), HX.out] at h2
        exact h2
      rw [← hgoal]
      exact ⟨rfl, h3.out.setZ, (((HPU.out.2.setCell HI.out.pp.hp _ _).setCell HI.out.pp.hp _ _).trans hb3).setCell HI.out.pp.hp _ _⟩
/-- A number as uint64. -/
def u64 (n : Int) : Int := if n < 0 then 18446744073709551616 + n else n
theorem fmtInteger_any (n : Int) (h0 : -9223372036854775808 ≤ n) (h1 : n ≤ 9223372036854775807) (verb : Int) (hv : verb = 118 ∨ verb = 100) (h : PP K w p l vu m mo ov) (hl : l.length ≤ 90000) (hz : m = 0 → mo = false → NoHash l) :
    Calls Tryz.prog 162 #[.pointer (some ⟨p, 6, none⟩), .int .u64 (u64 n), .int .i64 10, .bool true, .int .i32 verb, .string LD] w (PPQ K p w (.tuple #[]) (swl l m mo ++ numL n) (swv l vu m mo) m (swm m mo) ov) := by
  unfold u64 numL
  by_cases hn : n < 0
  · rw [if_pos hn, if_pos hn]
    exact fmtInteger_neg n.natAbs (by omega) (by omega) _ (by omega) verb hv h hl hz
  · rw [if_neg hn, if_neg hn]
    have := fmtInteger_pos n.natAbs (by omega) verb hv h hl hz
    rw [show (n.natAbs : Int) = n by omega] at this
    exact this
section
variable {l1 l2 l3 : List UInt8} {vu1 vu2 vu3 : Nat} {m0 m1 : Int} {mo1 mo2 mo3 : Bool} {ov0 ov1 : Int}
set_option maxHeartbeats 1000000 in
set_option maxRecDepth 100000 in
theorem ppInteger_of (n : Int) (verb : Int) (hv : verb = 118 ∨ verb = 100) (h : PP K w p l vu m mo ov)
    (hS : Calls Tryz.prog 159 #[.pointer (some ⟨p, 0, none⟩)] w (PPQ K p w (Rv p m0 ov0) l1 vu1 m1 mo1 ov1))
    (hW : ∀ W, PP K W p l1 vu1 m1 mo1 ov1 → Calls Tryz.prog 162 #[.pointer (some ⟨p, 6, none⟩), .int .u64 (u64 n), .int .i64 10, .bool true, .int .i32 verb, .string LD] W (PPQ K p W (.tuple #[]) l2 vu2 m1 mo2 ov1))
    (hR : ∀ W, PP K W p l2 vu2 m1 mo2 ov1 → CallsD Tryz.prog 131 #[Rv p m0 ov0] .returning W fun e u' w' => u' = .returning ∧ PPQ K p W (.tuple #[]) l3 vu3 m0 mo3 ov0 e w') :
    Calls Tryz.prog 138 #[.pointer (some ⟨p, 0, none⟩), .int .u64 (u64 n), .bool true, .int .i32 verb] w (PPQ K p w (.tuple #[]) l3 vu3 m0 mo3 ov0) := by
  have c15 := h.fl 15 (by omega) (by omega)
  clear h
  have HS := Lib.hid hS; clear hS
  have HW := Lib.hid hW; clear hW
  have HR := Lib.hid hR; clear hR
  unfold LD at HW
  generalize u64 n = un at *
  rcases hv with rfl | rfl
  ·
    go_enter_defers Tryz.func138, Tryz.ntmps138
    go_wp2_with fail
    refine HS.out.mono ?_
    rintro e w1 ⟨rfl, h1, hb1⟩
    go_wp2_with fail
    refine (HW.out w1 h1.out).mono ?_
    rintro e w2 ⟨rfl, h2, hb2⟩
    go_wp2_with fail
    refine leaves_cons (f := 131) (args := #[Rv p m0 ov0]) (by simp) (by simp [go_sem, Rv]) ?_
    refine (HR.out w2 h2.out).mono ?_
    rintro e u' w3 ⟨rfl, rfl, h3, hb3⟩
    exact ⟨_, results_none rfl _ _ _, rfl, h3, hb1.trans (hb2.trans hb3)⟩
  ·
    go_enter_defers Tryz.func138, Tryz.ntmps138
    go_wp2_with fail
    refine HS.out.mono ?_
    rintro e w1 ⟨rfl, h1, hb1⟩
    go_wp2_with fail
    refine (HW.out w1 h1.out).mono ?_
    rintro e w2 ⟨rfl, h2, hb2⟩
    go_wp2_with fail
    refine leaves_cons (f := 131) (args := #[Rv p m0 ov0]) (by simp) (by simp [go_sem, Rv]) ?_
    refine (HR.out w2 h2.out).mono ?_
    rintro e u' w3 ⟨rfl, rfl, h3, hb3⟩
    exact ⟨_, results_none rfl _ _ _, rfl, h3, hb1.trans (hb2.trans hb3)⟩
end
end
end Go.Proofs.YtlmcglaajmjanaaGreatDoor
