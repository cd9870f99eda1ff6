/- Walk of the reference's Number: the decimal digits of an int64. -/
import Derived.Test.YtlmcglaajmjanaaGreatDoorSpc
namespace Go.Proofs.YtlmcglaajmjanaaGreatDoor
open Go.RowKit
attribute [local irreducible] Utf8.encode Utf8.decode

/-- One byte, laid in a row of its own, read as a string. -/
theorem one_byte_string (w : World) (x : Int) (h0 : 0 ≤ x) (h1 : x ≤ 255) :
    (convert 31 9 (.slice (some ⟨w.heap.size, 0, none⟩) 1 1)).run Tryz.prog (w.alloc (.cells #[.int .u8 x] 5)) = .ok (.string ⟨#[UInt8.ofNat x.toNat]⟩) (w.alloc (.cells #[.int .u8 x] 5)) := by
  have := run_convert_bytes_back (P := Tryz.prog) (w.alloc (.cells #[.int .u8 x] 5)) 31 9 5 ⟨w.heap.size, 0, none⟩ 1 [UInt8.ofNat x.toNat] Tryz.underlying31 Tryz.underlying5 Tryz.underlying9 (by
    intro j hj
    have hj0 : j = 0 := by simp at hj; omega
    subst hj0
    have hx : ((x.toNat % 256 : Nat) : Int) = x := by omega
    show (w.alloc (.cells #[.int .u8 x] 5)).cell? ⟨w.heap.size, 0, none⟩ = _
    rw [World.cell?_alloc_new]
    show some (Value.int .u8 x) = some (.int .u8 ((x.toNat % 256 : Nat) : Int))
    rw [hx])
  exact this

theorem natAbs_digit {m d q : Int} (h : m.natAbs = (10 * q + d).natAbs) (hd0 : 0 ≤ d) (hd : d ≤ 9) (hq : 0 ≤ q) : m.natAbs / 10 = q.toNat ∧ m.natAbs % 10 = d.toNat := by omega

/-- How long the string in a slot is: for a loop's measure. -/
def szOf : Value → Nat | .string s => s.size | _ => 0
def NumQ (goal : List UInt8) (w : World) (e : Ending) (w' : World) : Prop := (∃ r : ByteArray, e = .returned (.string r) ∧ Hid (r.data.toList = goal ∧ r.size ≤ 30)) ∧ Below w.heap.size w w'
def NumI (n m : Int) (k : Nat) (l : List UInt8) : Prop := m.natAbs < 10 ^ (20 - k) ∧ NumAt m.natAbs l (digs n.natAbs) ∧ (m < 0 → n < 0) ∧ (0 < m → 0 ≤ n)
theorem NumI.step {n m d q : Int} {k : Nat} {l : List UInt8} (h : NumI n m k l) (hm : m.natAbs = (10 * q + d).natAbs) (hd0 : 0 ≤ d) (hd : d ≤ 9) (hq : 0 ≤ q) (hne : ¬ (m.natAbs = 0 ∧ l ≠ [])) (m2 : Int) (hm2 : m2.natAbs = q.toNat) (h1 : m2 < 0 → m < 0) (h2 : 0 < m2 → 0 < m) (hk : k < 20) :
    NumI n m2 (k + 1) (UInt8.ofNat (48 + d).toNat :: l) := by
  obtain ⟨a, b, c, e⟩ := h
  obtain ⟨x, y⟩ := natAbs_digit hm hd0 hd hq
  have ha : m.natAbs < 10 ^ 20 := Nat.lt_of_lt_of_le a (Nat.pow_le_pow_right (by omega) (by omega))
  refine ⟨?_, ?_, fun h => c (h1 h), fun h => e (h2 h)⟩
  · rw [hm2, ← x]
    have : 20 - k = (20 - (k + 1)) + 1 := by omega
    rw [this, Nat.pow_succ] at a
    omega
  · have := b.step hne ha
    rw [x, y] at this
    have e1 : (48 + d).toNat = 48 + d.toNat := by omega
    rw [hm2, e1]; exact this
theorem NumI.room {n m : Int} {k : Nat} {l : List UInt8} (h : NumI n m k l) (hm : m ≠ 0) (hk : k ≤ 20) : k < 20 := by
  rcases Nat.lt_or_ge k 20 with h' | h'
  · exact h'
  · have : k = 20 := by omega
    subst this
    have := h.1
    simp at this; omega

theorem tmod_neg {m : Int} (h : m < 0) : m.tmod 10 = -((-m) % 10) := by
  have e : m = -(-m) := by omega
  generalize hM : -m = M at e
  subst e
  rw [Int.neg_tmod, Int.tmod_eq_emod_of_nonneg (by omega)]
theorem tdiv_neg {m : Int} (h : m < 0) : m.tdiv 10 = -((-m) / 10) := by
  have e : m = -(-m) := by omega
  generalize hM : -m = M at e
  subst e
  rw [Int.neg_tdiv, Int.tdiv_eq_ediv_of_nonneg (by omega)]

set_option maxHeartbeats 2000000 in
set_option maxRecDepth 100000 in
theorem number_any (n : Int) (w : World) (h0 : -9223372036854775808 ≤ n) (h1 : n ≤ 9223372036854775807) :
    Calls Tryz.prog 67 #[.int .i64 n] w (NumQ (numL n) w) := by
  go_enter Tryz.func67, Tryz.ntmps67
  go_wp2
  go_loopw [3, 4] (fun ov mv wr => ∃ (m : Int) (acc : ByteArray) , ov = .string acc ∧ mv = .int .i64 m ∧ acc.size ≤ 20 ∧ -9223372036854775808 ≤ m ∧ m ≤ 9223372036854775807 ∧ Hid (NumI n m acc.size acc.data.toList) ∧ Below w.heap.size w wr)
    (fun ov _ _ => 30 - szOf ov)
  case atStart => exact ⟨n, ⟨#[]⟩, rfl, rfl, by decide, h0, h1, ⟨by show _ < 10 ^ 20; omega, NumAt.start _, fun h => h, fun h => by omega⟩, Below.refl _ _⟩
  case round =>
    obtain ⟨m, acc, rfl, rfl, hasz, hm0, hm1, hacc, hnx⟩ := hrel
    have hsz := Lib.size_eq acc
    have HS := Lib.hid hsz; clear hsz
    rcases Int.lt_trichotomy m 0 with hm | hm | hm
    · have hk := hacc.out.room (by omega) hasz
      obtain ⟨d, q, hd, hq, hd0, hd9, hq0, hq1, hdm⟩ : ∃ d q : Int, m.tmod 10 = -d ∧ m.tdiv 10 = -q ∧ 0 ≤ d ∧ d ≤ 9 ∧ 0 ≤ q ∧ q ≤ 922337203685477580 ∧ m = -(10 * q + d) :=
        ⟨(-m) % 10, (-m) / 10, tmod_neg hm, tdiv_neg hm, by omega, by omega, by omega, by omega, by omega⟩
      have hst := hacc.out.step (d := d) (q := q) (by omega) hd0 hd9 hq0 (by omega) (-q) (by omega) (by omega) (by omega) hk
      have hob := one_byte_string wr (48 + d) (by omega) (by omega)
      obtain ⟨y, hadd, hysz, Hy⟩ := add_ex Tryz.prog ⟨#[UInt8.ofNat (48 + d).toNat]⟩ acc (by have : (ByteArray.mk #[UInt8.ofNat (48 + d).toNat]).size = 1 := rfl; omega)
      have hye : y.size = acc.size + 1 := by rw [Lib.size_eq, Hy.out, Lib.size_eq acc]; simp
      have Hyd : Hid (y.data.toList = UInt8.ofNat (48 + d).toNat :: acc.data.toList) := Hy.out
      have HI : Hid (NumI n (-q) y.size y.data.toList ∧ y.size = acc.size + 1 ∧ szOf (.string y) = acc.size + 1) := ⟨by rw [hye, Hyd.out]; exact hst, hye, hye⟩
      clear hye hysz hst hdm
      rcases (show 0 < d ∨ d ≤ 0 by omega) with hd1 | hd1
      · go_wp2
        go_roundw
        case rel => exact ⟨(-q), y, rfl, rfl, by have := HI.out.2.1; omega, by omega, by omega, HI.out.1, hnx.alloc hnx.size _⟩
        case measure => rw [HI.out.2.2]; show _ < 30 - acc.size; omega
      · have hob2 : (convert 31 9 (.slice (some ⟨wr.heap.size, 0, none⟩) 1 1)).run Tryz.prog (wr.alloc (.cells #[.int .u8 (48 + -d)] 5)) = .ok (.string ⟨#[UInt8.ofNat (48 + d).toNat]⟩) (wr.alloc (.cells #[.int .u8 (48 + -d)] 5)) := by
          have e : (48 + d).toNat = (48 + -d).toNat := by omega
          rw [e]; exact one_byte_string wr (48 + -d) (by omega) (by omega)
        clear hob
        go_wp2
        go_roundw
        case rel => exact ⟨(-q), y, rfl, rfl, by have := HI.out.2.1; omega, by omega, by omega, HI.out.1, hnx.alloc hnx.size _⟩
        case measure => rw [HI.out.2.2]; show _ < 30 - acc.size; omega
    · subst hm
      cases he : acc.toList.isEmpty
      · have hfin : acc.data.toList = digs n.natAbs := hacc.out.2.1.stop ⟨rfl, by rw [← Lib.toList_data]; intro hn; rw [hn] at he; simp at he⟩
        have Hfin := Lib.hid hfin; clear hfin
        obtain ⟨y, hadd, hysz, Hy⟩ := add_ex Tryz.prog ⟨#[45]⟩ acc (by have : (ByteArray.mk #[45]).size = 1 := rfl; omega)
        have hysz' : y.size ≤ 1 + acc.size := hysz
        clear hysz
        rcases (show n < 0 ∨ 0 ≤ n by omega) with hn | hn
        · go_wp2
          go_ret
          exact ⟨⟨y, rfl, by rw [Hy.out, Hfin.out, numL, if_pos hn]; rfl, by omega⟩, hnx⟩
        · go_wp2
          go_ret
          exact ⟨⟨acc, rfl, by rw [Hfin.out, numL, if_neg (by omega)], by omega⟩, hnx⟩
      · have hk0 : acc.size = 0 := by
          rw [Lib.toList_data] at he
          have h0 : acc.data.toList = [] := List.isEmpty_iff.1 he
          rw [HS.out, h0]; rfl
        have hd0 : (0 : Int) ≤ 0 := by omega
        have hst := hacc.out.step (d := 0) (q := 0) (by omega) (by omega) (by omega) (by omega) (by rw [Lib.toList_data] at he; intro hc; apply hc.2; simpa using he) 0 (by omega) (by omega) (by omega) (by omega)
        have hk : acc.size < 20 := by omega
        clear hk0
        have hob := one_byte_string wr 48 (by omega) (by omega)
        obtain ⟨y, hadd, hysz, Hy⟩ := add_ex Tryz.prog ⟨#[UInt8.ofNat (48 : Int).toNat]⟩ acc (by have : (ByteArray.mk #[UInt8.ofNat (48 : Int).toNat]).size = 1 := rfl; omega)
        have hye : y.size = acc.size + 1 := by rw [Lib.size_eq, Hy.out, Lib.size_eq acc]; simp
        have Hyd : Hid (y.data.toList = UInt8.ofNat (48 : Int).toNat :: acc.data.toList) := Hy.out
        have HI : Hid (NumI n 0 y.size y.data.toList ∧ y.size = acc.size + 1 ∧ szOf (.string y) = acc.size + 1) := ⟨by rw [hye, Hyd.out]; exact hst, hye, hye⟩
        have hadd' : ∀ w, (Op.stringOp .add ⟨#[48]⟩ acc).run Tryz.prog w = .ok (.string y) w := hadd
        clear hye hysz hst hadd
        go_wp2
        go_roundw
        case rel => exact ⟨0, y, rfl, rfl, by have := HI.out.2.1; omega, by omega, by omega, HI.out.1, hnx.alloc hnx.size _⟩
        case measure => rw [HI.out.2.2]; show _ < 30 - acc.size; omega
    · have hk := hacc.out.room (by omega) hasz
      have hdm : m = 10 * (m / 10) + m % 10 := by omega
      have hd0 : 0 ≤ m % 10 := by omega
      have hd9 : m % 10 ≤ 9 := by omega
      have hq0 : 0 ≤ m / 10 := by omega
      have hst := hacc.out.step (d := m % 10) (q := m / 10) (by omega) hd0 hd9 hq0 (by omega) (m / 10) (by omega) (by omega) (by omega) hk
      have hob := one_byte_string wr (48 + m % 10) (by omega) (by omega)
      obtain ⟨y, hadd, hysz, Hy⟩ := add_ex Tryz.prog ⟨#[UInt8.ofNat (48 + m % 10).toNat]⟩ acc (by have : (ByteArray.mk #[UInt8.ofNat (48 + m % 10).toNat]).size = 1 := rfl; omega)
      have hye : y.size = acc.size + 1 := by rw [Lib.size_eq, Hy.out, Lib.size_eq acc]; simp
      have Hyd : Hid (y.data.toList = UInt8.ofNat (48 + m % 10).toNat :: acc.data.toList) := Hy.out
      have HI : Hid (NumI n (m / 10) y.size y.data.toList ∧ y.size = acc.size + 1 ∧ szOf (.string y) = acc.size + 1) := ⟨by rw [hye, Hyd.out]; exact hst, hye, hye⟩
      clear hye hysz hst hdm
      go_wp2
      go_roundw
      case rel => exact ⟨(m / 10), y, rfl, rfl, by have := HI.out.2.1; omega, by omega, by omega, HI.out.1, hnx.alloc hnx.size _⟩
      case measure => rw [HI.out.2.2]; show _ < 30 - acc.size; omega
end Go.Proofs.YtlmcglaajmjanaaGreatDoor
