/- The law FnMarks: the markers are those three, and a number between markers is redacted to the third. No condition. -/
import Derived.Test.YtlmcglaajmjanaaAsc
import Derived.Test.YtlmcglaajmjanaaNum
import Derived.Test.YtlmcglaajmjanaaMarks
import Derived.Lib.QuietBelow
namespace Go.Proofs.Ytlmcglaajmjanaa
open Go.RowKit Go.Sort
attribute [local irreducible] Utf8.encode Utf8.decode
theorem idxE_ascii (d : List UInt8) (h : Asc d) : idxL mkE (d ++ mkE) = some d.length := by
  induction d with
  | nil => exact idxL_hit mkE _ rfl
  | cons b d ih =>
    rw [List.cons_append, idxL_miss, ih (fun x hx => h x (List.mem_cons_of_mem _ hx))]
    · simp
    · intro hn
      have hb := h b (List.mem_cons_self ..)
      simp [mkE] at hn
      rw [hn.1] at hb
      simp at hb
theorem red_marked (d : List UInt8) (h : Asc d) : redL (mkS ++ d ++ mkE) = mkX := by
  have h3 : mkS.length = 3 := rfl
  have h4 : mkE.length = 3 := rfl
  have e1 : (mkS ++ d ++ mkE).drop (0 + 3) = d ++ mkE := by rw [List.append_assoc]; exact List.drop_left' rfl
  rw [redL_shut (i := 0) (j := d.length) (idxL_hit mkS _ (by rw [List.append_assoc]; exact List.take_left' rfl)) (by rw [e1]; exact idxE_ascii d h)]
  have e2 : (mkS ++ d ++ mkE).drop (0 + 3 + d.length + 3) = [] := List.drop_of_length_le (by simp [h3, h4]; omega)
  rw [e2]; rfl
theorem num_red (n : Int) (h : 0 ≤ n) : redL (unsafeL [] (numL n)) = mkX := by
  have e : numL n = digs n.natAbs := by unfold numL; rw [if_neg (by omega)]
  rw [e, unsafeL_ascii _ (digs_ascii _) (digs_line _) (digs_ne _), red_marked _ (digs_ascii _)]
theorem num_ne (n : Int) : numL n ≠ [] := by
  unfold numL
  split
  · simp
  · exact digs_ne _
theorem mk_of {r : ByteArray} {l : List UInt8} (h : r.data.toList = l) : r = ⟨l.toArray⟩ := by rw [← h]
theorem number_det (n : Int) (h0 : -9223372036854775808 ≤ n) (h1 : n ≤ 9223372036854775807) (w : World) :
    Calls Try.prog 7 #[.int .i64 n] w fun e w' => e = .returned (.string ⟨(numL n).toArray⟩) ∧ Below w.heap.size w w' :=
  (number_any n w h0 h1).mono fun e w' ⟨⟨r, he, hr⟩, hb⟩ => ⟨by rw [he, mk_of hr.out.1], hb⟩
theorem numL_len (n : Int) : (numL n).length ≤ 21 := by
  have := digs_len n.natAbs
  unfold numL
  split <;> simp <;> omega
theorem unsafe_num (n : Int) (w : World) :
    Calls Try.prog 6 #[.string ⟨#[]⟩, .string ⟨(numL n).toArray⟩] w fun e w' => e = .returned (.string ⟨(unsafeL [] (numL n)).toArray⟩) ∧ Below w.heap.size w w' := by
  have hl := numL_len n
  have hs : (ByteArray.mk (numL n).toArray).size = (numL n).length := by simp [ByteArray.size]
  refine (unsafe_any ⟨#[]⟩ ⟨(numL n).toArray⟩ w ?_ (by decide) (by omega)).mono fun e w' ⟨⟨r, he, hr⟩, hb⟩ => ⟨by rw [he, mk_of hr.out.1], hb⟩
  rw [Lib.toList_data]
  have := num_ne n
  cases h : numL n with
  | nil => exact absurd h this
  | cons a l => rfl
theorem unsafeL_num_len (n : Int) (h : 0 ≤ n) : (unsafeL [] (numL n)).length ≤ 30 := by
  have e : numL n = digs n.natAbs := by unfold numL; rw [if_neg (by omega)]
  rw [e, unsafeL_ascii _ (digs_ascii _) (digs_line _) (digs_ne _)]
  have := digs_len n.natAbs
  simp [mkS, mkE]; omega
theorem redact_num (n : Int) (h : 0 ≤ n) (w : World) :
    Calls Try.prog 5 #[.string ⟨(unsafeL [] (numL n)).toArray⟩] w fun e w' => e = .returned (.string ⟨#[226, 128, 185, 195, 151, 226, 128, 186]⟩) ∧ Below w.heap.size w w' := by
  have hl := unsafeL_num_len n h
  have hs : (ByteArray.mk (unsafeL [] (numL n)).toArray).size = (unsafeL [] (numL n)).length := by simp [ByteArray.size]
  refine (implRedact_any ⟨(unsafeL [] (numL n)).toArray⟩ w (by omega)).mono fun e w' ⟨r, he, hr, hb⟩ => ⟨?_, hb⟩
  have h2 := hr.out
  rw [show (ByteArray.mk (unsafeL [] (numL n)).toArray).data.toList = unsafeL [] (numL n) from rfl, num_red n h] at h2
  rw [he, mk_of h2]; rfl
theorem cell_drewN {w : World} {a : Addr} {v : Value} (h : w.cell? a = some v) (n : Nat) : (w.drewN n).cell? a = some v := h
set_option maxHeartbeats 8000000 in
set_option maxRecDepth 100000 in
theorem fnMarks_any (n : Int) (w : World) (h0 : -9223372036854775808 ≤ n) (h1 : n ≤ 9223372036854775807) :
    Calls Try.prog 3 #[.int .i64 n] w fun e w' => e = .returned (.bool true) ∧ Below w.heap.size w w' := by
  rcases (show n < 0 ∨ 0 ≤ n by omega) with hn | hn
  · go_enter Try.func3, Try.ntmps3
    go_wp2_with fail
    refine (marks_any _).mono ?_
    rintro e w1 ⟨b, rfl, hb, hb1⟩
    have hc0 : w1.cell? ⟨b, 0, none⟩ = some (.string ⟨#[226, 128, 185]⟩) := by simp [World.cell?, hb]
    have hc1 : w1.cell? ⟨b, 1, none⟩ = some (.string ⟨#[226, 128, 186]⟩) := by simp [World.cell?, hb]
    have hc2 : w1.cell? ⟨b, 2, none⟩ = some (.string ⟨#[226, 128, 185, 195, 151, 226, 128, 186]⟩) := by simp [World.cell?, hb]
    clear hb
    go_wp2_with fail
    go_quiet (fail)
    go_wp2
    go_ret
    exact ⟨rfl, below_drewN' hb1 _⟩
  · have cN : ∀ w d os, Calls Try.prog 7 #[.int .i64 n] (grow (redrawn w d) os) fun e w'' => e = .returned (.string ⟨(numL n).toArray⟩) ∧ ∃ p : Regrown, w'' = grow (redrawn w p.d) p.os := fun w d os => Calls.regrown_of (number_det n h0 h1 _)
    have cU : ∀ w d os, Calls Try.prog 6 #[.string ⟨#[]⟩, .string ⟨(numL n).toArray⟩] (grow (redrawn w d) os) fun e w'' => e = .returned (.string ⟨(unsafeL [] (numL n)).toArray⟩) ∧ ∃ p : Regrown, w'' = grow (redrawn w p.d) p.os := fun w d os => Calls.regrown_of (unsafe_num n _)
    have cR : ∀ w d os, Calls Try.prog 5 #[.string ⟨(unsafeL [] (numL n)).toArray⟩] (grow (redrawn w d) os) fun e w'' => e = .returned (.string ⟨#[226, 128, 185, 195, 151, 226, 128, 186]⟩) ∧ ∃ p : Regrown, w'' = grow (redrawn w p.d) p.os := fun w d os => Calls.regrown_of (redact_num n hn _)
    generalize numL n = nl at *
    generalize unsafeL [] nl = ul at *
    have CN := Lib.hid cN; clear cN
    have CU := Lib.hid cU; clear cU
    have CR := Lib.hid cR; clear cR
    go_enter Try.func3, Try.ntmps3
    go_wp2_with fail
    refine (marks_any _).mono ?_
    rintro e w1 ⟨b, rfl, hb, hb1⟩
    have hc0 : w1.cell? ⟨b, 0, none⟩ = some (.string ⟨#[226, 128, 185]⟩) := by simp [World.cell?, hb]
    have hc1 : w1.cell? ⟨b, 1, none⟩ = some (.string ⟨#[226, 128, 186]⟩) := by simp [World.cell?, hb]
    have hc2 : w1.cell? ⟨b, 2, none⟩ = some (.string ⟨#[226, 128, 185, 195, 151, 226, 128, 186]⟩) := by simp [World.cell?, hb]
    clear hb
    have k0 := cell_regrown hc0
    have k1 := cell_regrown hc1
    have k2 := cell_regrown hc2
    go_wp2_with fail
    refine wp_region_quiet_below (by kernel_rfl) (by kernel_rfl) ?_
    repeat (quiet_step (first | exact CN.out _ _ _ | exact CU.out _ _ _ | exact CR.out _ _ _))
    refine wpQuiet_nil ?_
    intro _ hw'
    obtain ⟨⟨dq, osq⟩, hw''⟩ := hw'
    subst hw''
    go_wp2
    go_ret
    exact ⟨rfl, hb1.trans ((below_regrown w1 dq osq).mono hb1.size)⟩
end Go.Proofs.Ytlmcglaajmjanaa
