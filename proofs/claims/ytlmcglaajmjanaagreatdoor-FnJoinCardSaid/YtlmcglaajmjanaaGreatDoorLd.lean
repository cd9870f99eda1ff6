/- What a row's premises give the walks: the tables of package utf8; a list of arguments that came in. -/
import Derived.Test.YtlmcglaajmjanaaGreatDoorRows
import Derived.Test.YtlmcglaajmjanaaGreatDoorZk
import Derived.Test.YtlmcglaajmjanaaGreatDoorZi
import Derived.ProofKit
import Derived.OpenShut
import Derived.OpenVars
import Derived.PinnedBridge
import Derived.Lib.LaidU8T
import Derived.Lay
import Derived.Deep.Fields
import Derived.ChangeSame
namespace Go.Proofs.YtlmcglaajmjanaaGreatDoor
open Go.ChangeShapes Go.WideShapes Go.ChangeAt Go.RowKit Go.Shelf Go.Lib
theorem laws_own : ownKnob Tryz.prog.godebug = none := by kernel_rfl
theorem laws_out : laidOutB Tryz.prog = true := by kernel_rfl
def u8ren : Ren := ⟨id, fun | 119 => 180 | 138 => 182 | 139 => 183 | n => n, fun | 3 => 1 | 4 => 2 | n => n⟩
theorem u8types : U8Types Tryz.prog u8ren := ⟨by kernel_rfl, by kernel_rfl, by kernel_rfl, by kernel_rfl⟩
theorem u8extra : U8Extra Tryz.prog u8ren := ⟨by kernel_rfl, by kernel_rfl, by kernel_rfl, by kernel_rfl, by kernel_rfl, by kernel_rfl, by kernel_rfl⟩
theorem tabW_of {W : World} (h1 : VarReads Tryz.prog W "unicode/utf8.first" firstData) (h2 : VarReads Tryz.prog W "unicode/utf8.acceptRanges" acceptData) : TabW W := by
  have h := utf8Tabs_of_readsT u8types u8extra h1 h2
  exact ⟨h, World.block_lt_of_cell? W _ (h.2 0 (by decide)).1⟩
theorem acceptData_eq : acceptData = Rows.laid_unicode_utf8_acceptRanges := by kernel_rfl
section
variable {H : Type} {enc : TypeId × Value → H} {P : Program} {w : World} {base : Nat} {spare : Nat → Bool} {held : Bool}
theorem open_slice_fields {t e : TypeId} {fs : Array Field} {fuel : Nat} {cs : List Value} {x : DataW H × List MemPlace} (ht : P.underlying t = some (.slice e)) (he : P.underlying e = some (.struct fs))
    (hone : Deep.oneCellFields P fs = true) (hC : P.cellsOf e = fs.size) (h : DataW.trod enc P w base spare held fuel t cs = some x) :
    (cs = [.slice none 0 0] ∧ x = (.nil, [])) ∨
    ∃ (a : Addr) (len cap m : Nat) (D : Nat → DataW H) (Pl : Nat → List MemPlace), cs = [.slice (some a) len cap] ∧ base ≤ a.block ∧ len ≤ cap ∧ cap ≤ maxLen ∧ m = (if spare a.block then cap else len) ∧
      x = (.slice ((List.range len).map D) ((List.range (m - len)).map fun j => D (len + j)), MemPlace.row a (m * fs.size) ++ (List.range m).flatMap Pl) ∧
      ∀ i, i < m → ∃ (ys : List (DataW H × List MemPlace)) (n : Nat), D i = .agg (ys.map (·.1)) ∧ Pl i = ys.flatMap (·.2) ∧ ys.length = fs.size ∧
        ∀ (j : Nat) (f : Field), fs[j]? = some f → ∃ (v : Value) (y : DataW H × List MemPlace), w.cell? (a.add (i * fs.size + j)) = some v ∧ ys[j]? = some y ∧ DataW.trod enc P w base spare held n f.type [v] = some y := by
  rcases Deep.open_slice ht h with h0 | ⟨a, len, cap, m, n, D, Pl, hcs, hb, hl, hm, hmm, hx, hi⟩
  · exact .inl h0
  · refine .inr ⟨a, len, cap, m, D, Pl, hcs, hb, hl, hm, hmm, by rw [hC] at hx; exact hx, fun i him => ?_⟩
    obtain ⟨cs', hc, ht'⟩ := hi i him
    rw [hC] at hc
    obtain ⟨ys, n', hn', hy, hlen, hyl, hf⟩ := DataW.trod_struct he ht'
    obtain ⟨_, hcl, hat⟩ := World.cells?_some hc
    simp only [Prod.mk.injEq] at hy
    refine ⟨ys, n', hy.1, hy.2, hyl, fun j f hj => ?_⟩
    obtain ⟨ho, hk⟩ := Deep.hone_of hone j f hj
    have hjl : j < fs.size := (Array.getElem?_eq_some_iff.1 hj).1
    have hcell := hat j hjl
    have hv : cs'[j]? = some (cs'[j]'(by omega)) := List.getElem?_eq_getElem (by omega)
    have h1 := hf j f hj
    rw [ho, hk] at h1
    have hone' : (cs'.drop j).take 1 = [cs'[j]'(by omega)] := by
      rw [List.drop_eq_getElem_cons (by omega)]
      rfl
    rw [hone'] at h1
    have hys : ys[j]? = some (ys[j]'(by omega)) := List.getElem?_eq_getElem (by omega)
    refine ⟨_, _, ?_, hys, h1.trans hys⟩
    rw [← Go.Deep.add_add, hcell, hv]
theorem exists_list {α : Type} {Q : Nat → α → Prop} : ∀ n, (∀ i, i < n → ∃ x, Q i x) → ∃ l : List α, l.length = n ∧ ∀ j (h : j < l.length), Q j (l[j]'h) := by
  intro n
  induction n with
  | zero => intro _; exact ⟨[], rfl, fun j h => by cases h⟩
  | succ n ih =>
    intro h
    obtain ⟨l, hl, hq⟩ := ih fun i hi => h i (by omega)
    obtain ⟨x, hx⟩ := h n (by omega)
    refine ⟨l ++ [x], by simp [hl], fun j hj => ?_⟩
    by_cases hjn : j < l.length
    · rw [List.getElem_append_left hjn]; exact hq j hjn
    · have : j = l.length := by simp at hj; omega
      subst this
      rw [List.getElem_append_right (Nat.le_refl _)]
      simp only [Nat.sub_self, List.getElem_cons_zero]
      rw [hl]; exact hx
theorem argFields : ∃ fs : Array Field, Tryz.prog.underlying 47 = some (.struct fs) ∧ Deep.oneCellFields Tryz.prog fs = true ∧ Tryz.prog.cellsOf 47 = fs.size ∧ fs.size = 3 ∧ (∃ f, fs[0]? = some f ∧ f.type = 3) ∧ (∃ f, fs[1]? = some f ∧ f.type = 9) ∧ (∃ f, fs[2]? = some f ∧ f.type = 2) :=
  ⟨_, Tryz.underlying47, by kernel_rfl, by kernel_rfl, rfl, ⟨_, rfl, rfl⟩, ⟨_, rfl, rfl⟩, ⟨_, rfl, rfl⟩⟩
set_option maxRecDepth 100000 in
theorem open_args {W : World} {b0 : Nat} {v : Value} {d : DataW H} {p : List MemPlace} (hv : Value.okWide Tryz.prog W .any b0 22 v) (h : DataW.Trod enc Tryz.prog W 0 (fun _ => true) true 22 v d p) :
    ∃ l, ArgsAt W v l ∧ TextOk l ∧ NumOk l := by
  obtain ⟨fuel, hf⟩ := h
  obtain ⟨fs, e1, hone, hC, hsz, ⟨f0, g0, t0⟩, ⟨f1, g1, t1⟩, ⟨f2, g2, t2⟩⟩ := argFields
  obtain ⟨sa, sl, sc, rfl⟩ := okWide_slice Tryz.underlying22 hv
  rcases open_slice_fields Tryz.underlying22 e1 hone hC hf with ⟨hcs, _⟩ | ⟨a, len, cap, m, D, Pl, hcs, _, hl, hm, hmm, _, hi⟩
  · simp [Value.cells] at hcs
    obtain ⟨rfl, rfl, rfl⟩ := hcs
    exact ⟨[], ⟨none, ⟨0, 0, none⟩, 0, rfl, Nat.le_refl _, by decide, .inl rfl, (fun j hj => by cases hj)⟩, (fun a ha => by cases ha), (fun a ha => by cases ha)⟩
  · simp [Value.cells] at hcs
    obtain ⟨rfl, rfl, rfl⟩ := hcs
    rw [if_pos rfl] at hmm
    have key : ∀ i, i < sl → ∃ x : AArg, (W.cell? (a.add (3 * i)) = some (.int .i64 x.kind) ∧ W.cell? (a.add (3 * i + 1)) = some (.string x.text) ∧ W.cell? (a.add (3 * i + 2)) = some (.int .i64 x.n)) ∧ x.text.size ≤ 9223372036854775807 ∧ -9223372036854775808 ≤ x.n ∧ x.n ≤ 9223372036854775807 := by
      intro i hil
      obtain ⟨ys, n, _, _, _, hf⟩ := hi i (by omega)
      obtain ⟨v0, y0, c0, _, h0⟩ := hf 0 f0 g0
      obtain ⟨v1, y1, c1, _, h1⟩ := hf 1 f1 g1
      obtain ⟨v2, y2, c2, _, h2⟩ := hf 2 f2 g2
      rw [t0] at h0
      rw [t1] at h1
      rw [t2] at h2
      obtain ⟨k, ek, _, _⟩ := DataW.trod_int Tryz.underlying3 h0
      obtain ⟨s, es, _, hs⟩ := DataW.trod_string Tryz.underlying9 h1
      obtain ⟨z, ez, _, hz⟩ := DataW.trod_int Tryz.underlying2 h2
      simp only [List.cons.injEq, and_true] at ek es ez
      subst ek; subst es; subst ez
      rw [hsz, Nat.mul_comm] at c0 c1 c2
      have hb : -9223372036854775808 ≤ z ∧ z ≤ 9223372036854775807 := by have := bounds_i64 hz; omega
      unfold maxLen at hs
      exact ⟨⟨k, s, z⟩, ⟨c0, c1, c2⟩, hs, hb.1, hb.2⟩
    obtain ⟨l, hll, hq⟩ := exists_list sl key
    subst hll
    unfold maxLen at hm
    refine ⟨l, ⟨some a, a, sc, rfl, hl, hm, .inr rfl, fun j hj => (hq j hj).1⟩, fun x hx => ?_, fun x hx => ?_⟩
    · obtain ⟨j, hj, rfl⟩ := List.getElem_of_mem hx
      exact (hq j hj).2.1
    · obtain ⟨j, hj, rfl⟩ := List.getElem_of_mem hx
      exact (hq j hj).2.2
end
end Go.Proofs.YtlmcglaajmjanaaGreatDoor
