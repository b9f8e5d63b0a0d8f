/- What the condition on the three listed variables gives the walks: the second one's cells. -/
import Derived.Test.YtpdpkggojlpklaaDoorEntity
import Derived.ProofKit
import Derived.LaidMore
import Derived.OpenShut
import Derived.Stop.Joined
import Derived.Stop.LaidErr
namespace Go.Proofs.YtpdpkggojlpklaaDoor
open Go.ChangeShapes Go.WideShapes Go.ChangeAt Go.WideMaps Go.WideElems Go.RowKit
theorem gTable : Tryd.prog.globalNamed "pub-paratext/pub/rscmarkdown.htmlEntities" = some 4 := by kernel_rfl
theorem tTable : (Tryd.prog.globals[4]?).map (·.type) = some 102 := by kernel_rfl
/-- the listed variables -/
abbrev laidTable : List (String × DataW Unit) := [("unicode/utf8.acceptRanges", Rows.laid_unicode_utf8_acceptRanges), ("pub-paratext/pub/rscmarkdown.htmlEntities", Rows.laid_pub_paratext_pub_rscmarkdown_htmlEntities), ("unicode/utf8.first", Rows.laid_unicode_utf8_first)]
theorem laid_is {H : Type} : (Rows.laid_pub_paratext_pub_rscmarkdown_htmlEntities : DataW H) = .agg (entTab.map fun e => .agg [.lit (.string e.1), .lit (.string e.2)]) := rfl
theorem cut_one {α : Type} {l : List α} {a b : Nat} {v : α} (h : (((l.drop a).take 2).drop b).take 1 = [v]) : l[a + b]? = some v := by
  have h0 : ((((l.drop a).take 2).drop b).take 1)[0]? = some v := by rw [h]; rfl
  rw [List.getElem?_take_of_lt (by omega), List.getElem?_drop] at h0
  by_cases hb : b + 0 < 2
  · rw [List.getElem?_take_of_lt hb, List.getElem?_drop] at h0
    exact h0
  · rw [List.getElem?_eq_none (by rw [List.length_take]; omega)] at h0
    cases h0
theorem str_of {s : ByteArray} {l : List UInt8} (h : s.data.toList = l) : s = ⟨l.toArray⟩ := by
  subst h; rfl
theorem of_laid {W : World} (h : laidMetH Tryd.prog laidTable W) : TableAt W ∧ 4 < W.heap.size := by
  rw [MakeChecks.laidMetH_plain _ _ _ (by kernel_rfl)] at h
  replace h := laidMet.tail h
  obtain ⟨ps, ⟨g0, t0, cs0, f0, p0, q0, hg0, ht0, hv0, hd0, _, _⟩, _, _⟩ := h
  obtain rfl := Option.some.inj (gTable.symm.trans hg0)
  obtain rfl := Option.some.inj (tTable.symm.trans ht0)
  have c53 : Tryd.prog.cellsOf 101 = 2 := by kernel_rfl
  have c9 : Tryd.prog.cellsOf 9 = 1 := by kernel_rfl
  obtain ⟨xs, m1, rfl, hx, _, hn, hel⟩ := DataW.trod_array Tryd.underlying102 hd0
  rw [c53] at hel
  simp only [Prod.mk.injEq, laid_is, DataW.agg.injEq] at hx
  have hx1 := hx.1
  have hmain : TableAt W := by
    intro i hi
    have hxi : i < xs.length := by rw [hn]; exact hi
    have hi1 : (xs[i]'hxi).1 = .agg [.lit (.string (entTab[i]'hi).1), .lit (.string (entTab[i]'hi).2)] := by
      have h1 : (xs.map (·.1))[i]? = some (xs[i]'hxi).1 := by rw [List.getElem?_map, List.getElem?_eq_getElem hxi]; rfl
      rw [← hx1, List.getElem?_map, List.getElem?_eq_getElem (show i < entTab.length from hi)] at h1
      exact (Option.some.inj h1).symm
    have e1 := (hel i hi).trans (List.getElem?_eq_getElem hxi)
    obtain ⟨ys, m2, _, hy, _, hn2, hel2⟩ := DataW.trod_array Tryd.underlying101 e1
    rw [c9] at hel2
    rw [hy] at hi1
    simp only [DataW.agg.injEq] at hi1
    match ys, hn2, hi1, hel2 with
    | [y0, y1], _, hi1, hel2 =>
      simp only [List.map_cons, List.map_nil, List.cons.injEq, and_true] at hi1
      obtain ⟨s0, k1, k2, _⟩ := DataW.trod_string Tryd.underlying9 (hel2 0 (by decide))
      obtain ⟨s1, j1, j2, _⟩ := DataW.trod_string Tryd.underlying9 (hel2 1 (by decide))
      rw [k2, j2] at hi1
      simp only [DataW.lit.injEq, Lit.string.injEq] at hi1
      have r0 := cut_one k1
      have r1 := cut_one j1
      have v0 := World.var?_cell hg0 hv0 (i * 2)
      have v1 := World.var?_cell hg0 hv0 (i * 2 + 1)
      rw [← Array.getElem?_toList] at v0 v1
      refine ⟨v0.trans ?_, v1.trans ?_⟩
      · rw [← str_of hi1.1]; simpa using r0
      · rw [← str_of hi1.2]; simpa using r1
  exact ⟨hmain, block_lt_of_cell (hmain 0 (by decide)).1⟩
end Go.Proofs.YtpdpkggojlpklaaDoor
