/- The builder's lines of a paragraph. -/
import Derived.Test.YtnocllocnoodnaaGreatDoorBeside
namespace Go.Proofs.YtnocllocnoodnaaGreatDoor
open Go.RowKit
set_option linter.unusedSimpArgs false
/-- the call makes some lines: their texts, and a paragraph -/
def LinesMade (b n : Nat) (w : World) (e : Ending) (w' : World) : Prop := ∃ (nt : Nat) (tv ks : Value) (css : List (Array Value × Nat)), e = .returned (.tuple #[tv, .agg (spcG 6 ⟨#[]⟩ ⟨#[]⟩ 0 ⟨#[]⟩ false ks 0 0)]) ∧ Texts w.heap.size nt 100 tv w' ∧ 0 < nt ∧ nt ≤ 3 ∧ Nodes InlP inlC w.heap.size css ks w' ∧ 0 < css.length ∧ css.length ≤ 20 ∧ total css ≤ 180 ∧ Bld b n w' ∧ w.grownBy w' (some b)
/-- the two variables of 'lines' -/
def ParaB (h : Nat) (ks : Value) (w : World) : Prop := w.heap[h]? = some (.cells (spcG 0 ⟨#[]⟩ ⟨#[]⟩ 0 ⟨#[]⟩ false (.slice none 0 0) 0 0) 27) ∧ w.heap[h + 1]? = some (.cells (spcG 6 ⟨#[]⟩ ⟨#[]⟩ 0 ⟨#[]⟩ false ks 0 0) 27) ∧ h + 2 ≤ w.heap.size
theorem ParaB.keep {h : Nat} {ks : Value} {w w' : World} (p : ParaB h ks w) (hk : ∀ j, h ≤ j → j < h + 2 → w'.heap[j]? = w.heap[j]?) (hz : w.heap.size ≤ w'.heap.size) : ParaB h ks w' := ⟨(hk h (by omega) (by omega)).trans p.1, (hk (h + 1) (by omega) (by omega)).trans p.2.1, Nat.le_trans p.2.2 hz⟩
theorem ParaB.set {h : Nat} {ks : Value} {w : World} (p : ParaB h ks w) (ks' : Value) : ParaB h ks' (w.setCell ⟨h + 1, 7, none⟩ ks') :=
  ⟨(heap_setCell_other w _ _ _ (by show h ≠ h + 1; omega)).trans p.1, heap_setCell_same w _ 7 _ _ _ p.2.1, by simpa using p.2.2⟩
/-- at a stage of 'lines': the paragraph's nodes, the texts, the builder -/
structure LinesAt (b n nt : Nat) (w : World) (tv ks : Value) (css : List (Array Value × Nat)) (wx : World) : Prop where
  para : ParaB w.heap.size ks wx
  nodes : Nodes InlP inlC (w.heap.size + 2) css ks wx
  texts : Texts (w.heap.size + 2) nt 100 tv wx
  bld : Bld b n wx
  grown : w.grownBy wx (some b)
theorem LinesAt.call {b n nt : Nat} {w wx w2 : World} {tv ks : Value} {css : List (Array Value × Nat)} (h : LinesAt b n nt w tv ks css wx) (hbl : b < w.heap.size) (hb : Bld b n w2) (hg : wx.grownBy w2 (some b)) : LinesAt b n nt w tv ks css w2 :=
  ⟨h.para.keep (fun j h1 h2 => hg.block j (by have := h.para.2.2; omega) (by simp; omega)) hg.size, nodes_grown inl_say h.nodes h.bld hg, texts_grown h.texts h.bld hg, hb, grown_trans h.grown hg⟩
theorem LinesAt.alloc {b n nt : Nat} {w wx : World} {tv ks : Value} {css : List (Array Value × Nat)} (h : LinesAt b n nt w tv ks css wx) (o : Obj) : LinesAt b n nt w tv ks css (wx.alloc o) :=
  ⟨h.para.keep (fun j h1 h2 => heap_alloc_old wx o (by have := h.para.2.2; omega)) (by simp), nodes_alloc inl_say h.nodes o, texts_alloc h.texts o, h.bld.alloc o, grown_alloc h.grown o⟩
/-- behind 'put', and the store of its answer -/
theorem LinesAt.put {b n nt : Nat} {w wx w3 : World} {tv ks ks' : Value} {css css' : List (Array Value × Nat)} (h : LinesAt b n nt w tv ks css wx) (hbl : b < w.heap.size) (hm : Nodes InlP inlC (w.heap.size + 2) css' ks' w3) (hg : wx.grownBy w3 ks.ownBlock) : LinesAt b n nt w tv ks' css' (w3.setCell ⟨w.heap.size + 1, 7, none⟩ ks') := by
  have hp := h.para.keep (w' := w3) (fun j h1 h2 => hg.block j (by have := h.para.2.2; omega) (by intro hh; have := (h.nodes.1.lt j hh.symm).1; omega)) hg.size
  exact ⟨hp.set _, nodes_cell inl_say hm (by show w.heap.size + 1 < _; omega) _, texts_cell (texts_nodes h.texts h.nodes hg) (by show w.heap.size + 1 < _; omega) _, bld_cell (bld_nodes h.bld h.nodes hg (by omega)) (by show b < w.heap.size + 1; omega) _, grown_cell (grown_own h.grown hg (fun g hg => by have := (h.nodes.1.lt g hg).1; omega)) (by show w.heap.size ≤ w.heap.size + 1; omega) _⟩
/-- behind an append to the texts -/
theorem LinesAt.more {b n nt nt' : Nat} {w wx w3 : World} {tv tv' ks : Value} {css : List (Array Value × Nat)} (h : LinesAt b n nt w tv ks css wx) (hbl : b < w.heap.size) (ht : Texts (w.heap.size + 2) nt' 100 tv' w3) (hg : wx.grownBy w3 tv.ownBlock) : LinesAt b n nt' w tv' ks css w3 :=
  ⟨h.para.keep (fun j h1 h2 => hg.block j (by have := h.para.2.2; omega) (by intro hh; have := (h.texts.own hh.symm).2.1; omega)) hg.size, nodes_texts inl_say h.nodes h.texts hg, ht, bld_texts h.bld h.texts hg (by omega), grown_own h.grown hg (fun g hg => by have := (h.texts.own hg).2.1; omega)⟩
theorem LinesAt.after {b n nt : Nat} {w wx w3 : World} {tv ks : Value} {css : List (Array Value × Nat)} (h : LinesAt b n nt w tv ks css wx) (hg : wx.grownBy w3 ks.ownBlock) : ParaB w.heap.size ks w3 :=
  h.para.keep (fun j h1 h2 => hg.block j (by have := h.para.2.2; omega) (by intro hh; have := (h.nodes.1.lt j hh.symm).1; omega)) hg.size
/-- what lies between the two marks is as it was; the row of the nodes lies outside -/
structure InnerAt (l0 l1 : Nat) (w2 : World) (ks : Value) (wx : World) : Prop where
  same : ∀ j, l0 ≤ j → j < l1 → wx.heap[j]? = w2.heap[j]?
  size : l1 ≤ wx.heap.size
  out : ∀ g, ks.ownBlock = some g → g < l0 ∨ l1 ≤ g
theorem InnerAt.alloc {l0 l1 : Nat} {w2 wx : World} {ks : Value} (h : InnerAt l0 l1 w2 ks wx) (o : Obj) : InnerAt l0 l1 w2 ks (wx.alloc o) :=
  ⟨fun j h1 h2 => (heap_alloc_old wx o (by have := h.size; omega)).trans (h.same j h1 h2), Nat.le_trans h.size (by simp), h.out⟩
theorem InnerAt.put {l0 l1 p : Nat} {w2 wx w3 : World} {ks ks' : Value} (h : InnerAt l0 l1 w2 ks wx) (hg : wx.grownBy w3 ks.ownBlock) (ho : ∀ g, ks'.ownBlock = some g → ks.ownBlock = some g ∨ wx.heap.size ≤ g) (hp : p < l0) : InnerAt l0 l1 w2 ks' (w3.setCell ⟨p, 7, none⟩ ks') := by
  have hs := h.size
  refine ⟨?_, by have := hg.size; simp; omega, ?_⟩
  · intro j h1 h2
    rw [heap_setCell_other w3 _ j _ (by show j ≠ p; omega), hg.block j (by omega) (by intro hh; rcases h.out j hh.symm with h | h <;> omega)]
    exact h.same j h1 h2
  · intro g hg'
    rcases ho g hg' with h' | h'
    · exact h.out g h'
    · right; omega
set_option maxHeartbeats 8000000 in
set_option maxRecDepth 100000 in
theorem builder_lines (b n : Nat) (w : World) (h : Bld b n w) : Calls Tryz.prog 28 #[.pointer (some ⟨b, 0, none⟩)] w (LinesMade b n w) := by
  obtain ⟨i0, hi, hz0, hz1, hz2⟩ := info_parts str_info
  have HN := Lib.hid (fun m w h hm hm2 => builder_next b n m w h hm hm2)
  have HLN := Lib.hid (fun w h => builder_line b n w h)
  have HI10 := Lib.hid spc_info
  have HPO := Lib.hid (fun B css o w hm hB hl ht => lput_soft B css o w hm hB hl ht)
  have HPP := Lib.hid (fun B css o x lo hi w hm hx hlo hhi ho hB hn ht => laws_put B css o x lo hi w hm hx hlo hhi ho hB hn ht)
  have hbl := h.lt
  have H0 : LinesAt b n 0 w (.slice none 0 0) (.slice none 0 0) [] ((w.alloc (.cells (spcG 0 ⟨#[]⟩ ⟨#[]⟩ 0 ⟨#[]⟩ false (.slice none 0 0) 0 0) 27)).alloc (.cells (spcG 6 ⟨#[]⟩ ⟨#[]⟩ 0 ⟨#[]⟩ false (.slice none 0 0) 0 0) 27)) :=
    ⟨⟨(two_allocs w _ _).1, (two_allocs w _ _).2, by simp⟩, Nodes.nil _ _ _ _, Texts.nil _ _ _, (h.alloc _).alloc _, grown_alloc (grown_alloc (World.grownBy.refl w (some b)) _) _⟩
  have HL0 := Lib.hid H0
  clear h H0
  unfold NextMade at HN
  unfold LineMade at HLN
  unfold PutIn at HPO HPP
  unfold LinesMade
  unfold spcG at *
  go_enter Tryz.func28, Tryz.ntmps28
  go_wp2_with (first
    | (refine wpList_store_new rfl 27 10 _ _ rfl HI10.out _ #[.int .i64 6, .string ⟨#[]⟩, .string ⟨#[]⟩, .int .i64 0, .string ⟨#[]⟩, .bool false, .slice none 0 0, .slice none 0 0, .int .i64 0, .int .i64 0] rfl rfl rfl rfl (by simp [Value.oneCell']) ?_)
    | (go_at_call 12; refine (HN.out 3 _ HL0.out.bld (by decide) (by decide)).mono ?_; rintro e w2 ⟨m, hm3, rfl, hb2, hg2⟩; have HL2 := Lib.hid (HL0.out.call hbl hb2 hg2); clear hb2 hg2))
  go_loopg [5, 15] (1 + m) (fun gg tv i wx => ∃ k ks css, k + gg = 1 + m ∧ i = .int .i64 k ∧ Hid (LinesAt b n k w tv ks css wx) ∧ (0 < k → 0 < css.length) ∧ css.length ≤ 6 * k ∧ total css ≤ 60 * k)
  case atStart => exact ⟨0, _, [], by omega, rfl, HL2, by omega, by simp, by simp [total]⟩
  case round =>
    obtain ⟨k, ks, css, hk, rfl, HL, hc0, hc1, htot⟩ := hrel
    clear HL0 HL2
    by_cases hlt : k < 1 + m
    · have hwr := HL.out.para.2.2
      by_cases hk0 : k = 0
      · subst hk0
        go_wp2_with (first | (go_at_call 24; refine (HLN.out _ HL.out.bld).mono ?_; rintro e w2 ⟨s, cl, ol, rfl, hs, hml, hl0, hl5, hlt60, hb2, hg2⟩; have HL2 := Lib.hid (HL.out.call hbl hb2 hg2); have HK := Lib.hid (fun g hg => (HL.out.nodes.1.lt g hg)); have hs2 := hg2.size; obtain ⟨gl, capl, rfl, hgl1, hgl2, hrowl⟩ := owns_rowQ hml.1 hl0; have HML := Lib.hid hml; have HRL := Lib.hid hrowl; have d7 : w2.cell? ⟨w.heap.size + 1, 7, none⟩ = some ks := Lib.cell_of_heap HL2.out.para.2.1 7; clear hb2 hg2 hml hrowl))
        go_loopg [32] cl.length (fun gg i wx => ∃ q ks' css', q + gg = cl.length ∧ i = .int .i64 q ∧ Hid (LinesAt b n 0 w u5 ks' css' wx) ∧ Hid (InnerAt wr.heap.size w2.heap.size w2 ks' wx) ∧ css'.length ≤ css.length + 1 + q ∧ total css' ≤ total css + total (cl.take q) ∧ (0 < q → 0 < css'.length))
        case atStart => exact ⟨0, ks, css, by omega, rfl, HL2, Lib.hid ⟨fun _ _ _ => rfl, Nat.le_refl _, fun g hg => .inl (HK.out g hg).2⟩, by omega, by have : total (cl.take 0) = 0 := rfl; omega, by omega⟩
        case round =>
          obtain ⟨q, ks', css', hq, rfl, HLq, HIq, hlq, htq, hq0⟩ := hrel
          by_cases hltq : q < cl.length
          · have hgl := HIq.out.size
            obtain ⟨lo, hi', hlo, hhi', hcq, _⟩ := HML.out.2 cl[q] (List.getElem_mem hltq)
            have hten := nodes_ten HML.out cl[q] (List.getElem_mem hltq)
            have hrow := HRL.out.of (HIq.out.same gl hgl1 hgl2)
            have hrng := nodes_range hrow (nodes_ten HML.out) hltq
            have htt := total_take hltq
            have htl := total_take_le cl (q + 1)
            have hz60 := total_mem (List.getElem_mem hltq)
            generalize cl[q] = x at *
            obtain ⟨xc, z⟩ := x
            simp only at hten htt hz60 hrng
            obtain ⟨x0, x1, x2, x3, x4, x5, x6, x7, x8, x9, rfl⟩ := arr10 hten
            obtain ⟨_, _, _, _, _, _, _, _, _, hsh, hks⟩ := hcq.shape
            have hone : (#[x0, x1, x2, x3, x4, x5, x6, x7, x8, x9] : Array Value).all (·.oneCell') = true := by simp only at hsh; rw [hsh]; exact spcG_one _ _ _ _ _ _ hks _ _
            have hx2 := inl_say.keep lo hi' _ w2 (wr.alloc (.cells #[x0, x1, x2, x3, x4, x5, x6, x7, x8, x9] 27)) hcq (fun b h1 h2 _ => (heap_alloc_old wr _ (by omega)).trans (HIq.out.same b (by omega) (by omega))) (by simp; omega)
            have hot : ∀ g, ks'.ownBlock = some g → g < lo ∨ hi' ≤ g := fun g hg => by rcases HIq.out.out g hg with h | h <;> omega
            have HLA := Lib.hid (HLq.out.alloc (.cells #[x0, x1, x2, x3, x4, x5, x6, x7, x8, x9] 27))
            have HIA := Lib.hid (HIq.out.alloc (.cells #[x0, x1, x2, x3, x4, x5, x6, x7, x8, x9] 27))
            have d7 : (wr.alloc (.cells #[x0, x1, x2, x3, x4, x5, x6, x7, x8, x9] 27)).cell? ⟨w.heap.size + 1, 7, none⟩ = some ks' := Lib.cell_of_heap HLA.out.para.2.1 7
            have HRNG := Lib.hid hrng
            have HONE := Lib.hid hone
            have HX2 := Lib.hid hx2
            have HOT := Lib.hid hot
            have hHA := HLA.out.para.2.2
            clear hcq hten hrow hrng hsh hks hone hx2 hot
            go_wp2_with (first
              | (refine wpList_load_mid rfl 27 _ rfl gl (q * 10) rfl [x0, x1, x2, x3, x4, x5, x6, x7, x8, x9] _ HRNG.out Tryz.underlying27 rfl HI10.out ?_)
              | (refine wpList_load_mid rfl 27 _ rfl wr.heap.size 0 rfl [x0, x1, x2, x3, x4, x5, x6, x7, x8, x9] _ (range_whole (heap_alloc_new wr _)) Tryz.underlying27 rfl HI10.out ?_)
              | (refine wpList_store_new rfl 27 10 _ _ rfl HI10.out _ #[x0, x1, x2, x3, x4, x5, x6, x7, x8, x9] rfl rfl rfl rfl HONE.out ?_)
              | (go_at_call 36; refine (HPP.out (w.heap.size + 2) css' ks' (#[x0, x1, x2, x3, x4, x5, x6, x7, x8, x9], z) lo hi' _ HLA.out.nodes HX2.out (by omega) (by simp; omega) HOT.out HLA.out.para.2.2 (by omega) (by simp only; omega)).mono ?_; rintro e w3 ⟨css3, _, rfl, hm3, hl3, hp3, ht3, hg3, ho3⟩; obtain ⟨g3, c3, rfl, _, _⟩ := hm3.1.form hp3; have HP3 := Lib.hid (HLA.out.after hg3); have f7 : w3.cell? ⟨w.heap.size + 1, 7, none⟩ = some ks' := Lib.cell_of_heap HP3.out.2.1 7; have fz7 : w3.frozen? ⟨w.heap.size + 1, 7, none⟩ = false := Lib.frozen_of_heap HP3.out.2.1 7; have HM3 := Lib.hid hm3; have HG3 := Lib.hid hg3; have HO3 := Lib.hid ho3; clear hm3 hg3 ho3))
            go_roundg (cl.length - (q + 1))
            case measure => omega
            case rel => exact ⟨q + 1, _, css3, by omega, by go_num, Lib.hid (HLA.out.put hbl HM3.out HG3.out), Lib.hid (HIA.out.put HG3.out HO3.out (by omega)), by omega, by first | omega | (simp only at ht3; omega), fun _ => hp3⟩
          · have hqe : q = cl.length := by omega
            subst hqe
            rw [List.take_length] at htq
            obtain ⟨ss, hss1, hss2, hss3⟩ := HLq.out.texts
            have HT := Lib.hid hss3
            have HSS := Lib.hid hss2
            have hH2 := HLq.out.para.2.2
            clear hss3 hss2
            go_wp2_with (first
              | (at_builtin; refine wpList_append_lies _ rfl _ _ 39 rfl (w.heap.size + 2) 9 i0 (.string ⟨#[]⟩) 1 16 Tryz.underlying39 hi hz0 hz1 hz2 rfl (by decide) _ _ _ rfl (HT.out.alloc _) ⟨wr.heap.size, 0, none⟩ 1 1 [.string s] rfl rfl (World.news_of_block (heap_alloc_new wr _)) (fun u hu => by rw [List.mem_singleton.1 hu]; rfl) (by decide) (by unfold maxLen; omega) (by omega) (by simp; omega) (wr.heap.size + 1) (by simp) ?_; intro g cap w4 hown hgrow hat hlt4))
            go_roundg (1 + m - (0 + 1))
            case measure => omega
            case rel => exact ⟨0 + 1, ks', css', by omega, by go_num, Lib.hid ((HLq.out.alloc (.cells #[.string s] 9)).more hbl (texts_add hss1 HSS.out hs hown rfl rfl) hgrow), fun _ => hq0 hl0, by omega, by omega⟩
      · have hk1 : (0 : Int) < (k : Int) := by omega
        go_wp2_with (first
          | (go_at_call 36; refine (HPO.out (w.heap.size + 2) css ks w2 HL2.out.nodes HL2.out.para.2.2 (by omega) (by omega)).mono ?_; rintro e w3 ⟨css3, _, rfl, hm3, hl3, hp3, ht3, hg3, ho3⟩; obtain ⟨g3, c3, rfl, _, _⟩ := hm3.1.form hp3; have HP3 := Lib.hid (HL2.out.after hg3); have f7 : w3.cell? ⟨w.heap.size + 1, 7, none⟩ = some ks := Lib.cell_of_heap HP3.out.2.1 7; have fz7 : w3.frozen? ⟨w.heap.size + 1, 7, none⟩ = false := Lib.frozen_of_heap HP3.out.2.1 7; have HM3 := Lib.hid hm3; have HG3 := Lib.hid hg3; have HO3 := Lib.hid ho3; clear hm3 hg3 ho3)
          | (go_at_call 24; refine (HLN.out _ HL.out.bld).mono ?_; rintro e w2 ⟨s, cl, ol, rfl, hs, hml, hl0, hl5, hlt60, hb2, hg2⟩; have HL2 := Lib.hid (HL.out.call hbl hb2 hg2); have HK := Lib.hid (fun g hg => (HL.out.nodes.1.lt g hg)); have hs2 := hg2.size; obtain ⟨gl, capl, rfl, hgl1, hgl2, hrowl⟩ := owns_rowQ hml.1 hl0; have HML := Lib.hid hml; have HRL := Lib.hid hrowl; have d7 : w2.cell? ⟨w.heap.size + 1, 7, none⟩ = some ks := Lib.cell_of_heap HL2.out.para.2.1 7; clear hb2 hg2 hml hrowl))
        have HLs := Lib.hid (HL2.out.put hbl HM3.out HG3.out)
        have HIs : Hid (InnerAt wr.heap.size w2.heap.size w2 (.slice (some ⟨g3, 0, none⟩) css3.length c3) (w3.setCell ⟨w.heap.size + 1, 7, none⟩ (.slice (some ⟨g3, 0, none⟩) css3.length c3))) := Lib.hid (InnerAt.put ⟨fun _ _ _ => rfl, Nat.le_refl _, fun g hg => .inl (HK.out g hg).2⟩ HG3.out HO3.out (by omega))
        clear HP3 HM3 HG3 HO3 f7 fz7
        go_loopg [32] cl.length (fun gg i wx => ∃ q ks' css', q + gg = cl.length ∧ i = .int .i64 q ∧ Hid (LinesAt b n k w u5 ks' css' wx) ∧ Hid (InnerAt wr.heap.size w2.heap.size w2 ks' wx) ∧ css'.length ≤ css.length + 1 + q ∧ total css' ≤ total css + total (cl.take q) ∧ (0 < q → 0 < css'.length))
        case atStart => exact ⟨0, _, css3, by omega, rfl, HLs, HIs, by omega, by have : total (cl.take 0) = 0 := rfl; omega, by omega⟩
        case round =>
          obtain ⟨q, ks', css', hq, rfl, HLq, HIq, hlq, htq, hq0⟩ := hrel
          by_cases hltq : q < cl.length
          · have hgl := HIq.out.size
            obtain ⟨lo, hi', hlo, hhi', hcq, _⟩ := HML.out.2 cl[q] (List.getElem_mem hltq)
            have hten := nodes_ten HML.out cl[q] (List.getElem_mem hltq)
            have hrow := HRL.out.of (HIq.out.same gl hgl1 hgl2)
            have hrng := nodes_range hrow (nodes_ten HML.out) hltq
            have htt := total_take hltq
            have htl := total_take_le cl (q + 1)
            have hz60 := total_mem (List.getElem_mem hltq)
            generalize cl[q] = x at *
            obtain ⟨xc, z⟩ := x
            simp only at hten htt hz60 hrng
            obtain ⟨x0, x1, x2, x3, x4, x5, x6, x7, x8, x9, rfl⟩ := arr10 hten
            obtain ⟨_, _, _, _, _, _, _, _, _, hsh, hks⟩ := hcq.shape
            have hone : (#[x0, x1, x2, x3, x4, x5, x6, x7, x8, x9] : Array Value).all (·.oneCell') = true := by simp only at hsh; rw [hsh]; exact spcG_one _ _ _ _ _ _ hks _ _
            have hx2 := inl_say.keep lo hi' _ w2 (wr.alloc (.cells #[x0, x1, x2, x3, x4, x5, x6, x7, x8, x9] 27)) hcq (fun b h1 h2 _ => (heap_alloc_old wr _ (by omega)).trans (HIq.out.same b (by omega) (by omega))) (by simp; omega)
            have hot : ∀ g, ks'.ownBlock = some g → g < lo ∨ hi' ≤ g := fun g hg => by rcases HIq.out.out g hg with h | h <;> omega
            have HLA := Lib.hid (HLq.out.alloc (.cells #[x0, x1, x2, x3, x4, x5, x6, x7, x8, x9] 27))
            have HIA := Lib.hid (HIq.out.alloc (.cells #[x0, x1, x2, x3, x4, x5, x6, x7, x8, x9] 27))
            have d7 : (wr.alloc (.cells #[x0, x1, x2, x3, x4, x5, x6, x7, x8, x9] 27)).cell? ⟨w.heap.size + 1, 7, none⟩ = some ks' := Lib.cell_of_heap HLA.out.para.2.1 7
            have HRNG := Lib.hid hrng
            have HONE := Lib.hid hone
            have HX2 := Lib.hid hx2
            have HOT := Lib.hid hot
            have hHA := HLA.out.para.2.2
            clear hcq hten hrow hrng hsh hks hone hx2 hot
            go_wp2_with (first
              | (refine wpList_load_mid rfl 27 _ rfl gl (q * 10) rfl [x0, x1, x2, x3, x4, x5, x6, x7, x8, x9] _ HRNG.out Tryz.underlying27 rfl HI10.out ?_)
              | (refine wpList_load_mid rfl 27 _ rfl wr.heap.size 0 rfl [x0, x1, x2, x3, x4, x5, x6, x7, x8, x9] _ (range_whole (heap_alloc_new wr _)) Tryz.underlying27 rfl HI10.out ?_)
              | (refine wpList_store_new rfl 27 10 _ _ rfl HI10.out _ #[x0, x1, x2, x3, x4, x5, x6, x7, x8, x9] rfl rfl rfl rfl HONE.out ?_)
              | (go_at_call 36; refine (HPP.out (w.heap.size + 2) css' ks' (#[x0, x1, x2, x3, x4, x5, x6, x7, x8, x9], z) lo hi' _ HLA.out.nodes HX2.out (by omega) (by simp; omega) HOT.out HLA.out.para.2.2 (by omega) (by simp only; omega)).mono ?_; rintro e w3 ⟨css3, _, rfl, hm3, hl3, hp3, ht3, hg3, ho3⟩; obtain ⟨g3, c3, rfl, _, _⟩ := hm3.1.form hp3; have HP3 := Lib.hid (HLA.out.after hg3); have f7 : w3.cell? ⟨w.heap.size + 1, 7, none⟩ = some ks' := Lib.cell_of_heap HP3.out.2.1 7; have fz7 : w3.frozen? ⟨w.heap.size + 1, 7, none⟩ = false := Lib.frozen_of_heap HP3.out.2.1 7; have HM3 := Lib.hid hm3; have HG3 := Lib.hid hg3; have HO3 := Lib.hid ho3; clear hm3 hg3 ho3))
            go_roundg (cl.length - (q + 1))
            case measure => omega
            case rel => exact ⟨q + 1, _, css3, by omega, by go_num, Lib.hid (HLA.out.put hbl HM3.out HG3.out), Lib.hid (HIA.out.put HG3.out HO3.out (by omega)), by omega, by first | omega | (simp only at ht3; omega), fun _ => hp3⟩
          · have hqe : q = cl.length := by omega
            subst hqe
            rw [List.take_length] at htq
            obtain ⟨ss, hss1, hss2, hss3⟩ := HLq.out.texts
            have HT := Lib.hid hss3
            have HSS := Lib.hid hss2
            have hH2 := HLq.out.para.2.2
            clear hss3 hss2
            go_wp2_with (first
              | (at_builtin; refine wpList_append_lies _ rfl _ _ 39 rfl (w.heap.size + 2) 9 i0 (.string ⟨#[]⟩) 1 16 Tryz.underlying39 hi hz0 hz1 hz2 rfl (by decide) _ _ _ rfl (HT.out.alloc _) ⟨wr.heap.size, 0, none⟩ 1 1 [.string s] rfl rfl (World.news_of_block (heap_alloc_new wr _)) (fun u hu => by rw [List.mem_singleton.1 hu]; rfl) (by decide) (by unfold maxLen; omega) (by omega) (by simp; omega) (wr.heap.size + 1) (by simp) ?_; intro g cap w4 hown hgrow hat hlt4))
            go_roundg (1 + m - (k + 1))
            case measure => omega
            case rel => exact ⟨k + 1, ks', css', by omega, by go_num, Lib.hid ((HLq.out.alloc (.cells #[.string s] 9)).more hbl (texts_add hss1 HSS.out hs hown rfl rfl) hgrow), fun _ => hq0 hl0, by omega, by omega⟩
    · have hkm : k = 1 + m := by omega
      subst hkm
      have hp := HL.out.para
      have hS : wr.drew.rangeAt (w.heap.size + 1) 0 [.int .i64 6, .string ⟨#[]⟩, .string ⟨#[]⟩, .int .i64 0, .string ⟨#[]⟩, .bool false, .slice none 0 0, ks, .int .i64 0, .int .i64 0] := range_whole (w := wr.drew) hp.2.1
      have hone : (#[.int .i64 6, .string ⟨#[]⟩, .string ⟨#[]⟩, .int .i64 0, .string ⟨#[]⟩, .bool false, .slice none 0 0, ks, .int .i64 0, .int .i64 0] : Array Value).all (·.oneCell') = true := by
        rcases HL.out.nodes.1.2 with ⟨rfl, _⟩ | ⟨g, cap, cur, rfl, _⟩ <;> simp [Value.oneCell']
      have HP := Lib.hid hp
      have HONE := Lib.hid hone
      clear hp hone
      go_wp2_with (fail)
      refine wp_region_B (fun wq => wq.rangeAt (w.heap.size + 1) 0 [.int .i64 6, .string ⟨#[]⟩, .string ⟨#[]⟩, .int .i64 0, .string ⟨#[]⟩, .bool false, .slice none 0 0, ks, .int .i64 0, .int .i64 0]) 3 (by kernel_rfl) ?_
      refine wpAnyB_take (i := 0) u5 rfl (by kernel_rfl) (by kernel_rfl) (by kernel_rfl) (by kernel_rfl) rfl (fun _ _ _ h => h) hS (yields_in (by kernel_rfl) (fun w hSw => by go_simp)) ?_
      simp only [Act.put, List.setIfInBounds_toArray, List.set_cons_zero, List.set_cons_succ]
      refine wpAnyB_take (i := 1) (.agg #[.int .i64 6, .string ⟨#[]⟩, .string ⟨#[]⟩, .int .i64 0, .string ⟨#[]⟩, .bool false, .slice none 0 0, ks, .int .i64 0, .int .i64 0]) rfl (by kernel_rfl) (by kernel_rfl) (by kernel_rfl) (by kernel_rfl) rfl (fun _ _ _ h => h) hS (yieldsIf_load_mid (by kernel_rfl) 27 _ rfl (w.heap.size + 1) 0 rfl [.int .i64 6, .string ⟨#[]⟩, .string ⟨#[]⟩, .int .i64 0, .string ⟨#[]⟩, .bool false, .slice none 0 0, ks, .int .i64 0, .int .i64 0] _ (fun w h => h) Tryz.underlying27 rfl HI10.out) ?_
      simp only [Act.put, List.setIfInBounds_toArray, List.set_cons_zero, List.set_cons_succ]
      refine wpAnyB_take (i := 2) u5 rfl (by kernel_rfl) (by kernel_rfl) (by kernel_rfl) (by kernel_rfl) rfl (fun _ _ _ h => h) hS (yields_in (by kernel_rfl) (fun w hSw => by go_simp)) ?_
      simp only [Act.put, List.setIfInBounds_toArray, List.set_cons_zero, List.set_cons_succ]
      refine wpAnyB_one (i := 3) rfl (by kernel_rfl) (by kernel_rfl) (fun K hK => ?_)
      refine wp_store_row 27 10 w.heap.size _ _ rfl HI10.out _ #[.int .i64 6, .string ⟨#[]⟩, .string ⟨#[]⟩, .int .i64 0, .string ⟨#[]⟩, .bool false, .slice none 0 0, ks, .int .i64 0, .int .i64 0] HP.out.1 rfl rfl rfl rfl HONE.out ?_
      go_simp
      refine hK.out _ _ ⟨fun h => absurd rfl h, ?_⟩
      clear hK K hS
      refine wpAnyB_done (by kernel_rfl) ?_ _
      try simp only [Act.put, List.setIfInBounds_toArray, List.set_cons_zero, List.set_cons_succ]
      go_wp2_with (fail)
      have hl := load_struct (P := Tryz.prog) (ty := 27) (n := 10) (by kernel_rfl) (wr.drew.setRow w.heap.size #[.int .i64 6, .string ⟨#[]⟩, .string ⟨#[]⟩, .int .i64 0, .string ⟨#[]⟩, .bool false, .slice none 0 0, ks, .int .i64 0, .int .i64 0]) w.heap.size 27 #[.int .i64 6, .string ⟨#[]⟩, .string ⟨#[]⟩, .int .i64 0, .string ⟨#[]⟩, .bool false, .slice none 0 0, ks, .int .i64 0, .int .i64 0] (0, 0) (setRow_heap _ _ _ _ _ _ HP.out.1) rfl
      exact bodyPost_ret (v := .tuple #[u5, .agg #[.int .i64 6, .string ⟨#[]⟩, .string ⟨#[]⟩, .int .i64 0, .string ⟨#[]⟩, .bool false, .slice none 0 0, ks, .int .i64 0, .int .i64 0]]) (by simp [results, asAddr, hl]) rfl ⟨1 + m, u5, ks, css, rfl, ((HL.out.texts.keep (w' := wr.drew) (SameAll.refl _ _ _)).keep (SameAll.setRow (by omega))).low (by omega), by omega, by omega, ((HL.out.nodes.keep inl_say (w' := wr.drew) (SameAll.refl _ _ _) (Nat.le_refl _)).keep inl_say (SameAll.setRow (by omega)) (by simp)).low (by omega), hc0 (by omega), by omega, by omega, bld_row HL.out.bld.drew hbl _, grown_row (grown_drew HL.out.grown) (Nat.le_refl _) _⟩
end Go.Proofs.YtnocllocnoodnaaGreatDoor
