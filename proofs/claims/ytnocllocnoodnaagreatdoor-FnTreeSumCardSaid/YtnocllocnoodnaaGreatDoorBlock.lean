/- The builder's block. -/
import Derived.Test.YtnocllocnoodnaaGreatDoorBlocks
namespace Go.Proofs.YtnocllocnoodnaaGreatDoor
open Go.RowKit
set_option linter.unusedSimpArgs false
theorem Bld.cells {b n : Nat} {w : World} (h : Bld b n w) : ∃ sz dp : Int, w.cell? ⟨b, 2, none⟩ = some (.int .i64 sz) ∧ w.cell? ⟨b, 3, none⟩ = some (.bool false) ∧ w.cell? ⟨b, 4, none⟩ = some (.int .i64 dp) ∧ (∀ j, w.frozen? ⟨b, j, none⟩ = false) ∧ (∀ x : Int, Bld b n (w.setCell ⟨b, 2, none⟩ (.int .i64 x))) ∧ ∀ x : Int, Bld b n (w.setCell ⟨b, 4, none⟩ (.int .i64 x)) := by
  obtain ⟨v, t, sz, dp, hb, ht, ao, c, rfl, hn, hbs⟩ := h
  have key : ∀ (i : Nat) (x : Value), BytesIn b n (.slice ao n c) (w.setCell ⟨b, i, none⟩ x) := by
    intro i x
    refine ⟨ao, c, rfl, hn, fun k hk => ?_⟩
    obtain ⟨ad, y, h1, h2, h3, h4⟩ := hbs k hk
    exact ⟨ad, y, h1, h2, h3, (World.cell?_of_block (a := ad.add k) (heap_setCell_other w _ _ _ (by rw [add_block]; exact Nat.ne_of_lt h3))).trans h4⟩
  refine ⟨sz, dp, Lib.cell_of_heap hb 2, Lib.cell_of_heap hb 3, Lib.cell_of_heap hb 4, Lib.frozen_of_heap hb, fun x => ?_, fun x => ?_⟩
  · exact ⟨_, t, x, dp, heap_setCell_same w b 2 _ _ _ hb, ht, key 2 _⟩
  · exact ⟨_, t, sz, x, heap_setCell_same w b 4 _ _ _ hb, ht, key 4 _⟩
theorem grown_b {b : Nat} {w w' : World} (h : w.grownBy w' (some b)) (i : Nat) (v : Value) : w.grownBy (w'.setCell ⟨b, i, none⟩ v) (some b) :=
  ⟨h.os, h.tape, h.output, Nat.le_trans h.size (by simp), fun j hj hr => (heap_setCell_other w' ⟨b, i, none⟩ j v (fun e => hr (congrArg some e))).trans (h.block j hj hr)⟩
/-- the result's variable -/
def RetB (h : Nat) (w : World) : Prop := w.heap[h]? = some (.cells (spcG 0 ⟨#[]⟩ ⟨#[]⟩ 0 ⟨#[]⟩ false (.slice none 0 0) 0 0) 27)
theorem RetB.grown {b h : Nat} {w w' : World} (p : RetB h w) (hg : w.grownBy w' (some b)) (hb : b < h) : RetB h w' := (hg.block h (Array.getElem?_eq_some_iff.1 p).1 (by simp; omega)).trans p
theorem RetB.alloc {h : Nat} {w : World} (p : RetB h w) (o : Obj) : RetB h (w.alloc o) := (heap_alloc_old w o (Array.getElem?_eq_some_iff.1 p).1).trans p
theorem RetB.row {h : Nat} {w : World} (p : RetB h w) : w.heap[h]? = some (.cells #[.int .i64 0, .string ⟨#[]⟩, .string ⟨#[]⟩, .int .i64 0, .string ⟨#[]⟩, .bool false, .slice none 0 0, .slice none 0 0, .int .i64 0, .int .i64 0] 27) := p
theorem block_done {b n nt N L M : Nat} {w W : World} {tv : Value} {cs : Array Value} (hbl : b < w.heap.size) (ht : Texts (w.heap.size + 1) nt L tv W) (h0 : 0 < nt) (hN : nt ≤ N) (hq : BlkP M (w.heap.size + 1) W.heap.size cs W) (hb : Bld b n W) (hg : w.grownBy W (some b)) : BlockGot b n N L M w (.returned (.tuple #[tv, .agg cs])) (W.setRow w.heap.size cs) :=
  ⟨nt, tv, cs, rfl, (ht.keep (SameAll.setRow (Nat.lt_succ_self _))).low (Nat.le_succ _), h0, hN, (blk_say M).wide _ _ _ _ _ _ ((blk_say M).keep _ _ _ _ (W.setRow w.heap.size cs) hq (fun k h1 _ _ => setRow_other W _ k _ (by omega)) (by simp)) (Nat.le_succ _) (by simp), bld_row hb hbl _, grown_row hg (Nat.le_refl _) _⟩
theorem times_i (j : Nat) (hj : j < 6) (w : World) : Calls Tryz.prog 25 #[.string ⟨#[35]⟩, .int .i64 (1 + (j : Int))] w fun e w' => ∃ r : ByteArray, r.size ≤ 6 ∧ e = .returned (.string r) ∧ w = w' := by
  have h := laws_times ⟨#[35]⟩ (1 + j) w (by decide) (by omega)
  have e1 : ((1 + j : Nat) : Int) = 1 + (j : Int) := by omega
  rw [e1] at h
  refine h.mono ?_
  rintro e w' ⟨r, hr, h1, h2⟩
  have hz : (⟨#[35]⟩ : ByteArray).size = 1 := rfl
  rw [hz] at hr
  exact ⟨r, by omega, h1, h2⟩
theorem times_3 (s : ByteArray) (hs : s.size ≤ 1) (w : World) : Calls Tryz.prog 25 #[.string s, .int .i64 3] w fun e w' => ∃ r : ByteArray, r.size ≤ 3 ∧ e = .returned (.string r) ∧ w = w' := by
  refine (laws_times s 3 w (by omega) (by decide)).mono ?_
  rintro e w' ⟨r, hr, h1, h2⟩
  exact ⟨r, by omega, h1, h2⟩
theorem own_one {B : Nat} {w : World} (s : ByteArray) (hB : B ≤ w.heap.size) : (w.alloc (.cells #[.string s] 9)).ownsRow B 9 1 (.slice (some ⟨w.heap.size, 0, none⟩) 1 1) 1 [.string s] := ⟨rfl, .inr ⟨w.heap.size, 1, #[.string s], rfl, hB, heap_alloc_new w _, Nat.le_refl _, by unfold maxLen; omega, rfl, rfl⟩⟩
theorem RetB.own {h : Nat} {w w' : World} {r : Option Nat} (p : RetB h w) (hg : w.grownBy w' r) (hr : ∀ g, r = some g → h < g) : RetB h w' := (hg.block h (Array.getElem?_eq_some_iff.1 p).1 (fun hh => Nat.lt_irrefl _ (hr h hh.symm))).trans p
theorem RetB.cell {h : Nat} {w : World} (p : RetB h w) {q : Addr} (hq : q.block ≠ h) (v : Value) : RetB h (w.setCell q v) := (heap_setCell_other w q h v (Ne.symm hq)).trans p
theorem letters_nil : Letters ⟨#[]⟩ := fun k hk => absurd hk (Nat.not_lt_zero k)
theorem texts_of {B L n' cap g : Nat} {w3 : World} {xs : List ByteArray} (hs : ∀ s ∈ xs, s.size ≤ L) (hown : w3.ownsRow B 9 1 (.slice (some ⟨g, 0, none⟩) n' cap) n' (xs.map Value.string)) : Texts B n' L (.slice (some ⟨g, 0, none⟩) n' cap) w3 := by
  refine ⟨xs, ?_, hs, hown⟩
  have := hown.1
  simpa using this
theorem blk_alloc {M lo hi : Nat} {cs : Array Value} {w : World} (h : BlkP M lo hi cs w) (hh : hi ≤ w.heap.size) (o : Obj) : BlkP M lo hi cs (w.alloc o) := (blk_say M).keep _ _ _ _ _ h ((Same.refl _ _ _ _).alloc hh o) (by simp)
theorem texts_code {B L n' cap g : Nat} {w3 : World} {X : ByteArray} {ls : List ByteArray} (hL : 110 ≤ L) (hX : X.size ≤ 110) (hls : ∀ s ∈ ls, s.size ≤ 20) (hown : w3.ownsRow B 9 1 (.slice (some ⟨g, 0, none⟩) n' cap) n' (([.string X] ++ ls.map Value.string) ++ [.string ⟨#[96, 96, 96]⟩])) : Texts B n' L (.slice (some ⟨g, 0, none⟩) n' cap) w3 := by
  refine texts_of (xs := [X] ++ ls ++ [⟨#[96, 96, 96]⟩]) ?_ (by simpa using hown)
  intro s hs
  rcases List.mem_append.1 hs with h | h
  · rcases List.mem_append.1 h with h | h
    · rw [List.mem_singleton.1 h]; omega
    · have := hls s h; omega
  · rw [List.mem_singleton.1 h]; show 3 ≤ L; omega
/-- the setext heading's variable -/
def ReadsS (T : Nat) (nu : Int) (xs : List Value) (w : World) : Prop := w.cell? ⟨T, 3, none⟩ = some (.int .i64 nu) ∧ w.rangeAt T 0 xs
theorem ReadsS.keep {T : Nat} {nu : Int} {xs : List Value} {w w' : World} (h : ReadsS T nu xs w) (hT : w'.heap[T]? = w.heap[T]?) : ReadsS T nu xs w' := ⟨(World.cell?_of_block hT).trans h.1, fun j v hv => (World.cell?_of_block hT).trans (h.2 j v hv)⟩
--WALK
set_option maxHeartbeats 8000000 in
set_option maxRecDepth 100000 in
theorem builder_block (b n N L M D NB LB MB NL LL ML : Nat) (w : World) (odd : Bool) (h : Bld b n w) (hN8 : 8 ≤ N) (hL110 : 110 ≤ L) (hM3 : 3000 ≤ M) (hDl : D ≤ 100) (hN2 : 3 * (NB + 1) ≤ N) (hN3 : NL ≤ N) (hL2 : LB + 2 ≤ L) (hL3 : LL ≤ L) (hM2 : 3 * MB + 27 ≤ M) (hM4 : ML ≤ M) (hB1 : NB ≤ 5000) (hB2 : LB ≤ 1000) (HBS : ∀ e, D = e + 1 → ∀ w, Bld b n w → Calls Tryz.prog 8 #[.pointer (some ⟨b, 0, none⟩), .int .i64 (e : Nat), .int .i64 3] w (BlocksGot b n NB LB MB 3 w)) (HLS : ∀ e, D = e + 1 → ∀ w, Bld b n w → Calls Tryz.prog 29 #[.pointer (some ⟨b, 0, none⟩), .int .i64 (e : Nat), .bool odd] w (BlockGot b n NL LL ML w)) (HC : ∀ (s ti : ByteArray) (lo hi : Nat) (w : World), 0 < s.size ∧ s.size ≤ 100 → Letters ti → ti.size ≤ 10 → BlkP 3000 lo hi (spcG 7 s ti 0 ⟨#[]⟩ false (.slice none 0 0) 0 0) w) :
    Calls Tryz.prog 13 #[.pointer (some ⟨b, 0, none⟩), .int .i64 D, .bool odd] w (BlockGot b n N L M w) := by
  have HN := Lib.hid (fun m w h hm hm2 => builder_next b n m w h hm hm2)
  have HI10 := Lib.hid spc_info
  have HCO := Lib.hid (fun w h => builder_code b n w h)
  have HLL := Lib.hid (fun w h => builder_line b n w h)
  have HW := Lib.hid (fun w h => builder_word b n w h)
  have HBK := Lib.hid (fun e (he : D = e + 1) (x : Int) (hx : x = (e : Int)) w hw => (show Calls Tryz.prog 8 #[.pointer (some ⟨b, 0, none⟩), .int .i64 x, .int .i64 3] w (BlocksGot b n NB LB MB 3 w) by rw [hx]; exact HBS e he w hw))
  have HLK := Lib.hid (fun e (he : D = e + 1) (x : Int) (hx : x = (e : Int)) w hw => (show Calls Tryz.prog 29 #[.pointer (some ⟨b, 0, none⟩), .int .i64 x, .bool odd] w (BlockGot b n NL LL ML w) by rw [hx]; exact HLS e he w hw))
  clear HBS HLS
  unfold BlocksGot at HBK
  unfold BlockGot at HLK
  have HT3 := Lib.hid (fun s hs w => times_3 s hs w)
  have HTI := Lib.hid (fun j hj w => times_i j hj w)
  have HLI := Lib.hid (fun w h => builder_lines b n w h)
  have hbl := h.lt
  have hA := h.alloc (.cells (spcG 0 ⟨#[]⟩ ⟨#[]⟩ 0 ⟨#[]⟩ false (.slice none 0 0) 0 0) 27)
  obtain ⟨sz, _, c2, _, _, fz, _, _⟩ := hA.cells
  obtain ⟨_, _, _, _, _, _, hset, _⟩ := h.cells
  have f2 := fz 2
  have HST : Hid (∀ x : Int, Bld b n ((w.setCell ⟨b, 2, none⟩ (.int .i64 x)).alloc (.cells (spcG 0 ⟨#[]⟩ ⟨#[]⟩ 0 ⟨#[]⟩ false (.slice none 0 0) 0 0) 27)) ∧ RetB w.heap.size ((w.setCell ⟨b, 2, none⟩ (.int .i64 x)).alloc (.cells (spcG 0 ⟨#[]⟩ ⟨#[]⟩ 0 ⟨#[]⟩ false (.slice none 0 0) 0 0) 27)) ∧ w.grownBy ((w.setCell ⟨b, 2, none⟩ (.int .i64 x)).alloc (.cells (spcG 0 ⟨#[]⟩ ⟨#[]⟩ 0 ⟨#[]⟩ false (.slice none 0 0) 0 0) 27)) (some b)) := Lib.hid (fun x => ⟨(hset x).alloc _, by have := heap_alloc_new (w.setCell ⟨b, 2, none⟩ (.int .i64 x)) (.cells (spcG 0 ⟨#[]⟩ ⟨#[]⟩ 0 ⟨#[]⟩ false (.slice none 0 0) 0 0) 27); rw [show (w.setCell ⟨b, 2, none⟩ (.int .i64 x)).heap.size = w.heap.size by simp] at this; exact this, grown_alloc (grown_b (World.grownBy.refl w (some b)) 2 _) _⟩)
  clear hA hset fz
  unfold NextMade at HN
  obtain ⟨i0, hi, hz0, hz1, hz2⟩ := info_parts str_info
  have HCODE := Lib.hid HC
  clear HC
  unfold LinesMade at HLI
  unfold LineMade at HLL
  unfold CodeMade at HCO
  unfold WordMade at HW
  unfold spcG at HLI
  unfold spcG at c2 f2 HST
  go_enter Tryz.func13, Tryz.ntmps13
  go_upto_region 3 with (go_at_call 12; refine (HN.out 9 _ (HST.out _).1 (by decide) (by decide)).mono ?_; rintro e1 w1 ⟨k, hk9, rfl, hb1, hg1⟩; have hR := (HST.out (wrap64 (sz + 1))).2.1.grown hg1 hbl; have hG := grown_trans (HST.out (wrap64 (sz + 1))).2.2 hg1; have HS := Lib.hid hb1.cells; obtain ⟨sz1, _, d2, _, _, _, _, _⟩ := hb1.cells; have HB := Lib.hid hb1; have HR := Lib.hid hR; have HG := Lib.hid hG; clear hb1 hg1 hR hG)
  clear HST c2 f2
  have hw1 := HG.out.size
  have hH1 : w.heap.size + 1 ≤ w1.heap.size := by have := (Array.getElem?_eq_some_iff.1 HR.out.row).1; omega
  go_cut [8, 45] from 33 to 45 (fun kv v wx => ∃ bb : Bool, kv = .int .i64 k ∧ v = .bool bb ∧ (bb = false → D = 0 → k < 6) ∧ Hid (Bld b n wx) ∧ Hid (RetB w.heap.size wx) ∧ Hid (w.grownBy wx (some b)) ∧ w.heap.size + 1 ≤ wx.heap.size)
  case first =>
    by_cases hs : 60 < sz1
    · go_wp2_with (fail)
      go_meet
      exact ⟨_, rfl, rfl, (fun h => by cases h), HB, HR, HG, hH1⟩
    · by_cases hD : (D : Int) ≤ 0
      · obtain rfl : D = 0 := by omega
        clear hD
        by_cases h6 : 6 ≤ (k : Int)
        · go_wp2_with (fail)
          go_meet
          exact ⟨_, rfl, rfl, (fun h => by cases h), HB, HR, HG, hH1⟩
        · go_wp2_with (fail)
          go_meet
          exact ⟨_, rfl, rfl, (fun _ _ => by omega), HB, HR, HG, hH1⟩
      · go_wp2_with (fail)
        go_meet
        exact ⟨_, rfl, rfl, (fun _ h => by omega), HB, HR, HG, hH1⟩
  case rest =>
    obtain ⟨bb, rfl, rfl, hbb, HB1, HR1, HG1, hH⟩ := hcut
    clear HB HR HG HS d2 hw1 hH1
    cases bb
    · have hk6 := hbb rfl
      rcases (by omega : k = 0 ∨ k = 1 ∨ k = 2 ∨ k = 3 ∨ k = 4 ∨ k = 5 ∨ k = 6 ∨ k = 7 ∨ k = 8) with rfl | rfl | rfl | rfl | rfl | rfl | rfl | rfl | rfl
      · go_wp2_with (first
          | (refine wpList_store_row rfl 27 10 w.heap.size _ _ rfl HI10.out _ #[.int .i64 6, .string ⟨#[]⟩, .string ⟨#[]⟩, .int .i64 0, .string ⟨#[]⟩, .bool false, .slice none 0 0, .slice (some ⟨kb, 0, none⟩) css.length kc, .int .i64 0, .int .i64 0] HRF.out.row rfl rfl rfl rfl HONE.out ?_)
          | (go_at_call 28; refine (HLI.out _ HB1.out).mono ?_; rintro e2 w2 ⟨nt, tv, _, css, rfl, ht, h0, h3, hn, hc0, hc20, htot, hb2, hg2⟩; obtain ⟨kb, kc, rfl, _, _⟩ := hn.1.form hc0; have hone : (#[.int .i64 6, .string ⟨#[]⟩, .string ⟨#[]⟩, .int .i64 0, .string ⟨#[]⟩, .bool false, .slice none 0 0, .slice (some ⟨kb, 0, none⟩) css.length kc, .int .i64 0, .int .i64 0] : Array Value).all (·.oneCell') = true := (by simp [Value.oneCell']); have HONE := Lib.hid hone; have HRF := Lib.hid (HR1.out.grown hg2 hbl); have HQ := Lib.hid (blk_para hn hc0 hc20 htot 0 0); have HT := Lib.hid ht; have HB2 := Lib.hid hb2; have HG2 := Lib.hid (grown_trans HG1.out hg2); clear hn hb2 hg2 ht hone))
        try simp only [Act.put, List.setIfInBounds_toArray, List.set_cons_zero, List.set_cons_succ]
        have hl := load_struct (P := Tryz.prog) (ty := 27) (n := 10) (by kernel_rfl) (w2.setRow w.heap.size #[.int .i64 6, .string ⟨#[]⟩, .string ⟨#[]⟩, .int .i64 0, .string ⟨#[]⟩, .bool false, .slice none 0 0, .slice (some ⟨kb, 0, none⟩) css.length kc, .int .i64 0, .int .i64 0]) w.heap.size 27 #[.int .i64 6, .string ⟨#[]⟩, .string ⟨#[]⟩, .int .i64 0, .string ⟨#[]⟩, .bool false, .slice none 0 0, .slice (some ⟨kb, 0, none⟩) css.length kc, .int .i64 0, .int .i64 0] (0, 0) (setRow_heap _ _ _ _ _ _ HRF.out.row) rfl
        exact bodyPost_ret (v := .tuple #[tv, .agg #[.int .i64 6, .string ⟨#[]⟩, .string ⟨#[]⟩, .int .i64 0, .string ⟨#[]⟩, .bool false, .slice none 0 0, .slice (some ⟨kb, 0, none⟩) css.length kc, .int .i64 0, .int .i64 0]]) (by simp [results, asAddr, hl]) rfl (block_done hbl ((HT.out.low hH).more (by omega)) h0 (by omega) (((blk_say 3000).wide _ _ _ _ _ _ HQ.out hH (Nat.le_refl _)).more hM3) HB2.out HG2.out)
      · go_wp2_with (first
          | (refine wpList_store_row rfl 27 10 w.heap.size _ _ rfl HI10.out _ #[.int .i64 6, .string ⟨#[]⟩, .string ⟨#[]⟩, .int .i64 0, .string ⟨#[]⟩, .bool false, .slice none 0 0, .slice (some ⟨kb, 0, none⟩) css.length kc, .int .i64 0, .int .i64 0] HRF.out.row rfl rfl rfl rfl HONE.out ?_)
          | (go_at_call 28; refine (HLI.out _ HB1.out).mono ?_; rintro e2 w2 ⟨nt, tv, _, css, rfl, ht, h0, h3, hn, hc0, hc20, htot, hb2, hg2⟩; obtain ⟨kb, kc, rfl, _, _⟩ := hn.1.form hc0; have hone : (#[.int .i64 6, .string ⟨#[]⟩, .string ⟨#[]⟩, .int .i64 0, .string ⟨#[]⟩, .bool false, .slice none 0 0, .slice (some ⟨kb, 0, none⟩) css.length kc, .int .i64 0, .int .i64 0] : Array Value).all (·.oneCell') = true := (by simp [Value.oneCell']); have HONE := Lib.hid hone; have HRF := Lib.hid (HR1.out.grown hg2 hbl); have HQ := Lib.hid (blk_para hn hc0 hc20 htot 0 0); have HT := Lib.hid ht; have HB2 := Lib.hid hb2; have HG2 := Lib.hid (grown_trans HG1.out hg2); clear hn hb2 hg2 ht hone))
        try simp only [Act.put, List.setIfInBounds_toArray, List.set_cons_zero, List.set_cons_succ]
        have hl := load_struct (P := Tryz.prog) (ty := 27) (n := 10) (by kernel_rfl) (w2.setRow w.heap.size #[.int .i64 6, .string ⟨#[]⟩, .string ⟨#[]⟩, .int .i64 0, .string ⟨#[]⟩, .bool false, .slice none 0 0, .slice (some ⟨kb, 0, none⟩) css.length kc, .int .i64 0, .int .i64 0]) w.heap.size 27 #[.int .i64 6, .string ⟨#[]⟩, .string ⟨#[]⟩, .int .i64 0, .string ⟨#[]⟩, .bool false, .slice none 0 0, .slice (some ⟨kb, 0, none⟩) css.length kc, .int .i64 0, .int .i64 0] (0, 0) (setRow_heap _ _ _ _ _ _ HRF.out.row) rfl
        exact bodyPost_ret (v := .tuple #[tv, .agg #[.int .i64 6, .string ⟨#[]⟩, .string ⟨#[]⟩, .int .i64 0, .string ⟨#[]⟩, .bool false, .slice none 0 0, .slice (some ⟨kb, 0, none⟩) css.length kc, .int .i64 0, .int .i64 0]]) (by simp [results, asAddr, hl]) rfl (block_done hbl ((HT.out.low hH).more (by omega)) h0 (by omega) (((blk_say 3000).wide _ _ _ _ _ _ HQ.out hH (Nat.le_refl _)).more hM3) HB2.out HG2.out)
      · go_wp2_with (first
          | (refine wpList_store_row rfl 27 10 w.heap.size _ _ rfl HI10.out _ #[.int .i64 5, .string ⟨#[]⟩, .string ⟨#[]⟩, .int .i64 (1 + (j : Int)), .string ⟨#[]⟩, .bool false, .slice none 0 0, .slice (some ⟨kb, 0, none⟩) css.length kc, .int .i64 0, .int .i64 0] (HRF.out _).row rfl rfl rfl rfl HONE.out ?_)
          | (go_at_call 12; refine (HN.out 6 _ HB1.out (by decide) (by decide)).mono ?_; rintro e2 w2 ⟨j, hj, rfl, hb2, hg2⟩; have HS2 := Lib.hid hb2.cells; obtain ⟨_, _, _, d3, _, _, _, _⟩ := hb2.cells; have hs2 := hg2.size; have HB2 := Lib.hid hb2; have HR2 := Lib.hid (HR1.out.grown hg2 hbl); have HG2 := Lib.hid (grown_trans HG1.out hg2); clear hb2 hg2)
          | (go_at_call 24; refine (HLL.out _ HB2.out).mono ?_; rintro e3 w3 ⟨s, css, _, rfl, hs, hn, hc0, hc5, htot, hb3, hg3⟩; obtain ⟨kb, kc, rfl, _, _⟩ := hn.1.form hc0; have hone : (#[.int .i64 5, .string ⟨#[]⟩, .string ⟨#[]⟩, .int .i64 (1 + (j : Int)), .string ⟨#[]⟩, .bool false, .slice none 0 0, .slice (some ⟨kb, 0, none⟩) css.length kc, .int .i64 0, .int .i64 0] : Array Value).all (·.oneCell') = true := (by simp [Value.oneCell']); have HONE := Lib.hid hone; have hrf := HR2.out.grown hg3 hbl; have HRF : Hid (∀ o, RetB w.heap.size (w3.alloc o)) := Lib.hid (fun o => hrf.alloc o); have hq := blk_heading (i := 1 + j) hn hc0 (by omega) (by omega) (by omega) 0 0; rw [show ((1 + j : Nat) : Int) = 1 + (j : Int) by omega] at hq; have HQ := Lib.hid hq; have hs3 := hg3.size; have HB3 := Lib.hid hb3; have HG3 := Lib.hid (grown_trans HG2.out hg3); clear hn hb3 hg3 hone hrf hq)
          | (go_at_call 25; refine (HTI.out j hj _).mono ?_; rintro e4 w4 ⟨r, hr6, rfl, rfl⟩))
        have hz : (⟨#[32]⟩ : ByteArray).size = 1 := rfl
        try simp only [Act.put, List.setIfInBounds_toArray, List.set_cons_zero, List.set_cons_succ]
        have hl := load_struct (P := Tryz.prog) (ty := 27) (n := 10) (by kernel_rfl) ((w3.alloc (.cells #[.string (r ++ ⟨#[32]⟩ ++ s)] 9)).setRow w.heap.size #[.int .i64 5, .string ⟨#[]⟩, .string ⟨#[]⟩, .int .i64 (1 + (j : Int)), .string ⟨#[]⟩, .bool false, .slice none 0 0, .slice (some ⟨kb, 0, none⟩) css.length kc, .int .i64 0, .int .i64 0]) w.heap.size 27 #[.int .i64 5, .string ⟨#[]⟩, .string ⟨#[]⟩, .int .i64 (1 + (j : Int)), .string ⟨#[]⟩, .bool false, .slice none 0 0, .slice (some ⟨kb, 0, none⟩) css.length kc, .int .i64 0, .int .i64 0] (0, 0) (setRow_heap _ _ _ _ _ _ (HRF.out _).row) rfl
        exact bodyPost_ret (v := .tuple #[(.slice (some ⟨w3.heap.size, 0, none⟩) 1 1), .agg #[.int .i64 5, .string ⟨#[]⟩, .string ⟨#[]⟩, .int .i64 (1 + (j : Int)), .string ⟨#[]⟩, .bool false, .slice none 0 0, .slice (some ⟨kb, 0, none⟩) css.length kc, .int .i64 0, .int .i64 0]]) (by simp [results, asAddr, hl]) rfl (block_done hbl (texts_one _ (by rw [ByteArray.size_append, ByteArray.size_append]; omega) (by omega)) (by decide) (by omega) (((blk_say 3000).wide _ _ _ _ _ _ (blk_alloc HQ.out (Nat.le_refl _) _) (by omega) (by simp)).more hM3) (HB3.out.alloc _) (grown_alloc HG3.out _))
      · have HRF := Lib.hid (HR1.out.alloc (.cells #[.string ⟨#[42, 42, 42]⟩] 9))
        have HONE : Hid ((#[.int .i64 9, .string ⟨#[]⟩, .string ⟨#[]⟩, .int .i64 0, .string ⟨#[]⟩, .bool false, .slice none 0 0, .slice none 0 0, .int .i64 0, .int .i64 0] : Array Value).all (·.oneCell') = true) := Lib.hid (by simp [Value.oneCell'])
        go_wp2_with (first | (refine wpList_store_row rfl 27 10 w.heap.size _ _ rfl HI10.out _ #[.int .i64 9, .string ⟨#[]⟩, .string ⟨#[]⟩, .int .i64 0, .string ⟨#[]⟩, .bool false, .slice none 0 0, .slice none 0 0, .int .i64 0, .int .i64 0] HRF.out.row rfl rfl rfl rfl HONE.out ?_))
        try simp only [Act.put, List.setIfInBounds_toArray, List.set_cons_zero, List.set_cons_succ]
        have hl := load_struct (P := Tryz.prog) (ty := 27) (n := 10) (by kernel_rfl) ((wc.alloc (.cells #[.string ⟨#[42, 42, 42]⟩] 9)).setRow w.heap.size #[.int .i64 9, .string ⟨#[]⟩, .string ⟨#[]⟩, .int .i64 0, .string ⟨#[]⟩, .bool false, .slice none 0 0, .slice none 0 0, .int .i64 0, .int .i64 0]) w.heap.size 27 #[.int .i64 9, .string ⟨#[]⟩, .string ⟨#[]⟩, .int .i64 0, .string ⟨#[]⟩, .bool false, .slice none 0 0, .slice none 0 0, .int .i64 0, .int .i64 0] (0, 0) (setRow_heap _ _ _ _ _ _ HRF.out.row) rfl
        exact bodyPost_ret (v := .tuple #[(.slice (some ⟨wc.heap.size, 0, none⟩) 1 1), .agg #[.int .i64 9, .string ⟨#[]⟩, .string ⟨#[]⟩, .int .i64 0, .string ⟨#[]⟩, .bool false, .slice none 0 0, .slice none 0 0, .int .i64 0, .int .i64 0]]) (by simp [results, asAddr, hl]) rfl (block_done hbl (texts_one _ (by show 3 ≤ L; omega) hH) (by decide) (by omega) ((blk_break _ _ _).more hM3) (HB1.out.alloc _) (grown_alloc HG1.out _))
      · go_wp2_with (first
          | (refine wpList_store_row rfl 27 10 w.heap.size _ _ rfl HI10.out _ #[.int .i64 7, .string s, .string r, .int .i64 0, .string ⟨#[]⟩, .bool false, .slice none 0 0, .slice none 0 0, .int .i64 0, .int .i64 0] HRF.out.row rfl rfl rfl rfl HONE.out ?_)
          | (refine wpList_store_row rfl 27 10 w.heap.size _ _ rfl HI10.out _ #[.int .i64 7, .string s, .string ⟨#[]⟩, .int .i64 0, .string ⟨#[]⟩, .bool false, .slice none 0 0, .slice none 0 0, .int .i64 0, .int .i64 0] HRF.out.row rfl rfl rfl rfl HONE.out ?_)
          | (go_at_call 12; refine (HN.out 2 _ HB1.out (by decide) (by decide)).mono ?_; rintro e2 w2 ⟨j, hj, rfl, hb2, hg2⟩; have HS2 := Lib.hid hb2.cells; obtain ⟨_, _, _, d3, _, _, _, _⟩ := hb2.cells; have hs2 := hg2.size; have HB2 := Lib.hid hb2; have HR2 := Lib.hid (HR1.out.grown hg2 hbl); have HG2 := Lib.hid (grown_trans HG1.out hg2); clear hb2 hg2)
          | (go_at_call 26; refine (HW.out _ HB2.out).mono ?_; rintro e3 w3 ⟨r, hr, rfl, hb3, hg3⟩; have hr1 := hr.2.2; have hrl2 := Lib.hid hr.1; have hs3 := hg3.size; have HB3 := Lib.hid hb3; have HR3 := Lib.hid (HR2.out.grown hg3 hbl); have HG3 := Lib.hid (grown_trans HG2.out hg3); clear hb3 hg3 hr)
          | (go_at_call 27; refine (HCO.out _ HB3.out).mono ?_; rintro e4 w4 ⟨nt, tv, s, rfl, ht, h0, h3, hs, hb4, hg4⟩; have hs4 := hg4.size; obtain ⟨gl, cl, ls, rfl, hll, hls, hgl1, hgl2, hrl⟩ := texts_row ht h0; have HLS := Lib.hid hls; have HRL := Lib.hid (fun o => (hrl.of (heap_alloc_old w4 o hgl2))); have hR4 := HR3.out.grown hg4 hbl; have hG4 := grown_trans HG3.out hg4; have HR4 := Lib.hid hR4; have HG4 := Lib.hid hG4; have HB4 := Lib.hid hb4; have HONE : Hid ((#[.int .i64 7, .string s, .string r, .int .i64 0, .string ⟨#[]⟩, .bool false, .slice none 0 0, .slice none 0 0, .int .i64 0, .int .i64 0] : Array Value).all (·.oneCell') = true) := Lib.hid (by simp [Value.oneCell']); clear hb4 hg4 hls hrl ht hR4 hG4)
          | (go_at_call 27; refine (HCO.out _ HB2.out).mono ?_; rintro e4 w4 ⟨nt, tv, s, rfl, ht, h0, h3, hs, hb4, hg4⟩; have hs4 := hg4.size; obtain ⟨gl, cl, ls, rfl, hll, hls, hgl1, hgl2, hrl⟩ := texts_row ht h0; have HLS := Lib.hid hls; have HRL := Lib.hid (fun o => (hrl.of (heap_alloc_old w4 o hgl2))); have hR4 := HR2.out.grown hg4 hbl; have hG4 := grown_trans HG2.out hg4; have HR4 := Lib.hid hR4; have HG4 := Lib.hid hG4; have HB4 := Lib.hid hb4; have HONE : Hid ((#[.int .i64 7, .string s, .string ⟨#[]⟩, .int .i64 0, .string ⟨#[]⟩, .bool false, .slice none 0 0, .slice none 0 0, .int .i64 0, .int .i64 0] : Array Value).all (·.oneCell') = true) := Lib.hid (by simp [Value.oneCell']); clear hb4 hg4 hls hrl ht hR4 hG4)
          | (at_builtin; refine wpList_append_lies _ rfl _ _ 39 rfl (w.heap.size + 1) 9 i0 (.string ⟨#[]⟩) 1 16 Tryz.underlying39 hi hz0 hz1 hz2 rfl (by decide) _ _ _ rfl (hown5.alloc _) ⟨w5.heap.size, 0, none⟩ 1 _ [.string ⟨#[96, 96, 96]⟩] rfl rfl (World.news_of_block (heap_alloc_new w5 _)) (fun u hu => by rw [List.mem_singleton.1 hu]; rfl) (by decide) (by unfold maxLen; omega) (by omega) (by simp; omega) (w5.heap.size + 1) (by simp) ?_; intro g6 cap6 w6 hown6 hgrow6 hat6 hlt6; have HRF := Lib.hid ((HR5.out.alloc _).own hgrow6 (fun g hg => by have := (HO5.out.lt g hg).1; omega)); have HB6 := Lib.hid ((HB5.out.alloc _).grown hgrow6 (fun g hg => (HO5.out.lt g hg).1) (by omega)); have HG6 := Lib.hid (grown_own (grown_alloc HG5.out _) hgrow6 (fun g hg => by have := (HO5.out.lt g hg).1; omega)))
          | (at_builtin; refine wpList_append_lies _ rfl _ _ 39 rfl (w.heap.size + 1) 9 i0 (.string ⟨#[]⟩) 1 16 Tryz.underlying39 hi hz0 hz1 hz2 rfl (by decide) _ _ _ rfl (own_one _ (by omega)) ⟨gl, 0, none⟩ nt _ (ls.map Value.string) rfl (by simp [hll]) (row_news (HRL.out _)) (strs_one ls) h0 (by unfold maxLen; omega) (by omega) (by simp; omega) (w4.heap.size + 1) (by simp) ?_; intro g5 cap5 w5 hown5 hgrow5 hat5 hlt5; have HO5 := Lib.hid hown5; have HR5 := Lib.hid ((HR4.out.alloc _).own hgrow5 (fun g hg => by have hg2 : some w4.heap.size = some g := hg; cases hg2; omega)); have HB5 := Lib.hid ((HB4.out.alloc _).grown hgrow5 (B := w.heap.size + 1) (fun g hg => by have hg2 : some w4.heap.size = some g := hg; cases hg2; omega) (by omega)); have HG5 := Lib.hid (grown_own (grown_alloc HG4.out _) hgrow5 (fun g hg => by have hg2 : some w4.heap.size = some g := hg; cases hg2; omega)); have hs5 := hgrow5.size; simp at hs5))
        · try simp only [Act.put, List.setIfInBounds_toArray, List.set_cons_zero, List.set_cons_succ]
          have hl := load_struct (P := Tryz.prog) (ty := 27) (n := 10) (by kernel_rfl) (w6.setRow w.heap.size #[.int .i64 7, .string s, .string r, .int .i64 0, .string ⟨#[]⟩, .bool false, .slice none 0 0, .slice none 0 0, .int .i64 0, .int .i64 0]) w.heap.size 27 #[.int .i64 7, .string s, .string r, .int .i64 0, .string ⟨#[]⟩, .bool false, .slice none 0 0, .slice none 0 0, .int .i64 0, .int .i64 0] (0, 0) (setRow_heap _ _ _ _ _ _ HRF.out.row) rfl
          exact bodyPost_ret (v := .tuple #[(.slice (some ⟨g6, 0, none⟩) (1 + nt + 1) cap6), .agg #[.int .i64 7, .string s, .string r, .int .i64 0, .string ⟨#[]⟩, .bool false, .slice none 0 0, .slice none 0 0, .int .i64 0, .int .i64 0]]) (by simp [results, asAddr, hl]) rfl (block_done hbl (texts_code hL110 (X := ⟨#[96, 96, 96]⟩ ++ r) (by rw [ByteArray.size_append]; show 3 + _ ≤ _; omega) HLS.out hown6) (by omega) (by omega) ((HCODE.out _ _ _ _ _ hs hrl2.out hr1).more hM3) HB6.out HG6.out)
        · try simp only [Act.put, List.setIfInBounds_toArray, List.set_cons_zero, List.set_cons_succ]
          have hl := load_struct (P := Tryz.prog) (ty := 27) (n := 10) (by kernel_rfl) (w6.setRow w.heap.size #[.int .i64 7, .string s, .string ⟨#[]⟩, .int .i64 0, .string ⟨#[]⟩, .bool false, .slice none 0 0, .slice none 0 0, .int .i64 0, .int .i64 0]) w.heap.size 27 #[.int .i64 7, .string s, .string ⟨#[]⟩, .int .i64 0, .string ⟨#[]⟩, .bool false, .slice none 0 0, .slice none 0 0, .int .i64 0, .int .i64 0] (0, 0) (setRow_heap _ _ _ _ _ _ HRF.out.row) rfl
          exact bodyPost_ret (v := .tuple #[(.slice (some ⟨g6, 0, none⟩) (1 + nt + 1) cap6), .agg #[.int .i64 7, .string s, .string ⟨#[]⟩, .int .i64 0, .string ⟨#[]⟩, .bool false, .slice none 0 0, .slice none 0 0, .int .i64 0, .int .i64 0]]) (by simp [results, asAddr, hl]) rfl (block_done hbl (texts_code hL110 (X := ⟨#[96, 96, 96]⟩) (by decide) HLS.out hown6) (by omega) (by omega) ((HCODE.out _ _ _ _ _ hs letters_nil (by decide)).more hM3) HB6.out HG6.out)
      · go_wp2_with (first
          | (refine wpList_store_new rfl 27 10 _ _ rfl HI10.out _ #[.int .i64 6, .string ⟨#[]⟩, .string ⟨#[]⟩, .int .i64 0, .string ⟨#[]⟩, .bool false, .slice none 0 0, .slice (some ⟨kb, 0, none⟩) css.length kc, .int .i64 0, .int .i64 0] rfl rfl rfl rfl HONE6.out ?_)
          | (go_at_call 12; refine (HN.out 2 _ HBA.out (by decide) (by decide)).mono ?_; rintro e3 w3 ⟨j, hj, rfl, hb3, hg3⟩; have hrT : w3.heap[w2.heap.size]? = some (.cells #[.int .i64 6, .string ⟨#[]⟩, .string ⟨#[]⟩, .int .i64 0, .string ⟨#[]⟩, .bool false, .slice none 0 0, .slice (some ⟨kb, 0, none⟩) css.length kc, .int .i64 0, .int .i64 0] 27) := (hg3.block _ (by simp) (by simp; omega)).trans (heap_alloc_new w2 _); have k0 : w3.cell? ⟨w2.heap.size, 0, none⟩ = some (.int .i64 6) := Lib.cell_of_heap hrT 0; have k3 : w3.cell? ⟨w2.heap.size, 3, none⟩ = some (.int .i64 0) := Lib.cell_of_heap hrT 3; have z0 : w3.frozen? ⟨w2.heap.size, 0, none⟩ = false := Lib.frozen_of_heap hrT 0; have z3 : w3.frozen? ⟨w2.heap.size, 3, none⟩ = false := Lib.frozen_of_heap hrT 3; have HRT := Lib.hid hrT; have HG3 := Lib.hid hg3; have HB3 := Lib.hid hb3; clear hrT hb3 hg3)
          | (go_at_call 28; refine (HLI.out _ HB1.out).mono ?_; rintro e2 w2 ⟨nt, _, _, css, rfl, ht, h0, h3, hn, hc0, hc20, htot, hb2, hg2⟩; obtain ⟨gt, ct, _, rfl, _, _, hgt1, hgt2, _⟩ := texts_row ht h0; obtain ⟨kb, kc, rfl, _, _⟩ := hn.1.form hc0; have HONE6 : Hid ((#[.int .i64 6, .string ⟨#[]⟩, .string ⟨#[]⟩, .int .i64 0, .string ⟨#[]⟩, .bool false, .slice none 0 0, .slice (some ⟨kb, 0, none⟩) css.length kc, .int .i64 0, .int .i64 0] : Array Value).all (·.oneCell') = true) := Lib.hid (by simp [Value.oneCell']); have HR2 := Lib.hid (HR1.out.grown hg2 hbl); have HNS := Lib.hid hn; have HT := Lib.hid ht; have HBA := Lib.hid (hb2.alloc (.cells #[.int .i64 6, .string ⟨#[]⟩, .string ⟨#[]⟩, .int .i64 0, .string ⟨#[]⟩, .bool false, .slice none 0 0, .slice (some ⟨kb, 0, none⟩) css.length kc, .int .i64 0, .int .i64 0] 27)); obtain ⟨_, _, _, d3, _, _, _, _⟩ := (hb2.alloc (.cells #[.int .i64 6, .string ⟨#[]⟩, .string ⟨#[]⟩, .int .i64 0, .string ⟨#[]⟩, .bool false, .slice none 0 0, .slice (some ⟨kb, 0, none⟩) css.length kc, .int .i64 0, .int .i64 0] 27)).cells; have HG2 := Lib.hid (grown_trans HG1.out hg2); have hs2 := hg2.size; clear hn hb2 hg2 ht))
        have hG3s := HG3.out.size
        simp at hG3s
        have hW0 : (w3.setCell ⟨w2.heap.size, 0, none⟩ (.int .i64 5)).heap[w2.heap.size]? = some (.cells #[.int .i64 5, .string ⟨#[]⟩, .string ⟨#[]⟩, .int .i64 0, .string ⟨#[]⟩, .bool false, .slice none 0 0, .slice (some ⟨kb, 0, none⟩) css.length kc, .int .i64 0, .int .i64 0] 27) := heap_setCell_same w3 _ 0 _ _ _ HRT.out
        have hWS : ((w3.setCell ⟨w2.heap.size, 0, none⟩ (.int .i64 5)).setCell ⟨w2.heap.size, 3, none⟩ (.int .i64 (1 + (j : Int)))).heap[w2.heap.size]? = some (.cells #[.int .i64 5, .string ⟨#[]⟩, .string ⟨#[]⟩, .int .i64 (1 + (j : Int)), .string ⟨#[]⟩, .bool false, .slice none 0 0, .slice (some ⟨kb, 0, none⟩) css.length kc, .int .i64 0, .int .i64 0] 27) := heap_setCell_same _ _ 3 _ _ _ hW0
        have hBA : Bld b n (w2.alloc (.cells #[.int .i64 6, .string ⟨#[]⟩, .string ⟨#[]⟩, .int .i64 0, .string ⟨#[]⟩, .bool false, .slice none 0 0, .slice (some ⟨kb, 0, none⟩) css.length kc, .int .i64 0, .int .i64 0] 27)) := HBA.out
        have hbT : b < w2.heap.size := by omega
        have hBS : Bld b n ((w3.setCell ⟨w2.heap.size, 0, none⟩ (.int .i64 5)).setCell ⟨w2.heap.size, 3, none⟩ (.int .i64 (1 + (j : Int)))) := bld_cell (bld_cell HB3.out hbT _) hbT _
        have hGS : w.grownBy ((w3.setCell ⟨w2.heap.size, 0, none⟩ (.int .i64 5)).setCell ⟨w2.heap.size, 3, none⟩ (.int .i64 (1 + (j : Int)))) (some b) := grown_cell (grown_cell (grown_trans (grown_alloc HG2.out _) HG3.out) (by show w.heap.size ≤ w2.heap.size; omega) _) (by show w.heap.size ≤ w2.heap.size; omega) _
        have hRS : RetB w.heap.size ((w3.setCell ⟨w2.heap.size, 0, none⟩ (.int .i64 5)).setCell ⟨w2.heap.size, 3, none⟩ (.int .i64 (1 + (j : Int)))) := (((HR2.out.alloc _).grown HG3.out hbl).cell (by show w2.heap.size ≠ w.heap.size; omega) _).cell (by show w2.heap.size ≠ w.heap.size; omega) _
        have hSameS : ∀ e : TypeId, e ≠ 38 → Same e 0 w2.heap.size w2 ((w3.setCell ⟨w2.heap.size, 0, none⟩ (.int .i64 5)).setCell ⟨w2.heap.size, 3, none⟩ (.int .i64 (1 + (j : Int)))) := fun e he => ((((Same.refl e 0 _ w2).alloc (Nat.le_refl _) (.cells #[.int .i64 6, .string ⟨#[]⟩, .string ⟨#[]⟩, .int .i64 0, .string ⟨#[]⟩, .bool false, .slice none 0 0, .slice (some ⟨kb, 0, none⟩) css.length kc, .int .i64 0, .int .i64 0] 27)).grownT HG3.out (fun g hg => by cases hg; exact hBA.typed) he).cell (by exact Nat.le_refl _) _).cell (by exact Nat.le_refl _) _
        have hTS : Texts (w.heap.size + 1) nt 100 (.slice (some ⟨gt, 0, none⟩) nt ct) ((w3.setCell ⟨w2.heap.size, 0, none⟩ (.int .i64 5)).setCell ⟨w2.heap.size, 3, none⟩ (.int .i64 (1 + (j : Int)))) := (HT.out.keep ((hSameS 9 (by decide)).all.less (Nat.zero_le _))).low hH
        have hq := blk_heading (i := 1 + j) HNS.out hc0 hc20 htot (by omega) 0 0
        rw [show ((1 + j : Nat) : Int) = 1 + (j : Int) by omega] at hq
        have hQS := (blk_say 3000).keep _ _ _ _ ((w3.setCell ⟨w2.heap.size, 0, none⟩ (.int .i64 5)).setCell ⟨w2.heap.size, 3, none⟩ (.int .i64 (1 + (j : Int)))) hq ((hSameS 27 (by decide)).less (Nat.zero_le _) (Nat.le_refl _)) (by simp; omega)
        generalize hWW : ((w3.setCell ⟨w2.heap.size, 0, none⟩ (.int .i64 5)).setCell ⟨w2.heap.size, 3, none⟩ (.int .i64 (1 + (j : Int)))) = ws at *
        have hzs : w2.heap.size + 1 ≤ ws.heap.size := by rw [← hWW]; simp; omega
        clear hW0 hSameS hWW k0 k3 z0 z3 hBA d3 hq HRT HG3 HB3 HBA HONE6
        obtain ⟨ss, hss1, hss2, hss3⟩ := hTS
        have HSS := Lib.hid hss2
        have HO := Lib.hid hss3
        have HRS := Lib.hid hRS
        have HBS0 := Lib.hid hBS
        have HGS := Lib.hid hGS
        have HQS := Lib.hid hQS
        have HONE : Hid ((#[.int .i64 5, .string ⟨#[]⟩, .string ⟨#[]⟩, .int .i64 (1 + (j : Int)), .string ⟨#[]⟩, .bool false, .slice none 0 0, .slice (some ⟨kb, 0, none⟩) css.length kc, .int .i64 0, .int .i64 0] : Array Value).all (·.oneCell') = true) := Lib.hid (by simp [Value.oneCell'])
        have hS : ReadsS w2.heap.size (1 + (j : Int)) [.int .i64 5, .string ⟨#[]⟩, .string ⟨#[]⟩, .int .i64 (1 + (j : Int)), .string ⟨#[]⟩, .bool false, .slice none 0 0, .slice (some ⟨kb, 0, none⟩) css.length kc, .int .i64 0, .int .i64 0] ws.drew := ⟨Lib.cell_of_heap (w := ws.drew) hWS 3, range_whole (w := ws.drew) hWS⟩
        have hTy : Typed 27 w2.heap.size ws := ⟨_, _, hWS⟩
        clear hss2 hss3 hRS hBS hGS hQS hWS
        have q0 : (0 : Int) ≤ (j : Int) := by omega
        have q1 : (j : Int) ≤ 1 + (j : Int) := by omega
        have q2 : 1 + (j : Int) ≤ 2 := by omega
        have q3 : (0 : Int) ≤ 1 + (j : Int) := by omega
        have q4 : IntKind.i64.wrap (1 + (j : Int) - 1) = (j : Int) := by rw [show 1 + (j : Int) - 1 = (j : Int) by omega]; exact IntWalk.i64_in _ (by omega)
        have q5 : 1 + j ≤ 2 := by omega
        refine wp_region_B (ReadsS w2.heap.size (1 + (j : Int)) [.int .i64 5, .string ⟨#[]⟩, .string ⟨#[]⟩, .int .i64 (1 + (j : Int)), .string ⟨#[]⟩, .bool false, .slice none 0 0, .slice (some ⟨kb, 0, none⟩) css.length kc, .int .i64 0, .int .i64 0]) 12 (by kernel_rfl) ?_
        refine wpAnyB_take (i := 0) (.slice (some ⟨gt, 0, none⟩) nt ct) rfl (by kernel_rfl) (by kernel_rfl) (by kernel_rfl) (by kernel_rfl) rfl (fun _ _ _ h => h) hS (yields_in (by kernel_rfl) (fun wq hSw => by obtain ⟨s3, sx⟩ := hSw; go_simp)) ?_
        simp only [Act.put, List.setIfInBounds_toArray, List.set_cons_zero, List.set_cons_succ]
        refine wpAnyB_take (i := 1) (.pointer (some ⟨w2.heap.size, 3, none⟩)) rfl (by kernel_rfl) (by kernel_rfl) (by kernel_rfl) (by kernel_rfl) rfl (fun _ _ _ h => h) hS (yields_in (by kernel_rfl) (fun wq hSw => by obtain ⟨s3, sx⟩ := hSw; go_simp)) ?_
        simp only [Act.put, List.setIfInBounds_toArray, List.set_cons_zero, List.set_cons_succ]
        refine wpAnyB_take (i := 2) (.int .i64 (1 + (j : Int))) rfl (by kernel_rfl) (by kernel_rfl) (by kernel_rfl) (by kernel_rfl) rfl (fun _ _ _ h => h) hS (yields_in (by kernel_rfl) (fun wq hSw => by obtain ⟨s3, sx⟩ := hSw; go_simp)) ?_
        simp only [Act.put, List.setIfInBounds_toArray, List.set_cons_zero, List.set_cons_succ]
        refine wpAnyB_take (i := 3) (.int .i64 (j : Int)) rfl (by kernel_rfl) (by kernel_rfl) (by kernel_rfl) (by kernel_rfl) rfl (fun _ _ _ h => h) hS (yields_in (by kernel_rfl) (fun wq hSw => by obtain ⟨s3, sx⟩ := hSw; go_simp)) ?_
        simp only [Act.put, List.setIfInBounds_toArray, List.set_cons_zero, List.set_cons_succ]
        refine wpAnyB_take (i := 4) (.pointer (some ⟨w2.heap.size, 3, none⟩)) rfl (by kernel_rfl) (by kernel_rfl) (by kernel_rfl) (by kernel_rfl) rfl (fun _ _ _ h => h) hS (yields_in (by kernel_rfl) (fun wq hSw => by obtain ⟨s3, sx⟩ := hSw; go_simp)) ?_
        simp only [Act.put, List.setIfInBounds_toArray, List.set_cons_zero, List.set_cons_succ]
        refine wpAnyB_take (i := 5) (.int .i64 (1 + (j : Int))) rfl (by kernel_rfl) (by kernel_rfl) (by kernel_rfl) (by kernel_rfl) rfl (fun _ _ _ h => h) hS (yields_in (by kernel_rfl) (fun wq hSw => by obtain ⟨s3, sx⟩ := hSw; go_simp)) ?_
        simp only [Act.put, List.setIfInBounds_toArray, List.set_cons_zero, List.set_cons_succ]
        refine wpAnyB_take (i := 6) (.string ((⟨#[61, 45]⟩ : ByteArray).extract j (1 + (j : Int)).toNat)) rfl (by kernel_rfl) (by kernel_rfl) (by kernel_rfl) (by kernel_rfl) rfl (fun _ _ _ h => h) hS (yields_in (by kernel_rfl) (fun wq hSw => by obtain ⟨s3, sx⟩ := hSw; go_simp)) ?_
        simp only [Act.put, List.setIfInBounds_toArray, List.set_cons_zero, List.set_cons_succ]
        refine wpAnyB_take (i := 10) (.agg #[.int .i64 5, .string ⟨#[]⟩, .string ⟨#[]⟩, .int .i64 (1 + (j : Int)), .string ⟨#[]⟩, .bool false, .slice none 0 0, .slice (some ⟨kb, 0, none⟩) css.length kc, .int .i64 0, .int .i64 0]) rfl (by kernel_rfl) (by kernel_rfl) (by kernel_rfl) (by kernel_rfl) rfl (fun _ _ _ h => h) hS (yieldsIf_load_mid (by kernel_rfl) 27 _ rfl w2.heap.size 0 rfl [.int .i64 5, .string ⟨#[]⟩, .string ⟨#[]⟩, .int .i64 (1 + (j : Int)), .string ⟨#[]⟩, .bool false, .slice none 0 0, .slice (some ⟨kb, 0, none⟩) css.length kc, .int .i64 0, .int .i64 0] _ (fun w h => h.2) Tryz.underlying27 rfl HI10.out) ?_
        simp only [Act.put, List.setIfInBounds_toArray, List.set_cons_zero, List.set_cons_succ]
        refine wpAnyB_one (i := 7) rfl (by kernel_rfl) (by kernel_rfl) (fun K hK => ?_)
        go_simp
        go_at_call 25
        refine (HT3.out _ (by rw [ByteArray.size_extract]; omega) _).mono ?_
        rintro e4 w4 ⟨r, hr3, rfl, rfl⟩
        refine hK.out _ _ ⟨fun _ => hS, ?_⟩
        clear hK K
        try simp only [Act.put, List.setIfInBounds_toArray, List.set_cons_zero, List.set_cons_succ]
        refine wpAnyB_one (i := 8) rfl (by kernel_rfl) (by kernel_rfl) (fun K hK => ?_)
        go_simp
        have hS3 := hS.keep (w' := (ws.alloc (.cells #[.string r] 9)).drew) (heap_alloc_old ws _ (by omega))
        refine hK.out _ _ ⟨fun _ => hS3, ?_⟩
        clear hK K
        try simp only [Act.put, List.setIfInBounds_toArray, List.set_cons_zero, List.set_cons_succ]
        refine wpAnyB_one (i := 9) rfl (by kernel_rfl) (by kernel_rfl) (fun K hK => ?_)
        refine wp_append_lies _ _ _ 39 rfl (w.heap.size + 1) 9 i0 (.string ⟨#[]⟩) 1 16 Tryz.underlying39 hi hz0 hz1 hz2 rfl (by decide) _ _ _ rfl (HO.out.alloc _).drew ⟨ws.heap.size, 0, none⟩ 1 1 [.string r] rfl rfl (World.news_of_block (w := (ws.alloc (.cells #[.string r] 9)).drew) (heap_alloc_new ws _)) (fun u hu => by rw [List.mem_singleton.1 hu]; rfl) (by decide) (by unfold maxLen; omega) (by omega) (by show w.heap.size + 1 ≤ (World.alloc _ _).heap.size; simp; omega) _ rfl ?_
        intro g5 cap5 w5 hown5 hgrow5 hat5 hlt5
        have hS4 := hS3.keep (w' := w5) (hgrow5.block _ (by show w2.heap.size < (World.alloc _ _).heap.size; simp; omega) (by
          intro hh
          have h1 := (own_typed (HO.out.alloc (.cells #[.string r] 9)) hh.symm).1
          have h2 : Typed 27 w2.heap.size (ws.alloc (.cells #[.string r] 9)) := by obtain ⟨c, m, h⟩ := hTy; exact ⟨c, m, (heap_alloc_old ws _ (by omega)).trans h⟩
          exact absurd (h1.one h2) (by decide)))
        refine hK.out _ _ ⟨fun _ => hS4, ?_⟩
        clear hK K
        try simp only [Act.put, List.setIfInBounds_toArray, List.set_cons_zero, List.set_cons_succ]
        refine wpAnyB_one (i := 11) rfl (by kernel_rfl) (by kernel_rfl) (fun K hK => ?_)
        go_simp
        refine hK.out _ _ ⟨fun _ => hS4, ?_⟩
        clear hK K
        try simp only [Act.put, List.setIfInBounds_toArray, List.set_cons_zero, List.set_cons_succ]
        refine wpAnyB_one (i := 12) rfl (by kernel_rfl) (by kernel_rfl) (fun K hK => ?_)
        have HRF : Hid (RetB w.heap.size w5) := Lib.hid ((show RetB w.heap.size (ws.alloc (.cells #[.string r] 9)).drew from HRS.out.alloc _).own hgrow5 (fun g hg => by have := (HO.out.lt g hg).1; omega))
        refine wp_store_row 27 10 w.heap.size _ _ rfl HI10.out _ #[.int .i64 5, .string ⟨#[]⟩, .string ⟨#[]⟩, .int .i64 (1 + (j : Int)), .string ⟨#[]⟩, .bool false, .slice none 0 0, .slice (some ⟨kb, 0, none⟩) css.length kc, .int .i64 0, .int .i64 0] HRF.out.row rfl rfl rfl rfl HONE.out ?_
        go_simp
        refine hK.out _ _ ⟨fun h => absurd rfl h, ?_⟩
        clear hK K hS hS3 hS4
        refine wpAnyB_done (by kernel_rfl) ?_ _
        try simp only [Act.put, List.setIfInBounds_toArray, List.set_cons_zero, List.set_cons_succ]
        go_wp2_with (fail)
        have hgx : ws.grownBy w5 (Value.slice (some ⟨gt, 0, none⟩) nt ct).ownBlock := ⟨hgrow5.os, hgrow5.tape, hgrow5.output, Nat.le_trans (by show ws.heap.size ≤ (World.alloc _ _).heap.size; simp) hgrow5.size, fun q hq hne => (hgrow5.block q (by show q < (World.alloc _ _).heap.size; simp; omega) hne).trans (heap_alloc_old ws _ hq)⟩
        have hsx : ws.heap.size ≤ w5.heap.size := hgx.size
        have hQ5 := (blk_say 3000).keep _ _ _ _ w5 HQS.out (Same.grownT (f := 9) (Same.refl _ _ _ _) hgx (fun g hg => (own_typed HO.out hg).1) (by decide)) hsx
        try simp only [Act.put, List.setIfInBounds_toArray, List.set_cons_zero, List.set_cons_succ]
        have hl := load_struct (P := Tryz.prog) (ty := 27) (n := 10) (by kernel_rfl) (w5.setRow w.heap.size #[.int .i64 5, .string ⟨#[]⟩, .string ⟨#[]⟩, .int .i64 (1 + (j : Int)), .string ⟨#[]⟩, .bool false, .slice none 0 0, .slice (some ⟨kb, 0, none⟩) css.length kc, .int .i64 0, .int .i64 0]) w.heap.size 27 #[.int .i64 5, .string ⟨#[]⟩, .string ⟨#[]⟩, .int .i64 (1 + (j : Int)), .string ⟨#[]⟩, .bool false, .slice none 0 0, .slice (some ⟨kb, 0, none⟩) css.length kc, .int .i64 0, .int .i64 0] (0, 0) (setRow_heap _ _ _ _ _ _ HRF.out.row) rfl
        exact bodyPost_ret (v := .tuple #[(.slice (some ⟨g5, 0, none⟩) (nt + 1) cap5), .agg #[.int .i64 5, .string ⟨#[]⟩, .string ⟨#[]⟩, .int .i64 (1 + (j : Int)), .string ⟨#[]⟩, .bool false, .slice none 0 0, .slice (some ⟨kb, 0, none⟩) css.length kc, .int .i64 0, .int .i64 0]]) (by simp [results, asAddr, hl]) rfl (block_done hbl ((texts_add hss1 HSS.out (by omega) hown5 rfl rfl).more (by omega)) (by omega) (by omega) (((blk_say 3000).wide _ _ _ _ _ _ hQ5 hH (by omega)).more hM3) (HBS0.out.grown hgx (B := w.heap.size + 1) (fun g hg => (HO.out.lt g hg).1) (by omega)) (grown_own HGS.out hgx (fun g hg => by have := (HO.out.lt g hg).1; omega)))
      · obtain ⟨e, rfl⟩ : ∃ e, D = e + 1 := ⟨D - 1, by omega⟩
        obtain ⟨_, dp1, _, _, x4, xz, _, xset⟩ := HB1.out.cells
        have z4 := xz 4
        have HSB : Hid (∀ x : Int, Bld b n (wc.setCell ⟨b, 4, none⟩ (.int .i64 x)) ∧ RetB w.heap.size (wc.setCell ⟨b, 4, none⟩ (.int .i64 x)) ∧ w.grownBy (wc.setCell ⟨b, 4, none⟩ (.int .i64 x)) (some b)) := Lib.hid (fun x => ⟨xset x, HR1.out.cell (by show b ≠ _; omega) _, grown_b HG1.out 4 _⟩)
        clear xz xset
        go_wp2_with (go_at_call 8; refine (HBK.out e rfl _ (by omega) _ (HSB.out _).1).mono ?_; rintro e2 w2 ⟨nl, lv, _, css, rfl, hlt, hl0, hlN, hn, hc0, hc3, hb2, hg2⟩; obtain ⟨gl, cl, ls, rfl, hll, hls, hgl1, hgl2, hrl⟩ := texts_row hlt hl0; obtain ⟨kb, kc, rfl, _, _⟩ := hn.1.form hc0; have hs2 := hg2.size; obtain ⟨_, dp2, _, _, y4, yz, _, yset⟩ := hb2.cells; have u4 := yz 4; have HB2 := Lib.hid yset; have HR2 : Hid (∀ x : Int, RetB w.heap.size (w2.setCell ⟨b, 4, none⟩ (.int .i64 x)) ∧ w.grownBy (w2.setCell ⟨b, 4, none⟩ (.int .i64 x)) (some b)) := Lib.hid (fun x => ⟨((HSB.out (wrap64 (dp1 + 1))).2.1.grown hg2 hbl).cell (by show b ≠ _; omega) _, grown_b (grown_trans (HSB.out (wrap64 (dp1 + 1))).2.2 hg2) 4 _⟩); have HQ := Lib.hid (blk_quote hn hc0 (by omega) 0 0); have HLS := Lib.hid hls; have HRL : Hid (∀ x : Int, RowAt 9 gl (ls.map Value.string) (w2.setCell ⟨b, 4, none⟩ (.int .i64 x))) := Lib.hid (fun x => hrl.of (heap_setCell_other w2 _ _ _ (by show gl ≠ b; simp at hgl1; omega))); have HTB := Lib.hid hb2.typed; simp at hs2; clear yz yset hb2 hg2 hn hlt hls hrl)
        have HSX := Lib.hid (fun (x : Int) => heap_setCell_other w2 ⟨b, 4, none⟩ (v := .int .i64 x))
        have hszx : ∀ x : Int, (w2.setCell ⟨b, 4, none⟩ (.int .i64 x)).heap.size = w2.heap.size := fun x => by simp
        generalize hWX : w2.setCell ⟨b, 4, none⟩ _ = wx
        have hsx : wx.heap.size = w2.heap.size := by rw [← hWX]; simp
        have HBX : Hid (Bld b n wx) := Lib.hid (hWX ▸ HB2.out _)
        have HRX : Hid (RetB w.heap.size wx ∧ w.grownBy wx (some b)) := Lib.hid (hWX ▸ HR2.out _)
        have HRLX : Hid (RowAt 9 gl (ls.map Value.string) wx) := Lib.hid (hWX ▸ HRL.out _)
        have hQX : BlkP (css.length * MB + 27) wc.heap.size w2.heap.size #[.int .i64 2, .string ⟨#[]⟩, .string ⟨#[]⟩, .int .i64 0, .string ⟨#[]⟩, .bool false, .slice none 0 0, .slice (some ⟨kb, 0, none⟩) css.length kc, .int .i64 0, .int .i64 0] wx := (blk_say _).keep _ _ _ _ _ (by have h := HQ.out; simp only [World.size_setCell] at h; exact h) (fun k _ _ hk => by rw [← hWX]; exact heap_setCell_other w2 _ k _ (by intro e; simp at e; exact absurd ((e ▸ hk).one HTB.out) (by decide))) (by omega)
        have HQX := Lib.hid hQX
        clear HSX hszx hWX hQX HQ HRL HR2 HB2 HTB y4 u4 x4 z4 HSB
        go_loopg [21, 160] nl (fun gg tv i wy => ∃ q, q + gg = nl ∧ i = .int .i64 q ∧ Hid (Texts wx.heap.size q (LB + 2) tv wy) ∧ Hid (Below wx.heap.size wx wy))
        case atStart => exact ⟨0, by omega, rfl, Lib.hid (Texts.nil _ _ _), Lib.hid (Below.refl _ _)⟩
        case round =>
          obtain ⟨q, hq, rfl, HT, HBL⟩ := hrel
          have hsw := HBL.out.size
          by_cases hltq : q < nl
          · have hcell : wr.cell? ⟨gl, q, none⟩ = some (.string (ls[q]'(by omega))) := by have := (HRLX.out.below (by omega) HBL.out).cell q (by simp; omega); simpa using this
            have hsz := HLS.out (ls[q]'(by omega)) (List.getElem_mem _)
            generalize ls[q]'(by omega) = s at *
            obtain ⟨ts, hs1, hs2', hs3⟩ := HT.out
            have HO := Lib.hid hs3
            have HSS := Lib.hid hs2'
            clear hs3 hs2'
            go_wp2_with (first
              | (at_builtin; refine wpList_append_lies _ rfl _ _ 39 rfl wx.heap.size 9 i0 (.string ⟨#[]⟩) 1 16 Tryz.underlying39 hi hz0 hz1 hz2 rfl (by decide) _ _ _ rfl (HO.out.alloc _) ⟨wr.heap.size, 0, none⟩ 1 1 [.string (⟨#[62, 32]⟩ ++ s)] rfl rfl (World.news_of_block (heap_alloc_new wr _)) (fun u hu => by rw [List.mem_singleton.1 hu]; rfl) (by decide) (by unfold maxLen; omega) (by omega) (by simp; omega) (wr.heap.size + 1) (by simp) ?_; intro g2 cap w4 hown hgrow hat hlt4))
            go_roundg (nl - (q + 1))
            case measure => omega
            case rel => exact ⟨q + 1, by omega, by go_num, Lib.hid (texts_add hs1 HSS.out (by rw [ByteArray.size_append]; show 2 + _ ≤ _; omega) hown rfl rfl), Lib.hid ((HBL.out.alloc hsw _).grown hgrow (by simp; omega) (fun g hg => (HO.out.lt g hg).1))⟩
          · have hqn : q = nl := by omega
            subst hqn
            have HRF : Hid (RetB w.heap.size wr) := Lib.hid ((HBL.out.block _ (by omega)).trans HRX.out.1)
            have HONE : Hid ((#[.int .i64 2, .string ⟨#[]⟩, .string ⟨#[]⟩, .int .i64 0, .string ⟨#[]⟩, .bool false, .slice none 0 0, .slice (some ⟨kb, 0, none⟩) css.length kc, .int .i64 0, .int .i64 0] : Array Value).all (·.oneCell') = true) := Lib.hid (by simp [Value.oneCell'])
            have hb3 : Bld b n wr := HBX.out.keep (fun q hq => HBL.out.block q (by omega))
            have hg3 : w.grownBy wr (some b) := grown_own HRX.out.2 (o := none) ⟨HBL.out.os, HBL.out.tape, HBL.out.output, HBL.out.size, fun q hq _ => HBL.out.block q hq⟩ (fun g hg => by cases hg)
            have hq3 := (blk_say _).keep _ _ _ _ wr HQX.out (fun k _ hk _ => HBL.out.block k (by omega)) hsw
            have HB3 := Lib.hid hb3
            have HG3 := Lib.hid hg3
            have HQ3 := Lib.hid hq3
            have hmb : css.length * MB ≤ 3 * MB := Nat.mul_le_mul_right _ hc3
            clear hb3 hg3 hq3
            go_wp2_with (first | (refine wpList_store_row rfl 27 10 w.heap.size _ _ rfl HI10.out _ #[.int .i64 2, .string ⟨#[]⟩, .string ⟨#[]⟩, .int .i64 0, .string ⟨#[]⟩, .bool false, .slice none 0 0, .slice (some ⟨kb, 0, none⟩) css.length kc, .int .i64 0, .int .i64 0] HRF.out.row rfl rfl rfl rfl HONE.out ?_))
            try simp only [Act.put, List.setIfInBounds_toArray, List.set_cons_zero, List.set_cons_succ]
            have hl := load_struct (P := Tryz.prog) (ty := 27) (n := 10) (by kernel_rfl) (wr.setRow w.heap.size #[.int .i64 2, .string ⟨#[]⟩, .string ⟨#[]⟩, .int .i64 0, .string ⟨#[]⟩, .bool false, .slice none 0 0, .slice (some ⟨kb, 0, none⟩) css.length kc, .int .i64 0, .int .i64 0]) w.heap.size 27 #[.int .i64 2, .string ⟨#[]⟩, .string ⟨#[]⟩, .int .i64 0, .string ⟨#[]⟩, .bool false, .slice none 0 0, .slice (some ⟨kb, 0, none⟩) css.length kc, .int .i64 0, .int .i64 0] (0, 0) (setRow_heap _ _ _ _ _ _ HRF.out.row) rfl
            exact bodyPost_ret (v := .tuple #[_, .agg #[.int .i64 2, .string ⟨#[]⟩, .string ⟨#[]⟩, .int .i64 0, .string ⟨#[]⟩, .bool false, .slice none 0 0, .slice (some ⟨kb, 0, none⟩) css.length kc, .int .i64 0, .int .i64 0]]) (by simp [results, asAddr, hl]) rfl (block_done hbl ((HT.out.low (by omega)).more hL2) (by omega) (by omega) (((blk_say _).wide _ _ _ _ _ _ HQ3.out hH (by omega)).more (by omega)) HB3.out HG3.out)
      · obtain ⟨e, rfl⟩ : ∃ e, D = e + 1 := ⟨D - 1, by omega⟩
        go_wp2_with (first
          | (refine wpList_store_row rfl 27 10 w.heap.size _ _ rfl HI10.out _ #[.int .i64 ki, .string t, .string ti, .int .i64 nu, .string ch, .bool lb, .slice none 0 0, ks, .int .i64 fr, .int .i64 tl] HRF.out.row rfl rfl rfl rfl HONE.out ?_)
          | (go_at_call 29; refine (HLK.out e rfl _ (by omega) _ HB1.out).mono ?_; rintro e2 w2 ⟨nt, tv, cs, rfl, ht, h0, h3, hq, hb2, hg2⟩; obtain ⟨ki, t, ti, nu, ch, lb, ks, fr, tl, rfl, hks, _⟩ := hq.form; have hone : (#[.int .i64 ki, .string t, .string ti, .int .i64 nu, .string ch, .bool lb, .slice none 0 0, ks, .int .i64 fr, .int .i64 tl] : Array Value).all (·.oneCell') = true := spcG_one ki t ti nu ch lb hks fr tl; have HONE := Lib.hid hone; have HRF := Lib.hid (HR1.out.grown hg2 hbl); have HQ : Hid (BlkP ML wc.heap.size w2.heap.size #[.int .i64 ki, .string t, .string ti, .int .i64 nu, .string ch, .bool lb, .slice none 0 0, ks, .int .i64 fr, .int .i64 tl] w2) := Lib.hid hq; have HT := Lib.hid ht; have HB2 := Lib.hid hb2; have HG2 := Lib.hid (grown_trans HG1.out hg2); have hs2 := hg2.size; clear hq hb2 hg2 ht hone))
        try simp only [Act.put, List.setIfInBounds_toArray, List.set_cons_zero, List.set_cons_succ]
        have hl := load_struct (P := Tryz.prog) (ty := 27) (n := 10) (by kernel_rfl) (w2.setRow w.heap.size #[.int .i64 ki, .string t, .string ti, .int .i64 nu, .string ch, .bool lb, .slice none 0 0, ks, .int .i64 fr, .int .i64 tl]) w.heap.size 27 #[.int .i64 ki, .string t, .string ti, .int .i64 nu, .string ch, .bool lb, .slice none 0 0, ks, .int .i64 fr, .int .i64 tl] (0, 0) (setRow_heap _ _ _ _ _ _ HRF.out.row) rfl
        exact bodyPost_ret (v := .tuple #[tv, .agg #[.int .i64 ki, .string t, .string ti, .int .i64 nu, .string ch, .bool lb, .slice none 0 0, ks, .int .i64 fr, .int .i64 tl]]) (by simp [results, asAddr, hl]) rfl (block_done hbl ((HT.out.low hH).more hL3) h0 (by omega) (((blk_say ML).wide _ _ _ _ _ _ HQ.out hH (Nat.le_refl _)).more hM4) HB2.out HG2.out)
      · obtain ⟨e, rfl⟩ : ∃ e, D = e + 1 := ⟨D - 1, by omega⟩
        go_wp2_with (first
          | (refine wpList_store_row rfl 27 10 w.heap.size _ _ rfl HI10.out _ #[.int .i64 ki, .string t, .string ti, .int .i64 nu, .string ch, .bool lb, .slice none 0 0, ks, .int .i64 fr, .int .i64 tl] HRF.out.row rfl rfl rfl rfl HONE.out ?_)
          | (go_at_call 29; refine (HLK.out e rfl _ (by omega) _ HB1.out).mono ?_; rintro e2 w2 ⟨nt, tv, cs, rfl, ht, h0, h3, hq, hb2, hg2⟩; obtain ⟨ki, t, ti, nu, ch, lb, ks, fr, tl, rfl, hks, _⟩ := hq.form; have hone : (#[.int .i64 ki, .string t, .string ti, .int .i64 nu, .string ch, .bool lb, .slice none 0 0, ks, .int .i64 fr, .int .i64 tl] : Array Value).all (·.oneCell') = true := spcG_one ki t ti nu ch lb hks fr tl; have HONE := Lib.hid hone; have HRF := Lib.hid (HR1.out.grown hg2 hbl); have HQ : Hid (BlkP ML wc.heap.size w2.heap.size #[.int .i64 ki, .string t, .string ti, .int .i64 nu, .string ch, .bool lb, .slice none 0 0, ks, .int .i64 fr, .int .i64 tl] w2) := Lib.hid hq; have HT := Lib.hid ht; have HB2 := Lib.hid hb2; have HG2 := Lib.hid (grown_trans HG1.out hg2); have hs2 := hg2.size; clear hq hb2 hg2 ht hone))
        try simp only [Act.put, List.setIfInBounds_toArray, List.set_cons_zero, List.set_cons_succ]
        have hl := load_struct (P := Tryz.prog) (ty := 27) (n := 10) (by kernel_rfl) (w2.setRow w.heap.size #[.int .i64 ki, .string t, .string ti, .int .i64 nu, .string ch, .bool lb, .slice none 0 0, ks, .int .i64 fr, .int .i64 tl]) w.heap.size 27 #[.int .i64 ki, .string t, .string ti, .int .i64 nu, .string ch, .bool lb, .slice none 0 0, ks, .int .i64 fr, .int .i64 tl] (0, 0) (setRow_heap _ _ _ _ _ _ HRF.out.row) rfl
        exact bodyPost_ret (v := .tuple #[tv, .agg #[.int .i64 ki, .string t, .string ti, .int .i64 nu, .string ch, .bool lb, .slice none 0 0, ks, .int .i64 fr, .int .i64 tl]]) (by simp [results, asAddr, hl]) rfl (block_done hbl ((HT.out.low hH).more hL3) h0 (by omega) (((blk_say ML).wide _ _ _ _ _ _ HQ.out hH (Nat.le_refl _)).more hM4) HB2.out HG2.out)
    · go_wp2_with (first
        | (refine wpList_store_row rfl 27 10 w.heap.size _ _ rfl HI10.out _ #[.int .i64 6, .string ⟨#[]⟩, .string ⟨#[]⟩, .int .i64 0, .string ⟨#[]⟩, .bool false, .slice none 0 0, .slice (some ⟨kb, 0, none⟩) css.length kc, .int .i64 0, .int .i64 0] HRF.out.row rfl rfl rfl rfl HONE.out ?_)
        | (go_at_call 28; refine (HLI.out _ HB1.out).mono ?_; rintro e2 w2 ⟨nt, tv, _, css, rfl, ht, h0, h3, hn, hc0, hc20, htot, hb2, hg2⟩; obtain ⟨kb, kc, rfl, _, _⟩ := hn.1.form hc0; have hone : (#[.int .i64 6, .string ⟨#[]⟩, .string ⟨#[]⟩, .int .i64 0, .string ⟨#[]⟩, .bool false, .slice none 0 0, .slice (some ⟨kb, 0, none⟩) css.length kc, .int .i64 0, .int .i64 0] : Array Value).all (·.oneCell') = true := (by simp [Value.oneCell']); have HONE := Lib.hid hone; have HRF := Lib.hid (HR1.out.grown hg2 hbl); have HQ := Lib.hid (blk_para hn hc0 hc20 htot 0 0); have HT := Lib.hid ht; have HB2 := Lib.hid hb2; have HG2 := Lib.hid (grown_trans HG1.out hg2); clear hn hb2 hg2 ht hone))
      try simp only [Act.put, List.setIfInBounds_toArray, List.set_cons_zero, List.set_cons_succ]
      have hl := load_struct (P := Tryz.prog) (ty := 27) (n := 10) (by kernel_rfl) (w2.setRow w.heap.size #[.int .i64 6, .string ⟨#[]⟩, .string ⟨#[]⟩, .int .i64 0, .string ⟨#[]⟩, .bool false, .slice none 0 0, .slice (some ⟨kb, 0, none⟩) css.length kc, .int .i64 0, .int .i64 0]) w.heap.size 27 #[.int .i64 6, .string ⟨#[]⟩, .string ⟨#[]⟩, .int .i64 0, .string ⟨#[]⟩, .bool false, .slice none 0 0, .slice (some ⟨kb, 0, none⟩) css.length kc, .int .i64 0, .int .i64 0] (0, 0) (setRow_heap _ _ _ _ _ _ HRF.out.row) rfl
      exact bodyPost_ret (v := .tuple #[tv, .agg #[.int .i64 6, .string ⟨#[]⟩, .string ⟨#[]⟩, .int .i64 0, .string ⟨#[]⟩, .bool false, .slice none 0 0, .slice (some ⟨kb, 0, none⟩) css.length kc, .int .i64 0, .int .i64 0]]) (by simp [results, asAddr, hl]) rfl (block_done hbl ((HT.out.low hH).more (by omega)) h0 (by omega) (((blk_say 3000).wide _ _ _ _ _ _ HQ.out hH (Nat.le_refl _)).more hM3) HB2.out HG2.out)

end Go.Proofs.YtnocllocnoodnaaGreatDoor
