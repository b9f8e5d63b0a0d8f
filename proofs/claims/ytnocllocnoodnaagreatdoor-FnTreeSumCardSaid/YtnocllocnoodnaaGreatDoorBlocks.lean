/- The builder's blocks, from what 'block' makes. -/
import Derived.Test.YtnocllocnoodnaaGreatDoorCodeOf
import Derived.Test.YtnocllocnoodnaaGreatDoorGivesBlk
namespace Go.Proofs.YtnocllocnoodnaaGreatDoor
open Go.RowKit
set_option linter.unusedSimpArgs false
/-- the call makes a block: its lines, and its node -/
def BlockGot (b n N L M : Nat) (w : World) (e : Ending) (w' : World) : Prop := ∃ (nt : Nat) (tv : Value) (cs : Array Value), e = .returned (.tuple #[tv, .agg cs]) ∧ Texts w.heap.size nt L tv w' ∧ 0 < nt ∧ nt ≤ N ∧ BlkP M w.heap.size w'.heap.size cs w' ∧ Bld b n w' ∧ w.grownBy w' (some b)
/-- .. some blocks -/
def BlocksGot (b n N L M most : Nat) (w : World) (e : Ending) (w' : World) : Prop := ∃ (nt : Nat) (tv o : Value) (css : List (Array Value)), e = .returned (.tuple #[tv, o]) ∧ Texts w.heap.size nt L tv w' ∧ 0 < nt ∧ nt ≤ most * (N + 1) ∧ Nodes (BlkP M) Array.toList w.heap.size css o w' ∧ 0 < css.length ∧ css.length ≤ most ∧ Bld b n w' ∧ w.grownBy w' (some b)
theorem Same.alloc {e : TypeId} {lo hi : Nat} {w wx : World} (h : Same e lo hi w wx) (hz : hi ≤ wx.heap.size) (o : Obj) : Same e lo hi w (wx.alloc o) := fun k h1 h2 h3 => (heap_alloc_old wx o (by omega)).trans (h k h1 h2 h3)
theorem Same.cell {e : TypeId} {lo hi : Nat} {w wx : World} (h : Same e lo hi w wx) {p : Addr} (hp : hi ≤ p.block) (v : Value) : Same e lo hi w (wx.setCell p v) := fun k h1 h2 h3 => (heap_setCell_other wx p k v (by omega)).trans (h k h1 h2 h3)
theorem Same.grownT {e f : TypeId} {lo hi : Nat} {w wx wy : World} {r : Option Nat} (h : Same e lo hi w wx) (hg : wx.grownBy wy r) (hr : ∀ g, r = some g → Typed f g wx) (hne : e ≠ f) : Same e lo hi w wy := fun k h1 h2 h3 => by
  have ht := h.typed h1 h2 h3
  exact (hg.block k ht.lt (fun hk => hne (ht.one (hr k hk.symm)))).trans (h k h1 h2 h3)
theorem Same.all {e : TypeId} {lo : Nat} {w wx : World} (h : Same e lo w.heap.size w wx) : SameAll e lo w wx := fun k h1 h2 => h k h1 h2.lt h2
theorem texts_form {B m L : Nat} {v : Value} {w : World} (h : Texts B m L v w) : ∃ ao c, v = .slice ao m c ∧ m ≤ c := by
  obtain ⟨ss, h1, h2, h3, h4⟩ := h
  rcases h4 with ⟨rfl, rfl⟩ | ⟨g, cap, cur, rfl, _, _, h5, _⟩
  · exact ⟨_, _, rfl, Nat.le_refl _⟩
  · exact ⟨_, _, rfl, h5⟩
/-- a stage: the nodes, the texts, the builder -/
structure BlocksAt (b n nt L M : Nat) (w : World) (tv o : Value) (css : List (Array Value)) (wx : World) : Prop where
  nodes : Nodes (BlkP M) Array.toList w.heap.size css o wx
  texts : Texts w.heap.size nt L tv wx
  bld : Bld b n wx
  grown : w.grownBy wx (some b)
theorem BlocksAt.call {b n nt L M : Nat} {w wx w2 : World} {tv o : Value} {css : List (Array Value)} (h : BlocksAt b n nt L M w tv o css wx) (hb : Bld b n w2) (hg : wx.grownBy w2 (some b)) : BlocksAt b n nt L M w tv o css w2 :=
  ⟨nodes_grown (blk_say M) h.nodes h.bld hg, texts_grown h.texts h.bld hg, hb, grown_trans h.grown hg⟩
/-- from the block's making on: its variable lies in block T, with these cells; the texts may grow -/
structure BlockAt (b n nt nl L M : Nat) (w w0 w1 : World) (tv lv o : Value) (css : List (Array Value)) (cs : Array Value) (wx : World) : Prop where
  same : Same 27 w.heap.size w1.heap.size w1 wx
  nodes : Nodes (BlkP M) Array.toList w.heap.size css o w1
  blk : BlkP M w0.heap.size w1.heap.size cs w1
  low : w.heap.size ≤ w0.heap.size
  mid : w0.heap.size ≤ w1.heap.size
  out : ∀ g, o.ownBlock = some g → g < w0.heap.size
  row : wx.heap[w1.heap.size]? = some (.cells cs 27)
  size : w1.heap.size + 1 ≤ wx.heap.size
  texts : Texts w.heap.size nt L tv wx
  line : Texts w0.heap.size nl L lv wx
  apart : ∀ g, tv.ownBlock = some g → g < w0.heap.size ∨ w1.heap.size ≤ g
  inner : ∀ g, lv.ownBlock = some g → g < w1.heap.size
  bld : Bld b n wx
  grown : w.grownBy wx (some b)
theorem BlockAt.start {b n nt nl L M : Nat} {w w0 w1 : World} {tv lv o : Value} {css : List (Array Value)} {cs : Array Value} (h : BlocksAt b n nt L M w tv o css w0) (hb : Bld b n w1) (hg : w0.grownBy w1 (some b)) (hl : Texts w0.heap.size nl L lv w1) (hq : BlkP M w0.heap.size w1.heap.size cs w1) :
    BlockAt b n nt nl L M w w0 w1 tv lv o css cs (w1.alloc (.cells cs 27)) := by
  have h1 := h.call hb hg
  exact ⟨(Same.refl _ _ _ _).alloc (Nat.le_refl _) _, h1.nodes, hq, h.grown.size, hg.size, fun g hg => (h.nodes.1.lt g hg).2, heap_alloc_new w1 _, by simp, texts_alloc h1.texts _, texts_alloc hl _, fun g hg => .inl (h.texts.own hg).2.2, fun g hg => (hl.own hg).2.2, hb.alloc _, grown_alloc h1.grown _⟩
theorem BlockAt.alloc {b n nt nl L M : Nat} {w w0 w1 wx : World} {tv lv o : Value} {css : List (Array Value)} {cs : Array Value} (h : BlockAt b n nt nl L M w w0 w1 tv lv o css cs wx) (ob : Obj) : BlockAt b n nt nl L M w w0 w1 tv lv o css cs (wx.alloc ob) :=
  ⟨h.same.alloc (by have := h.size; omega) _, h.nodes, h.blk, h.low, h.mid, h.out, (heap_alloc_old wx _ (by have := h.size; omega)).trans h.row, Nat.le_trans h.size (by simp), texts_alloc h.texts _, texts_alloc h.line _, h.apart, h.inner, h.bld.alloc _, grown_alloc h.grown _⟩
/-- behind an append to the texts -/
theorem BlockAt.more {b n nt nt' nl L M : Nat} {w w0 w1 wx w3 : World} {tv tv' lv o : Value} {css : List (Array Value)} {cs : Array Value} (h : BlockAt b n nt nl L M w w0 w1 tv lv o css cs wx) (hbl : b < w.heap.size) (ht : Texts w.heap.size nt' L tv' w3) (hg : wx.grownBy w3 tv.ownBlock) (hat : ∀ g, tv'.ownBlock = some g → tv.ownBlock = some g ∨ wx.heap.size ≤ g) : BlockAt b n nt' nl L M w w0 w1 tv' lv o css cs w3 := by
  have hs := h.size
  refine ⟨h.same.grownT hg (fun g hg => (h.texts.own hg).1) (by decide), h.nodes, h.blk, h.low, h.mid, h.out, ?_, by have := hg.size; omega, ht, ?_, ?_, h.inner, bld_texts h.bld h.texts hg hbl, grown_own h.grown hg (fun g hg => (h.texts.own hg).2.1)⟩
  · refine (hg.block _ (by omega) ?_).trans h.row
    intro hh
    have h1 := (h.texts.own hh.symm).1
    exact absurd (h1.one ⟨_, _, h.row⟩) (by decide)
  · obtain ⟨ss, k1, k2, k3⟩ := h.line
    refine ⟨ss, k1, k2, k3.kept hg ?_⟩
    cases hv : lv.ownBlock with
    | none => exact .inl rfl
    | some g =>
      refine .inr ?_
      intro hh
      have h1 := h.inner g hv
      have h2 := (k3.lt g hv).1
      rcases h.apart g hh.symm with h3 | h3 <;> omega
  · intro g hg'
    rcases hat g hg' with h1 | h1
    · exact h.apart g h1
    · right; omega
/-- behind a store into the block's variable -/
theorem BlockAt.set {b n nt nl L M : Nat} {w w0 w1 wx : World} {tv lv o : Value} {css : List (Array Value)} {cs : Array Value} (h : BlockAt b n nt nl L M w w0 w1 tv lv o css cs wx) (hbl : b < w.heap.size) (i : Nat) (v : Value) (hq : BlkP M w0.heap.size w1.heap.size (cs.setIfInBounds i v) w1) : BlockAt b n nt nl L M w w0 w1 tv lv o css (cs.setIfInBounds i v) (wx.setCell ⟨w1.heap.size, i, none⟩ v) := by
  have hl := h.low
  have hm := h.mid
  have hty : Typed 27 w1.heap.size wx := ⟨_, _, h.row⟩
  have hs : SameAll 9 0 wx (wx.setCell ⟨w1.heap.size, i, none⟩ v) := SameAll.setCell (.inr fun ht => absurd (ht.one hty) (by decide))
  exact ⟨h.same.cell (by exact Nat.le_refl _) _, h.nodes, hq, hl, hm, h.out, heap_setCell_same wx _ i _ _ _ h.row, by simpa using h.size, h.texts.keep (hs.less (Nat.zero_le _)), h.line.keep (hs.less (Nat.zero_le _)), h.apart, h.inner, bld_cell h.bld (by show b < w1.heap.size; omega) _, grown_cell h.grown (by show w.heap.size ≤ w1.heap.size; omega) _⟩
/-- the nodes, behind the append of the block's -/
theorem BlockAt.done {b n nt nl L M g n' cap : Nat} {w w0 w1 wx w3 : World} {tv lv o : Value} {css : List (Array Value)} {cs : Array Value} {ob : Obj} {xs' : List Value} (h : BlockAt b n nt nl L M w w0 w1 tv lv o css cs wx) (hbl : b < w.heap.size)
    (hown : w3.ownsRow w.heap.size 27 10 (.slice (some ⟨g, 0, none⟩) n' cap) n' xs') (hn : n' = css.length + 1) (hx : xs' = css.flatMap Array.toList ++ cs.toList) (hgrow : (wx.alloc ob).grownBy w3 o.ownBlock) (hat : o.ownBlock = some g ∨ g = wx.heap.size + 1) : BlocksAt b n nt L M w tv (.slice (some ⟨g, 0, none⟩) n' cap) (css ++ [cs]) w3 := by
  have hs := h.size
  have hm := h.mid
  have hl := h.low
  have hN := h.nodes.keep (blk_say M) h.same.all (by omega)
  have hB : BlkP M w0.heap.size w1.heap.size cs wx := (blk_say M).keep _ _ _ _ _ h.blk (h.same.less hl (Nat.le_refl _)) (by omega)
  have hN2 := hN.add (blk_say M) hB hl (by omega) (fun g hg => .inl (h.out g hg)) hown hn hx hgrow hat
  exact ⟨hN2, texts_nodes (texts_alloc h.texts ob) (nodes_alloc (blk_say M) hN ob) hgrow, bld_nodes (h.bld.alloc ob) (nodes_alloc (blk_say M) hN ob) hgrow hbl, grown_own (grown_alloc h.grown ob) hgrow (fun g hg => (hN.1.lt g hg).1)⟩
theorem BlockAt.own {b n nt nl L M : Nat} {w w0 w1 wx : World} {tv lv o : Value} {css : List (Array Value)} {cs : Array Value} (h : BlockAt b n nt nl L M w w0 w1 tv lv o css cs wx) : wx.ownsRow w.heap.size 27 10 o css.length (css.flatMap Array.toList) :=
  (h.nodes.keep (blk_say M) h.same.all (by have := h.size; omega)).1
theorem row_news {e : TypeId} {g : Nat} {xs : List Value} {w : World} (h : RowAt e g xs w) : ∀ j u, xs[j]? = some u → w.cell? ((⟨g, 0, none⟩ : Addr).add j) = some u := by
  intro j u hu
  obtain ⟨hlt, he⟩ := List.getElem?_eq_some_iff.1 hu
  rw [Addr.add_mid, Nat.zero_add, h.cell j hlt, he]
theorem strs_one (ls : List ByteArray) : ∀ u ∈ ls.map Value.string, u.oneCell' = true := by
  intro u hu
  obtain ⟨s, _, rfl⟩ := List.mem_map.1 hu
  rfl
/-- the block's lines, in a world to come -/
theorem BlockAt.lines {b n nt nl L M gl cl : Nat} {w w0 w1 wx : World} {tv o : Value} {css : List (Array Value)} {cs : Array Value} (h : BlockAt b n nt nl L M w w0 w1 tv (.slice (some ⟨gl, 0, none⟩) nl cl) o css cs wx) (h0 : 0 < nl) : ∃ ls : List ByteArray, ls.length = nl ∧ (∀ s ∈ ls, s.size ≤ L) ∧ RowAt 9 gl (ls.map Value.string) wx := by
  obtain ⟨g, c, ls, he, h1, h2, _, _, h3⟩ := texts_row h.line h0
  simp at he
  obtain ⟨rfl, rfl⟩ := he
  exact ⟨ls, h1, h2, h3⟩
theorem node_bytes : (Tryz.prog.info? 27).map (fun i => (i.zero, i.size, i.bytes)) = some (some (.agg (spcG 0 ⟨#[]⟩ ⟨#[]⟩ 0 ⟨#[]⟩ false (.slice none 0 0) 0 0)), 10, 136) := spec_info
theorem texts_more {B m k L n' cap g : Nat} {ss ls : List ByteArray} {w3 : World} {xs' : List Value} (hl : ss.length = m) (hs : ∀ s ∈ ss, s.size ≤ L) (hll : ls.length = k) (hz : ∀ s ∈ ls, s.size ≤ L) (hown : w3.ownsRow B 9 1 (.slice (some ⟨g, 0, none⟩) n' cap) n' xs') (hn : n' = m + k) (hx : xs' = ss.map Value.string ++ ls.map Value.string) : Texts B (m + k) L (.slice (some ⟨g, 0, none⟩) n' cap) w3 := by
  subst hn hx
  refine ⟨ss ++ ls, by simp [hl, hll], ?_, by simpa using hown⟩
  intro x hx
  rcases List.mem_append.1 hx with h | h
  · exact hs x h
  · exact hz x h
--WALK
set_option maxHeartbeats 8000000 in
set_option maxRecDepth 100000 in
theorem builder_blocks (b n N L M d most : Nat) (w : World) (h : Bld b n w) (hN : N ≤ 5000) (hm1 : 0 < most) (hm2 : most ≤ 4) (HK : ∀ (odd : Bool) (w : World), Bld b n w → Calls Tryz.prog 13 #[.pointer (some ⟨b, 0, none⟩), .int .i64 d, .bool odd] w (BlockGot b n N L M w)) :
    Calls Tryz.prog 8 #[.pointer (some ⟨b, 0, none⟩), .int .i64 d, .int .i64 most] w (BlocksGot b n N L M most w) := by
  obtain ⟨i0, hi, hz0, hz1, hz2⟩ := info_parts str_info
  obtain ⟨j0, hj, hy0, hy1, hy2⟩ := info_parts node_bytes
  have HN := Lib.hid (fun m w h hm hm2 => builder_next b n m w h hm hm2)
  have HBK := Lib.hid HK
  have HI10 := Lib.hid spc_info
  have hbl := h.lt
  have HB0 := Lib.hid h
  clear h HK
  unfold NextMade at HN
  unfold BlockGot at HBK
  unfold BlocksGot
  go_enter Tryz.func8, Tryz.ntmps8
  go_wp2_with (go_at_call 12; refine (HN.out most _ HB0.out hm1 (by omega)).mono ?_; rintro e w2 ⟨m, hm3, rfl, hb2, hg2⟩)
  have H0 : BlocksAt b n 0 L M w (.slice none 0 0) (.slice none 0 0) [] w2 := ⟨Nodes.nil _ _ _ _, Texts.nil _ _ _, hb2, hg2⟩
  have HZ := Lib.hid H0
  clear H0 hb2 hg2
  go_loopg [8, 9, 17] (1 + m) (fun gg tv o i wx => ∃ k nt ao c css, k + gg = 1 + m ∧ i = .int .i64 k ∧ tv = .slice ao nt c ∧ Hid (BlocksAt b n nt L M w (.slice ao nt c) o css wx) ∧ css.length = k ∧ nt ≤ k * (N + 1) ∧ (0 < k → 0 < nt))
  case atStart => exact ⟨0, 0, none, 0, [], by omega, rfl, rfl, HZ, rfl, by omega, by omega⟩
  case round =>
    obtain ⟨k, nt, ao, c, css, hk, rfl, rfl, HB, hcl, hnt, hnt0⟩ := hrel
    clear HZ
    have hk4 : k ≤ 4 := by omega
    have hkN : k * (N + 1) ≤ 4 * (N + 1) := Nat.mul_le_mul_right _ hk4
    by_cases hlt : k < 1 + m
    · by_cases hk0 : k = 0
      · subst hk0
        go_wp2_with (first
          | (at_builtin; refine wpList_append_lies _ rfl _ _ 25 rfl w.heap.size 27 j0 (.agg (spcG 0 ⟨#[]⟩ ⟨#[]⟩ 0 ⟨#[]⟩ false (.slice none 0 0) 0 0)) 10 136 Tryz.underlying25 hj hy0 hy1 hy2 rfl (by decide) _ _ _ rfl (HOW.out.alloc _) ⟨w4.heap.size, 0, none⟩ 1 1 [.int .i64 ki, .string t, .string ti, .int .i64 nu, .string ch, .bool lb, .slice none 0 0, ks, .int .i64 ((nt : Int) + 1), .int .i64 ((nt : Int) + (nl : Int))] rfl rfl (World.news_of_block (heap_alloc_new w4 _)) (fun u hu => (Array.all_eq_true_iff_forall_mem.1 (HONE.out _ _)) u (by simpa using hu)) (by decide) (by unfold maxLen; omega) (by omega) (by simp; omega) (w4.heap.size + 1) (by simp) ?_; intro g5 cap5 w5 hown5 hgrow5 hat5 hlt5)
          | (at_builtin; refine wpList_append_lies _ rfl _ _ 39 rfl w.heap.size 9 i0 (.string ⟨#[]⟩) 1 16 Tryz.underlying39 hi hz0 hz1 hz2 rfl (by decide) _ _ _ rfl HO.out ⟨gl, 0, none⟩ nl cl (ls.map Value.string) rfl (by simp [hll]) (row_news HRL.out) (strs_one ls) hl0 (by unfold maxLen; omega) (by omega) (Nat.le_trans (by omega) (Nat.le_trans (Nat.le_succ _) hsz1)) _ rfl ?_; intro g4 cap4 w4 hown4 hgrow4 hat4 hlt4; have hA4 := HA1.out.more hbl (texts_more hss1 HSS.out hll HLS.out hown4 rfl rfl) hgrow4 (fun g hg => by rcases hat4 with h | h; (exact .inl (by rw [← hg]; exact h)); (right; cases hg; exact Nat.le_of_eq h.symm)); have HA4 := Lib.hid hA4; have HRW := Lib.hid hA4.row; have HOW := Lib.hid hA4.own; have hsz4 := hA4.size; clear hA4)
          | (refine wpList_store_new rfl 27 10 _ _ rfl HI10.out _ #[.int .i64 ki, .string t, .string ti, .int .i64 nu, .string ch, .bool lb, .slice none 0 0, ks, .int .i64 fr, .int .i64 tl] rfl rfl rfl rfl (HONE.out _ _) ?_)
          | (refine wpList_load_mid rfl 27 _ rfl w1.heap.size 0 rfl [.int .i64 ki, .string t, .string ti, .int .i64 nu, .string ch, .bool lb, .slice none 0 0, ks, .int .i64 ((nt : Int) + 1), .int .i64 ((nt : Int) + (nl : Int))] _ (range_whole HRW.out) Tryz.underlying27 rfl HI10.out ?_)
          | (go_at_call 13; refine (HBK.out _ _ HB.out.bld).mono ?_; rintro e w1 ⟨nl, lv, cs, rfl, hlt, hl0, hlN, hq, hb1, hg1⟩; obtain ⟨ki, t, ti, nu, ch, lb, ks, fr, tl, rfl, hks, hqq⟩ := hq.form; obtain ⟨gl, cl, _, rfl, _, _, hgl1, hgl2, _⟩ := texts_row hlt hl0; have hA1 : BlockAt b n nt nl L M w wr w1 (.slice ao nt c) (.slice (some ⟨gl, 0, none⟩) nl cl) u9 css #[.int .i64 ki, .string t, .string ti, .int .i64 nu, .string ch, .bool lb, .slice none 0 0, ks, .int .i64 ((nt : Int) + 1), .int .i64 ((nt : Int) + (nl : Int))] (w1.alloc (.cells #[.int .i64 ki, .string t, .string ti, .int .i64 nu, .string ch, .bool lb, .slice none 0 0, ks, .int .i64 ((nt : Int) + 1), .int .i64 ((nt : Int) + (nl : Int))] 27)) := BlockAt.start HB.out hb1 hg1 hlt (hqq _ _); have HQ : Hid (∀ fr tl : Int, BlkP M wr.heap.size w1.heap.size #[.int .i64 ki, .string t, .string ti, .int .i64 nu, .string ch, .bool lb, .slice none 0 0, ks, .int .i64 fr, .int .i64 tl] w1) := Lib.hid hqq; have hone : ∀ fr tl : Int, (#[.int .i64 ki, .string t, .string ti, .int .i64 nu, .string ch, .bool lb, .slice none 0 0, ks, .int .i64 fr, .int .i64 tl] : Array Value).all (·.oneCell') = true := (fun fr tl => spcG_one ki t ti nu ch lb hks fr tl); have HONE := Lib.hid hone; have hw1 := hA1.grown.size; have hwr := hA1.low; have hwm := hA1.mid; simp at hw1; clear hlt hq hb1 hg1 hqq hone hks; have HA1 := Lib.hid hA1; obtain ⟨ss1, hss1, hss2, hss3⟩ := hA1.texts; have HSS := Lib.hid hss2; have HO := Lib.hid hss3; obtain ⟨ls, hll, hls, hrl⟩ := hA1.lines hl0; have HLS := Lib.hid hls; have HRL := Lib.hid hrl; have hsz1 := hA1.size; clear hA1 hss2 hss3 hls hrl))
        go_roundg (1 + m - (0 + 1))
        case measure => omega
        case rel =>
          rw [hcl] at hown5
          exact ⟨0 + 1, nt + nl, _, _, css ++ [#[.int .i64 ki, .string t, .string ti, .int .i64 nu, .string ch, .bool lb, .slice none 0 0, ks, .int .i64 ((nt : Int) + 1), .int .i64 ((nt : Int) + (nl : Int))]], by omega, by go_num, rfl, Lib.hid (HA4.out.done hbl hown5 (by omega) rfl hgrow5 hat5), by simp [hcl], by rw [Nat.succ_mul]; omega, by omega⟩
      · have hk1 : (0 : Int) < (k : Int) := by omega
        go_wp2_with (first
          | (at_builtin; refine wpList_append_lies _ rfl _ _ 25 rfl w.heap.size 27 j0 (.agg (spcG 0 ⟨#[]⟩ ⟨#[]⟩ 0 ⟨#[]⟩ false (.slice none 0 0) 0 0)) 10 136 Tryz.underlying25 hj hy0 hy1 hy2 rfl (by decide) _ _ _ rfl (HOW.out.alloc _) ⟨w4.heap.size, 0, none⟩ 1 1 [.int .i64 ki, .string t, .string ti, .int .i64 nu, .string ch, .bool lb, .slice none 0 0, ks, .int .i64 ((nt : Int) + 1 + 1), .int .i64 ((nt : Int) + 1 + (nl : Int))] rfl rfl (World.news_of_block (heap_alloc_new w4 _)) (fun u hu => (Array.all_eq_true_iff_forall_mem.1 (HONE.out _ _)) u (by simpa using hu)) (by decide) (by unfold maxLen; omega) (by omega) (by simp; omega) (w4.heap.size + 1) (by simp) ?_; intro g5 cap5 w5 hown5 hgrow5 hat5 hlt5)
          | (at_builtin; refine wpList_append_lies _ rfl _ _ 39 rfl w.heap.size 9 i0 (.string ⟨#[]⟩) 1 16 Tryz.underlying39 hi hz0 hz1 hz2 rfl (by decide) _ _ _ rfl HO.out ⟨gl, 0, none⟩ nl cl (ls.map Value.string) rfl (by simp [hll]) (row_news HRL.out) (strs_one ls) hl0 (by unfold maxLen; omega) (by omega) (Nat.le_trans (by omega) (Nat.le_trans (Nat.le_succ _) hsz3)) _ rfl ?_; intro g4 cap4 w4 hown4 hgrow4 hat4 hlt4; have hA4 := HA3.out.more hbl (texts_more hss1 HSS.out hll HLS.out hown4 rfl rfl) hgrow4 (fun g hg => by rcases hat4 with h | h; (exact .inl (by rw [← hg]; exact h)); (right; cases hg; exact Nat.le_of_eq h.symm)); have HA4 := Lib.hid hA4; have HRW := Lib.hid hA4.row; have HOW := Lib.hid hA4.own; have hsz4 := hA4.size; clear hA4)
          | (at_builtin; refine wpList_append_lies _ rfl _ _ 39 rfl w.heap.size 9 i0 (.string ⟨#[]⟩) 1 16 Tryz.underlying39 hi hz0 hz1 hz2 rfl (by decide) _ _ _ rfl (HO0.out.alloc _) ⟨w1.heap.size + 1, 0, none⟩ 1 1 [.string ⟨#[]⟩] rfl rfl (World.news_of_block (by have := heap_alloc_new (w1.alloc (.cells #[.int .i64 ki, .string t, .string ti, .int .i64 nu, .string ch, .bool lb, .slice none 0 0, ks, .int .i64 fr, .int .i64 tl] 27)) (.cells #[.string ⟨#[]⟩] 9); simpa using this)) (fun u hu => by rw [List.mem_singleton.1 hu]; rfl) (by decide) (by unfold maxLen; omega) (by omega) (by simp; omega) (w1.heap.size + 1 + 1) (by simp) ?_; intro g2 cap2 w2 hown2 hgrow2 hat2 hlt2; have hA2 := (HA1.out.alloc (.cells #[.string ⟨#[]⟩] 9)).more hbl (texts_add hss1 HSS0.out (by show 0 ≤ L; omega) hown2 rfl rfl) hgrow2 (fun g hg => by rcases hat2 with h | h; (exact .inl (by rw [← hg]; exact h)); (right; cases hg; simp; omega)); have c8 : w2.cell? ⟨w1.heap.size, 8, none⟩ = some (.int .i64 fr) := Lib.cell_of_heap hA2.row 8; have c9 : w2.cell? ⟨w1.heap.size, 9, none⟩ = some (.int .i64 tl) := Lib.cell_of_heap hA2.row 9; have z8 : w2.frozen? ⟨w1.heap.size, 8, none⟩ = false := Lib.frozen_of_heap hA2.row 8; have z9 : w2.frozen? ⟨w1.heap.size, 9, none⟩ = false := Lib.frozen_of_heap hA2.row 9; have hA3 : BlockAt b n (nt + 1) nl L M w wr w1 (.slice (some ⟨g2, 0, none⟩) (nt + 1) cap2) (.slice (some ⟨gl, 0, none⟩) nl cl) u9 css #[.int .i64 ki, .string t, .string ti, .int .i64 nu, .string ch, .bool lb, .slice none 0 0, ks, .int .i64 ((nt : Int) + 1 + 1), .int .i64 ((nt : Int) + 1 + (nl : Int))] ((w2.setCell ⟨w1.heap.size, 8, none⟩ (.int .i64 ((nt : Int) + 1 + 1))).setCell ⟨w1.heap.size, 9, none⟩ (.int .i64 ((nt : Int) + 1 + (nl : Int)))) := (hA2.set hbl 8 _ (HQ.out _ _)).set hbl 9 _ (HQ.out _ _); clear hA2; have HA3 := Lib.hid hA3; obtain ⟨ss1, hss1, hss2, hss3⟩ := hA3.texts; have HSS := Lib.hid hss2; have HO := Lib.hid hss3; obtain ⟨ls, hll, hls, hrl⟩ := hA3.lines hl0; have HLS := Lib.hid hls; have HRL := Lib.hid hrl; have hsz3 := hA3.size; clear hA3 hss2 hss3 hls hrl)
          | (refine wpList_store_new rfl 27 10 _ _ rfl HI10.out _ #[.int .i64 ki, .string t, .string ti, .int .i64 nu, .string ch, .bool lb, .slice none 0 0, ks, .int .i64 fr, .int .i64 tl] rfl rfl rfl rfl (HONE.out _ _) ?_)
          | (refine wpList_load_mid rfl 27 _ rfl w1.heap.size 0 rfl [.int .i64 ki, .string t, .string ti, .int .i64 nu, .string ch, .bool lb, .slice none 0 0, ks, .int .i64 ((nt : Int) + 1 + 1), .int .i64 ((nt : Int) + 1 + (nl : Int))] _ (range_whole HRW.out) Tryz.underlying27 rfl HI10.out ?_)
          | (go_at_call 13; refine (HBK.out _ _ HB.out.bld).mono ?_; rintro e w1 ⟨nl, lv, cs, rfl, hlt, hl0, hlN, hq, hb1, hg1⟩; obtain ⟨ki, t, ti, nu, ch, lb, ks, fr, tl, rfl, hks, hqq⟩ := hq.form; obtain ⟨gl, cl, _, rfl, _, _, hgl1, hgl2, _⟩ := texts_row hlt hl0; have hA1 : BlockAt b n nt nl L M w wr w1 (.slice ao nt c) (.slice (some ⟨gl, 0, none⟩) nl cl) u9 css #[.int .i64 ki, .string t, .string ti, .int .i64 nu, .string ch, .bool lb, .slice none 0 0, ks, .int .i64 fr, .int .i64 tl] (w1.alloc (.cells #[.int .i64 ki, .string t, .string ti, .int .i64 nu, .string ch, .bool lb, .slice none 0 0, ks, .int .i64 fr, .int .i64 tl] 27)) := BlockAt.start HB.out hb1 hg1 hlt (hqq _ _); have HQ : Hid (∀ fr tl : Int, BlkP M wr.heap.size w1.heap.size #[.int .i64 ki, .string t, .string ti, .int .i64 nu, .string ch, .bool lb, .slice none 0 0, ks, .int .i64 fr, .int .i64 tl] w1) := Lib.hid hqq; have hone : ∀ fr tl : Int, (#[.int .i64 ki, .string t, .string ti, .int .i64 nu, .string ch, .bool lb, .slice none 0 0, ks, .int .i64 fr, .int .i64 tl] : Array Value).all (·.oneCell') = true := (fun fr tl => spcG_one ki t ti nu ch lb hks fr tl); have HONE := Lib.hid hone; have hw1 := hA1.grown.size; have hwr := hA1.low; have hwm := hA1.mid; simp at hw1; clear hlt hq hb1 hg1 hqq hone hks; have HA1 := Lib.hid hA1; obtain ⟨ss0, hss1, hss2, hss3⟩ := hA1.texts; have HSS0 := Lib.hid hss2; have HO0 := Lib.hid hss3; have hsz0 := hA1.size; clear hA1 hss2 hss3))
        go_roundg (1 + m - (k + 1))
        case measure => omega
        case rel =>
          rw [hcl] at hown5
          exact ⟨k + 1, (nt + 1) + nl, _, _, css ++ [#[.int .i64 ki, .string t, .string ti, .int .i64 nu, .string ch, .bool lb, .slice none 0 0, ks, .int .i64 ((nt : Int) + 1 + 1), .int .i64 ((nt : Int) + 1 + (nl : Int))]], by omega, by go_num, rfl, Lib.hid (HA4.out.done hbl hown5 (by omega) rfl hgrow5 hat5), by simp [hcl], by rw [Nat.succ_mul]; omega, by omega⟩
    · have hkm : k = 1 + m := by omega
      subst hkm
      have hmost : (1 + m) * (N + 1) ≤ most * (N + 1) := Nat.mul_le_mul_right _ (by omega)
      go_wp2_with (fail)
      exact bodyPost_ret (v := .tuple #[.slice ao nt c, u9]) (by simp [results, go_sem]) rfl ⟨nt, _, _, css, rfl, HB.out.texts, hnt0 (by omega), by omega, HB.out.nodes, by omega, by omega, HB.out.bld, HB.out.grown⟩
end Go.Proofs.YtnocllocnoodnaaGreatDoor
