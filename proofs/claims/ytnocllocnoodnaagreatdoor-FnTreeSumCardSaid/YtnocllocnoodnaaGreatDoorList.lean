/- The builder's list. -/
import Derived.Test.YtnocllocnoodnaaGreatDoorListStage
namespace Go.Proofs.YtnocllocnoodnaaGreatDoor
open Go.RowKit
set_option linter.unusedSimpArgs false
theorem Bld.flatcell {b n : Nat} {w : World} (h : Bld b n w) : w.cell? ⟨b, 3, none⟩ = some (.bool false) := by
  obtain ⟨v, t, sz, dp, hb, _⟩ := h
  rw [Lib.cell_of_heap hb]; rfl
theorem ItP.more {M M' lo hi : Nat} {cs : Array Value} {w : World} (h : ItP M lo hi cs w) (hM : M ≤ M') : ItP M' lo hi cs w := by
  obtain ⟨T, h2, h3⟩ := h
  exact ⟨T, fun tg => Nat.le_trans (h2 tg) hM, h3⟩
theorem item_one {M B lo hi : Nat} {w : World} {cs : Array Value} (hcs : cs.size = 10) (hq : BlkP M lo hi cs w) (hB : B ≤ lo) (hlo : lo ≤ w.heap.size) (hhi : hi ≤ w.heap.size) : Nodes (BlkP M) Array.toList B [cs] (.slice (some ⟨w.heap.size, 0, none⟩) 1 1) (w.alloc (.cells cs 27)) := by
  refine ⟨⟨by simp [hcs], .inr ⟨w.heap.size, 1, cs, rfl, by omega, heap_alloc_new w _, Nat.le_refl _, by unfold maxLen; omega, by omega, ?_⟩⟩, ?_⟩
  · have hl : cs.toList.length = 10 := by simpa using hcs
    simp [List.take_of_length_le, hl]
  · intro c hc
    rw [List.mem_singleton] at hc
    subst hc
    exact ⟨lo, hi, hB, by simp; omega, (blk_say M).keep _ _ _ _ _ hq (fun k _ _ hk => heap_alloc_old w _ hk.lt) (by simp), fun g hg => (by have hgg : g = w.heap.size := (by simpa [Value.ownBlock] using hg.symm); omega)⟩
section
variable {b n nt nl L LL M MI : Nat} {w w0 w1 wx : World} {nu : Int} {c0 : UInt8} {lb : Bool} {tv lv ks : Value} {css : List (Array Value)} {kv : Value} {fr tl : Int}
theorem ListAt.start (h : Bld b n w) (c0 : UInt8) : ListAt b n 0 L M w (-1) c0 false (.slice none 0 0) (.slice none 0 0) [] ((w.alloc (.cells (spcG 0 ⟨#[]⟩ ⟨#[]⟩ 0 ⟨#[]⟩ false (.slice none 0 0) 0 0) 27)).alloc (.cells (spcG 3 ⟨#[]⟩ ⟨#[]⟩ (-1) ⟨#[c0]⟩ false (.slice none 0 0) 0 0) 27)) :=
  ⟨(two_allocs w _ _).1, (two_allocs w _ _).2, by simp, Nodes.nil _ _ _ _, Texts.nil _ _ _, (h.alloc _).alloc _, grown_alloc (grown_alloc (World.grownBy.refl w (some b)) _) _⟩
theorem ListAt.store (h : ListAt b n nt L M w nu c0 lb tv ks css wx) (hbl : b < w.heap.size) (i : Nat) (v : Value) {nu' : Int} {c0' : UInt8} {lb' : Bool} (he : (spcG 3 ⟨#[]⟩ ⟨#[]⟩ nu ⟨#[c0]⟩ lb ks 0 0).setIfInBounds i v = spcG 3 ⟨#[]⟩ ⟨#[]⟩ nu' ⟨#[c0']⟩ lb' ks 0 0) : ListAt b n nt L M w nu' c0' lb' tv ks css (wx.setCell ⟨w.heap.size + 1, i, none⟩ v) := by
  have hs := h.size
  have hr := heap_setCell_same wx (w.heap.size + 1) i _ _ v h.row
  rw [he] at hr
  exact ⟨(heap_setCell_other wx _ _ _ (by show w.heap.size ≠ w.heap.size + 1; omega)).trans h.ret, hr, by simpa using hs, nodes_cell (it_say M) h.nodes (by show w.heap.size + 1 < _; omega) _, texts_cell h.texts (by show w.heap.size + 1 < _; omega) _, bld_cell h.bld (by show b < w.heap.size + 1; omega) _, grown_cell h.grown (by show w.heap.size ≤ w.heap.size + 1; omega) _⟩
/-- the item's making: what it is made of has come, and is stored -/
theorem ItemAt.start (h : ListAt b n nt L M w nu c0 lb tv ks css w0) (hbl : b < w.heap.size) (hb : Bld b n w1) (hg : (w0.alloc (.cells (spcG 4 ⟨#[]⟩ ⟨#[]⟩ 0 ⟨#[]⟩ false (.slice none 0 0) 0 0) 27)).grownBy w1 (some b)) (hl : Texts (w0.heap.size + 1) nl LL lv w1)
    (hi : ∀ fr tl : Int, ItP MI (w0.heap.size + 1) w1.heap.size (spcG 4 ⟨#[]⟩ ⟨#[]⟩ 0 ⟨#[]⟩ false kv fr tl) w1) : ItemAt b n nt nl L LL M MI w w0 w1 nu c0 lb tv lv ks css kv 0 0 (w1.setCell ⟨w0.heap.size, 7, none⟩ kv) := by
  have hs := h.size
  have hz := hg.size
  simp at hz
  have hgw : w0.grownBy w1 (some b) := grown_trans (grown_alloc (World.grownBy.refl w0 (some b)) _) hg
  have h1 := h.call hbl hb hgw
  have hrow : w1.heap[w0.heap.size]? = some (.cells (spcG 4 ⟨#[]⟩ ⟨#[]⟩ 0 ⟨#[]⟩ false (.slice none 0 0) 0 0) 27) := (hg.block _ (by simp) (by simp; omega)).trans (heap_alloc_new w0 _)
  have hoth : ∀ k, k ≠ w0.heap.size → (w1.setCell ⟨w0.heap.size, 7, none⟩ kv).heap[k]? = w1.heap[k]? := fun k hk => heap_setCell_other _ _ k _ hk
  have hsS : SameAll 9 0 w1 (w1.setCell ⟨w0.heap.size, 7, none⟩ kv) := fun k _ hk => hoth k (fun e => absurd ((e ▸ hk).one ⟨_, _, hrow⟩) (by decide))
  exact ⟨Same.cell (p := ⟨w0.heap.size, 7, none⟩) (Same.grownT (f := 38) (Same.refl 27 (w.heap.size + 2) w0.heap.size w0) hgw (fun g hg => by cases hg; exact h.bld.typed) (by decide)) (Nat.le_refl _) kv, h.nodes, fun k k1 k2 _ => hoth k (by omega), hi, heap_setCell_same w1 _ 7 _ _ _ hrow, (hoth _ (by omega)).trans h1.ret, (hoth _ (by omega)).trans h1.row, hs, hz, by simp, h1.texts.keep (hsS.less (Nat.zero_le _)), hl.keep (hsS.less (Nat.zero_le _)), fun g hg => .inl (h.texts.own hg).2.2, fun g hg => (hl.own hg).2.2, bld_cell hb (by show b < w0.heap.size; omega) _, grown_cell h1.grown (by show w.heap.size ≤ w0.heap.size; omega) _⟩
theorem ItemAt.drew (h : ItemAt b n nt nl L LL M MI w w0 w1 nu c0 lb tv lv ks css kv fr tl wx) : ItemAt b n nt nl L LL M MI w w0 w1 nu c0 lb tv lv ks css kv fr tl wx.drew :=
  ⟨h.same0, h.nodes, h.same1, h.it, h.item, h.ret, h.row, h.low, h.mid, h.size, h.texts.keep (w' := wx.drew) (SameAll.refl _ _ _), h.line.keep (w' := wx.drew) (SameAll.refl _ _ _), h.apart, h.inner, h.bld.drew, grown_drew h.grown⟩
/-- behind what has kept all that was there -/
theorem ItemAt.below {w3 : World} (h : ItemAt b n nt nl L LL M MI w w0 w1 nu c0 lb tv lv ks css kv fr tl wx) (hb : Below wx.heap.size wx w3) : ItemAt b n nt nl L LL M MI w w0 w1 nu c0 lb tv lv ks css kv fr tl w3 := by
  have h1 := h.low
  have h2 := h.mid
  have h3 := h.size
  have hk : ∀ k (o : Obj), wx.heap[k]? = some o → w3.heap[k]? = some o := fun k o ho => (hb.block k (Array.getElem?_eq_some_iff.1 ho).1).trans ho
  have hty : ∀ {e : TypeId} {k : Nat}, Typed e k wx → w3.heap[k]? = wx.heap[k]? := fun ht => hb.block _ ht.lt
  have hsm : ∀ e lo, SameAll e lo wx w3 := fun e lo k _ ht => hty ht
  exact ⟨fun k k1 k2 k3 => (hb.block k (by omega)).trans (h.same0 k k1 k2 k3), h.nodes, fun k k1 k2 k3 => (hb.block k (by omega)).trans (h.same1 k k1 k2 k3), h.it, hk _ _ h.item, hk _ _ h.ret, hk _ _ h.row, h1, h2, Nat.le_trans h3 hb.size, h.texts.keep (hsm _ _), h.line.keep (hsm _ _), h.apart, h.inner, h.bld.keep fun q hq => hb.block q (by have := h.bld.typed.lt; omega), grown_own h.grown (o := none) ⟨hb.os, hb.tape, hb.output, hb.size, fun q hq _ => hb.block q hq⟩ (fun g hg => by cases hg)⟩
theorem ItemAt.ls {gl cl : Nat} (h : ItemAt b n nt nl L LL M MI w w0 w1 nu c0 lb tv (.slice (some ⟨gl, 0, none⟩) nl cl) ks css kv fr tl wx) (h0 : 0 < nl) : ∃ (l0 : ByteArray) (lr : List ByteArray), lr.length + 1 = nl ∧ (∀ s ∈ l0 :: lr, s.size ≤ LL) ∧ RowAt 9 gl ((l0 :: lr).map Value.string) wx ∧ gl < wx.heap.size ∧ nl ≤ cl ∧ w0.heap.size + 1 ≤ gl := by
  obtain ⟨g, c, ss, he, h1, h2, h5, h3, h4⟩ := texts_row h.line h0
  obtain ⟨_, _, he2, hc⟩ := texts_form h.line
  simp only [Value.slice.injEq, Option.some.injEq, Addr.mk.injEq, true_and, and_true] at he he2
  obtain ⟨rfl, rfl⟩ := he
  obtain ⟨_, rfl⟩ := he2
  match ss, h1, h2, h4 with
  | [], h1, _, _ => exact absurd h1 (by simp; omega)
  | l0 :: lr, h1, h2, h4 => exact ⟨l0, lr, by simpa using h1, h2, h4, h3, hc, h5⟩
end
theorem list_done {b n nt N L M MI i k : Nat} {w wr : World} {nu : Int} {c0 : UInt8} {lb : Bool} {tv : Value} {css : List (Array Value)} {kb kc : Nat} (hbl : b < w.heap.size) (h : ListAt b n nt L MI w nu c0 lb tv (.slice (some ⟨kb, 0, none⟩) css.length kc) css wr) (hcl : css.length = k) (hk3 : k ≤ 3) (h0 : 0 < nt) (hN : nt ≤ N) (hnu : nu = -1 ∧ i = 0 ∨ nu = (i : Nat)) (hi : i < 30) (hc : c0.toNat < 128) (hM : 3 * MI + 30 ≤ M) (hk0 : 0 < k) :
    BlockGot b n N L M w (.returned (.tuple #[tv, .agg #[.int .i64 3, .string ⟨#[]⟩, .string ⟨#[]⟩, .int .i64 nu, .string ⟨#[c0]⟩, .bool lb, .slice none 0 0, .slice (some ⟨kb, 0, none⟩) css.length kc, .int .i64 0, .int .i64 0]])) (wr.drew.setRow w.heap.size #[.int .i64 3, .string ⟨#[]⟩, .string ⟨#[]⟩, .int .i64 nu, .string ⟨#[c0]⟩, .bool lb, .slice none 0 0, .slice (some ⟨kb, 0, none⟩) css.length kc, .int .i64 0, .int .i64 0]) := by
  have hs := h.size
  have hn := ((h.nodes.keep (it_say MI) (w' := wr.drew) (SameAll.refl _ _ _) (Nat.le_refl _)).keep (it_say MI) (SameAll.setRow (w := wr.drew) (g := w.heap.size) (cs := #[.int .i64 3, .string ⟨#[]⟩, .string ⟨#[]⟩, .int .i64 nu, .string ⟨#[c0]⟩, .bool lb, .slice none 0 0, .slice (some ⟨kb, 0, none⟩) css.length kc, .int .i64 0, .int .i64 0]) (by omega)) (by simp))
  have hq := blk_list hn (by omega) (by omega) hnu (by omega) hc 0 0 (lb := lb)
  have hmi : css.length * MI ≤ 3 * MI := Nat.mul_le_mul_right _ (by omega)
  exact ⟨nt, tv, _, rfl, ((h.texts.keep (w' := wr.drew) (SameAll.refl _ _ _)).keep (SameAll.setRow (by omega))).low (by omega), h0, hN, ((blk_say _).wide _ _ _ _ _ _ hq (by omega) (Nat.le_refl _)).more (by omega), bld_row h.bld.drew hbl _, grown_row (grown_drew h.grown) (Nat.le_refl _) _⟩
--WALK
set_option maxHeartbeats 40000000 in
set_option maxRecDepth 100000 in
theorem builder_list (b n N L M e NB LB MB NI LL MI : Nat) (odd : Bool) (w : World) (h : Bld b n w) (hNI : 3 ≤ NI) (hNI2 : 2 * (NB + 1) ≤ NI) (hNI3 : NI ≤ 10000) (hN : 3 * (NI + 1) ≤ N) (hLL : 100 ≤ LL) (hLL2 : LB ≤ LL) (hLL3 : LL ≤ 900) (hL : LL + 4 ≤ L) (hMI : 3012 ≤ MI) (hMI2 : 2 * (MB + 1) + 11 ≤ MI) (hM : 3 * MI + 30 ≤ M) (he : e ≤ 100)
    (HBS : ∀ d, e = d + 1 → ∀ w, Bld b n w → Calls Tryz.prog 8 #[.pointer (some ⟨b, 0, none⟩), .int .i64 (d : Nat), .int .i64 2] w (BlocksGot b n NB LB MB 2 w)) :
    Calls Tryz.prog 29 #[.pointer (some ⟨b, 0, none⟩), .int .i64 e, .bool odd] w (BlockGot b n N L M w) := by
  obtain ⟨i0, hi, hz0, hz1, hz2⟩ := info_parts str_info
  obtain ⟨j0, hj, hy0, hy1, hy2⟩ := info_parts node_bytes
  have HN := Lib.hid (fun m w h hm hm2 => builder_next b n m w h hm hm2)
  have HLI := Lib.hid (fun w h => builder_lines b n w h)
  have HBK := Lib.hid (fun d (hd : e = d + 1) (x : Int) (hx : x = (d : Int)) w hw => (show Calls Tryz.prog 8 #[.pointer (some ⟨b, 0, none⟩), .int .i64 x, .int .i64 2] w (BlocksGot b n NB LB MB 2 w) by rw [hx]; exact HBS d hd w hw))
  have HDE := Lib.hid (fun (x : Int) (q : Nat) (hx : x = (q : Int)) (hq : q < 100) w => (show Calls Tryz.prog 38 #[.int .i64 x] w (SizeTold 2 w) by rw [hx]; exact laws_decimal q w hq))
  clear HBS
  have HI10 := Lib.hid spc_info
  have hbl := h.lt
  have HL0 := Lib.hid (fun c => ListAt.start (L := L) (M := MI) h c)
  clear h
  unfold NextMade at HN
  unfold LinesMade at HLI
  unfold BlocksGot at HBK
  unfold SizeTold at HDE
  unfold spcG at HL0 HLI
  go_enter Tryz.func29, Tryz.ntmps29
  go_upto_if 22 with (refine wpList_store_new rfl 27 10 _ _ rfl HI10.out _ #[.int .i64 3, .string ⟨#[]⟩, .string ⟨#[]⟩, .int .i64 (-1), .string ⟨#[45]⟩, .bool false, .slice none 0 0, .slice none 0 0, .int .i64 0, .int .i64 0] rfl rfl rfl rfl (by simp [Value.oneCell']) ?_)
  go_cut [23] from 23 to 23 (fun v wx => ∃ (c0 : UInt8), c0.toNat < 128 ∧ Hid (ListAt b n 0 L MI w (-1) c0 false (.slice none 0 0) (.slice none 0 0) [] wx))
  case first =>
    cases odd
    · go_wp2_with (fail)
      go_meet
      exact ⟨45, by decide, Lib.hid (HL0.out 45)⟩
    · go_wp2_with (fail)
      go_meet
      exact ⟨43, by decide, Lib.hid (HL0.out 43)⟩
  case rest =>
    obtain ⟨c1, hc1, HL⟩ := hcut
    clear HL0
    go_upto_if 26 with (go_at_call 12; refine (HN.out 2 _ HL.out.bld (by decide) (by decide)).mono ?_; rintro e1 w1 ⟨j, hj2, rfl, hb1, hg1⟩; have HL1 := Lib.hid (HL.out.call hbl hb1 hg1); clear hb1 hg1)
    go_cut [28] from 25 to 32 (fun v wx => ∃ (nu : Int) (c0 : UInt8) (i : Nat), (nu = -1 ∧ i = 0 ∨ nu = (i : Nat)) ∧ i < 30 ∧ c0.toNat < 128 ∧ Hid (ListAt b n 0 L MI w nu c0 false (.slice none 0 0) (.slice none 0 0) [] wx))
    case first =>
      by_cases hj1 : (j : Int) = 1
      · cases odd
        · go_wp2_with (go_at_call 12; refine (HN.out 30 _ HL1.out.bld (by decide) (by decide)).mono ?_; rintro e2 w2 ⟨i, hi30, rfl, hb2, hg2⟩; have hL2 := HL1.out.call hbl hb2 hg2; have a3 : w2.cell? ⟨w.heap.size + 1, 3, none⟩ = some (.int .i64 (-1)) := Lib.cell_of_heap hL2.row 3; have a4 : w2.cell? ⟨w.heap.size + 1, 4, none⟩ = some (.string ⟨#[c1]⟩) := Lib.cell_of_heap hL2.row 4; have z3 : w2.frozen? ⟨w.heap.size + 1, 3, none⟩ = false := Lib.frozen_of_heap hL2.row 3; have z4 : w2.frozen? ⟨w.heap.size + 1, 4, none⟩ = false := Lib.frozen_of_heap hL2.row 4; have HL2 := Lib.hid hL2; clear hL2 hb2 hg2)
          go_meet
          exact ⟨(i : Nat), 46, i, .inr rfl, hi30, by decide, Lib.hid ((HL2.out.store hbl 3 (.int .i64 (i : Nat)) (nu' := (i : Nat)) (c0' := c1) (lb' := false) rfl).store hbl 4 (.string ⟨#[46]⟩) (nu' := (i : Nat)) (c0' := 46) (lb' := false) rfl)⟩
        · go_wp2_with (go_at_call 12; refine (HN.out 30 _ HL1.out.bld (by decide) (by decide)).mono ?_; rintro e2 w2 ⟨i, hi30, rfl, hb2, hg2⟩; have hL2 := HL1.out.call hbl hb2 hg2; have a3 : w2.cell? ⟨w.heap.size + 1, 3, none⟩ = some (.int .i64 (-1)) := Lib.cell_of_heap hL2.row 3; have a4 : w2.cell? ⟨w.heap.size + 1, 4, none⟩ = some (.string ⟨#[c1]⟩) := Lib.cell_of_heap hL2.row 4; have z3 : w2.frozen? ⟨w.heap.size + 1, 3, none⟩ = false := Lib.frozen_of_heap hL2.row 3; have z4 : w2.frozen? ⟨w.heap.size + 1, 4, none⟩ = false := Lib.frozen_of_heap hL2.row 4; have HL2 := Lib.hid hL2; clear hL2 hb2 hg2)
          go_meet
          exact ⟨(i : Nat), 41, i, .inr rfl, hi30, by decide, Lib.hid (((HL2.out.store hbl 3 (.int .i64 (i : Nat)) (nu' := (i : Nat)) (c0' := c1) (lb' := false) rfl).store hbl 4 (.string ⟨#[46]⟩) (nu' := (i : Nat)) (c0' := 46) (lb' := false) rfl).store hbl 4 (.string ⟨#[41]⟩) (nu' := (i : Nat)) (c0' := 41) (lb' := false) rfl)⟩
      · go_wp2_with (fail)
        go_meet
        exact ⟨-1, c1, 0, .inl ⟨rfl, rfl⟩, by decide, hc1, HL1⟩
    case rest =>
      obtain ⟨nu, c0, i, hnu, hi30, hc0, HL2⟩ := hcut
      clear HL HL1
      go_upto_region 8 with (fail)
      go_cut [9] from 33 to 49 (fun v wx => ∃ lo : Bool, v = .bool lo ∧ Hid (ListAt b n 0 L MI w nu c0 false (.slice none 0 0) (.slice none 0 0) [] wx))
      case first =>
        go_wp2_with (go_at_call 12; refine (HN.out 2 _ HL2.out.bld (by decide) (by decide)).mono ?_; rintro e3 w3 ⟨j3, hj3, rfl, hb3, hg3⟩; have f3 := hb3.flatcell; have HL3 := Lib.hid (HL2.out.call hbl hb3 hg3); clear hb3 hg3; rcases (by omega : j3 = 0 ∨ j3 = 1) with rfl | rfl)
        · go_meet
          exact ⟨_, rfl, HL3⟩
        · go_meet
          exact ⟨_, rfl, HL3⟩
      case rest =>
        obtain ⟨lo, rfl, HL3⟩ := hcut
        clear HL2
        go_wp2_with (go_at_call 12; refine (HN.out 3 _ HL3.out.bld (by decide) (by decide)).mono ?_; rintro e4 w4 ⟨m, hm3, rfl, hb4, hg4⟩; have HL4 := Lib.hid (HL3.out.call hbl hb4 hg4); clear hb4 hg4)
        go_loopg [10, 53] (1 + m) (fun gg tv ii wx => ∃ (k nt : Nat) (ao : Option Addr) (c : Nat) (lb : Bool) (ks : Value) (css : List (Array Value)), k + gg = 1 + m ∧ ii = .int .i64 k ∧ tv = .slice ao nt c ∧ Hid (ListAt b n nt L MI w nu c0 lb (.slice ao nt c) ks css wx) ∧ css.length = k ∧ nt ≤ k * (NI + 1) ∧ (0 < k → 0 < nt))
        case atStart => exact ⟨0, 0, none, 0, false, _, [], by omega, rfl, rfl, HL4, rfl, by omega, by omega⟩
        case round =>
          obtain ⟨k, nt, ao, c, lb, ks, css, hk, rfl, rfl, HLk, hcl, hnt, hnt0⟩ := hrel
          clear HL4 HL3
          have hk3 : k ≤ 3 := by omega
          have hcl3 : css.length ≤ 3 := by omega
          have hcl0 : k = 1 + m → 0 < css.length := by omega
          have HCL := Lib.hid hcl
          clear hcl
          have hkN : k * (NI + 1) ≤ 3 * (NI + 1) := Nat.mul_le_mul_right _ hk3
          by_cases hlt : k < 1 + m
          · go_upto_region 15 with (refine wpList_store_new rfl 27 10 _ _ rfl HI10.out _ #[.int .i64 4, .string ⟨#[]⟩, .string ⟨#[]⟩, .int .i64 0, .string ⟨#[]⟩, .bool false, .slice none 0 0, .slice none 0 0, .int .i64 0, .int .i64 0] rfl rfl rfl rfl (by simp [Value.oneCell']) ?_)
            go_cut [61] from 57 to 61 (fun v wx => ∃ bb : Bool, v = .bool bb ∧ (bb = true → 0 < e) ∧ wx = (wr.alloc (.cells #[.int .i64 4, .string ⟨#[]⟩, .string ⟨#[]⟩, .int .i64 0, .string ⟨#[]⟩, .bool false, .slice none 0 0, .slice none 0 0, .int .i64 0, .int .i64 0] 27)))
            case first =>
              cases lo
              · go_wp2_with (fail)
                go_meet
                exact ⟨false, rfl, (fun h => by cases h), rfl⟩
              · go_wp2_with (fail)
                go_meet
                exact ⟨_, rfl, (fun h => by simpa using h), rfl⟩
            case rest =>
              obtain ⟨bb, rfl, hbb, rfl⟩ := hcut
              have HBA : Hid (Bld b n (wr.alloc (.cells #[.int .i64 4, .string ⟨#[]⟩, .string ⟨#[]⟩, .int .i64 0, .string ⟨#[]⟩, .bool false, .slice none 0 0, .slice none 0 0, .int .i64 0, .int .i64 0] 27))) := Lib.hid (HLk.out.bld.alloc _)
              go_upto_if 61 with (fail)
              go_cut [13, 18, 19] from 62 to 141 (fun lv x1 x2 wx => ∃ (gl nl cl : Nat) (lb1 : Bool) (kv : Value) (w1 : World), lv = .slice (some ⟨gl, 0, none⟩) nl cl ∧ 0 < nl ∧ nl ≤ NI ∧ KidsV kv ∧ Hid (ItemAt b n nt nl L LL MI MI w wr w1 nu c0 lb1 (.slice ao nt c) (.slice (some ⟨gl, 0, none⟩) nl cl) ks css kv 0 0 wx))
              case first =>
                cases bb
                · go_wp2_with (first
                    | (refine wpList_store_new rfl 27 10 _ _ rfl HI10.out _ #[.int .i64 6, .string ⟨#[]⟩, .string ⟨#[]⟩, .int .i64 0, .string ⟨#[]⟩, .bool false, .slice none 0 0, (.slice (some ⟨kb, 0, none⟩) cs6.length kc), .int .i64 0, .int .i64 0] rfl rfl rfl rfl HONE6.out ?_)
                    | (go_at_call 28; refine (HLI.out _ HBA.out).mono ?_; rintro e2 w2 ⟨nl, lv, _, cs6, rfl, ht, hnl0, hnl3, hn, hc0, hc20, htot, hb2, hg2⟩; obtain ⟨gl, cl, _, rfl, _, _, hgl1, hgl2, _⟩ := texts_row ht hnl0; obtain ⟨kb, kc, rfl, _, _⟩ := hn.1.form hc0; have HONE6 : Hid ((#[.int .i64 6, .string ⟨#[]⟩, .string ⟨#[]⟩, .int .i64 0, .string ⟨#[]⟩, .bool false, .slice none 0 0, (.slice (some ⟨kb, 0, none⟩) cs6.length kc), .int .i64 0, .int .i64 0] : Array Value).all (·.oneCell') = true) := Lib.hid (by simp [Value.oneCell']); have HP8 : Hid ((w2.alloc (.cells #[.int .i64 6, .string ⟨#[]⟩, .string ⟨#[]⟩, .int .i64 0, .string ⟨#[]⟩, .bool false, .slice none 0 0, (.slice (some ⟨kb, 0, none⟩) cs6.length kc), .int .i64 0, .int .i64 0] 27)).heap[w2.heap.size]? = some (.cells #[.int .i64 6, .string ⟨#[]⟩, .string ⟨#[]⟩, .int .i64 0, .string ⟨#[]⟩, .bool false, .slice none 0 0, (.slice (some ⟨kb, 0, none⟩) cs6.length kc), .int .i64 0, .int .i64 0] 27)) := Lib.hid (heap_alloc_new w2 _); have k8 : (w2.alloc (.cells #[.int .i64 6, .string ⟨#[]⟩, .string ⟨#[]⟩, .int .i64 0, .string ⟨#[]⟩, .bool false, .slice none 0 0, (.slice (some ⟨kb, 0, none⟩) cs6.length kc), .int .i64 0, .int .i64 0] 27)).cell? ⟨w2.heap.size, 8, none⟩ = some (.int .i64 0) := Lib.cell_of_heap HP8.out 8; have k9 : (w2.alloc (.cells #[.int .i64 6, .string ⟨#[]⟩, .string ⟨#[]⟩, .int .i64 0, .string ⟨#[]⟩, .bool false, .slice none 0 0, (.slice (some ⟨kb, 0, none⟩) cs6.length kc), .int .i64 0, .int .i64 0] 27)).cell? ⟨w2.heap.size, 9, none⟩ = some (.int .i64 0) := Lib.cell_of_heap HP8.out 9; have z8 : (w2.alloc (.cells #[.int .i64 6, .string ⟨#[]⟩, .string ⟨#[]⟩, .int .i64 0, .string ⟨#[]⟩, .bool false, .slice none 0 0, (.slice (some ⟨kb, 0, none⟩) cs6.length kc), .int .i64 0, .int .i64 0] 27)).frozen? ⟨w2.heap.size, 8, none⟩ = false := Lib.frozen_of_heap HP8.out 8; have z9 : (w2.alloc (.cells #[.int .i64 6, .string ⟨#[]⟩, .string ⟨#[]⟩, .int .i64 0, .string ⟨#[]⟩, .bool false, .slice none 0 0, (.slice (some ⟨kb, 0, none⟩) cs6.length kc), .int .i64 0, .int .i64 0] 27)).frozen? ⟨w2.heap.size, 9, none⟩ = false := Lib.frozen_of_heap HP8.out 9; have HT := Lib.hid ht; have HNS := Lib.hid hn; have HB2 := Lib.hid hb2; have HG2 := Lib.hid hg2; have hs2 := hg2.size; simp at hs2; clear ht hn hb2 hg2))
                  have hAz : (wr.alloc (.cells #[.int .i64 4, .string ⟨#[]⟩, .string ⟨#[]⟩, .int .i64 0, .string ⟨#[]⟩, .bool false, .slice none 0 0, .slice none 0 0, .int .i64 0, .int .i64 0] 27)).heap.size = wr.heap.size + 1 := by simp
                  have hbT : b < w2.heap.size := by have := HLk.out.bld.typed.lt; omega
                  have hq := blk_para HNS.out hc0 hc20 htot 1 (nl : Int)
                  rw [hAz] at hq
                  have hBS : Bld b n (w2.alloc (.cells #[.int .i64 6, .string ⟨#[]⟩, .string ⟨#[]⟩, .int .i64 0, .string ⟨#[]⟩, .bool false, .slice none 0 0, (.slice (some ⟨kb, 0, none⟩) cs6.length kc), .int .i64 1, .int .i64 (nl : Int)] 27)) := HB2.out.alloc _
                  have hGS : (wr.alloc (.cells #[.int .i64 4, .string ⟨#[]⟩, .string ⟨#[]⟩, .int .i64 0, .string ⟨#[]⟩, .bool false, .slice none 0 0, .slice none 0 0, .int .i64 0, .int .i64 0] 27)).grownBy (w2.alloc (.cells #[.int .i64 6, .string ⟨#[]⟩, .string ⟨#[]⟩, .int .i64 0, .string ⟨#[]⟩, .bool false, .slice none 0 0, (.slice (some ⟨kb, 0, none⟩) cs6.length kc), .int .i64 1, .int .i64 (nl : Int)] 27)) (some b) := grown_alloc HG2.out _
                  have hTS : Texts (wr.heap.size + 1) nl LL (.slice (some ⟨gl, 0, none⟩) nl cl) (w2.alloc (.cells #[.int .i64 6, .string ⟨#[]⟩, .string ⟨#[]⟩, .int .i64 0, .string ⟨#[]⟩, .bool false, .slice none 0 0, (.slice (some ⟨kb, 0, none⟩) cs6.length kc), .int .i64 1, .int .i64 (nl : Int)] 27)) := texts_alloc ((HT.out.low (by omega)).more hLL) _
                  have hQS := (blk_say 3000).keep _ _ _ _ (w2.alloc (.cells #[.int .i64 6, .string ⟨#[]⟩, .string ⟨#[]⟩, .int .i64 0, .string ⟨#[]⟩, .bool false, .slice none 0 0, (.slice (some ⟨kb, 0, none⟩) cs6.length kc), .int .i64 1, .int .i64 (nl : Int)] 27)) hq (fun k _ _ hk => heap_alloc_old w2 _ hk.lt) (by simp)
                  have hWS : (w2.alloc (.cells #[.int .i64 6, .string ⟨#[]⟩, .string ⟨#[]⟩, .int .i64 0, .string ⟨#[]⟩, .bool false, .slice none 0 0, (.slice (some ⟨kb, 0, none⟩) cs6.length kc), .int .i64 1, .int .i64 (nl : Int)] 27)).heap[w2.heap.size]? = some (.cells #[.int .i64 6, .string ⟨#[]⟩, .string ⟨#[]⟩, .int .i64 0, .string ⟨#[]⟩, .bool false, .slice none 0 0, (.slice (some ⟨kb, 0, none⟩) cs6.length kc), .int .i64 1, .int .i64 (nl : Int)] 27) := heap_alloc_new w2 _
                  have hzs : w2.heap.size + 1 ≤ (w2.alloc (.cells #[.int .i64 6, .string ⟨#[]⟩, .string ⟨#[]⟩, .int .i64 0, .string ⟨#[]⟩, .bool false, .slice none 0 0, (.slice (some ⟨kb, 0, none⟩) cs6.length kc), .int .i64 1, .int .i64 (nl : Int)] 27)).heap.size := by simp
                  generalize w2.alloc (.cells #[.int .i64 6, .string ⟨#[]⟩, .string ⟨#[]⟩, .int .i64 0, .string ⟨#[]⟩, .bool false, .slice none 0 0, (.slice (some ⟨kb, 0, none⟩) cs6.length kc), .int .i64 1, .int .i64 (nl : Int)] 27) = ws at *
                  clear k8 k9 z8 z9 hq HP8 HONE6 HT HNS HB2 HG2
                  have HBS := Lib.hid hBS
                  have HGS := Lib.hid hGS
                  have HTS := Lib.hid hTS
                  have HQS : Hid (BlkP 3000 (wr.heap.size + 1) w2.heap.size #[.int .i64 6, .string ⟨#[]⟩, .string ⟨#[]⟩, .int .i64 0, .string ⟨#[]⟩, .bool false, .slice none 0 0, (.slice (some ⟨kb, 0, none⟩) cs6.length kc), .int .i64 1, .int .i64 (nl : Int)] ws) := Lib.hid hQS
                  have hIR : ws.heap[wr.heap.size]? = some (.cells #[.int .i64 4, .string ⟨#[]⟩, .string ⟨#[]⟩, .int .i64 0, .string ⟨#[]⟩, .bool false, .slice none 0 0, .slice none 0 0, .int .i64 0, .int .i64 0] 27) := (hGS.block _ (by simp) (by have := HLk.out.bld.typed.lt; simp; omega)).trans (heap_alloc_new wr _)
                  have HIR := Lib.hid hIR
                  have HONE : Hid ((#[.int .i64 6, .string ⟨#[]⟩, .string ⟨#[]⟩, .int .i64 0, .string ⟨#[]⟩, .bool false, .slice none 0 0, (.slice (some ⟨kb, 0, none⟩) cs6.length kc), .int .i64 1, .int .i64 (nl : Int)] : Array Value).all (·.oneCell') = true) := Lib.hid (by simp [Value.oneCell'])
                  have hS : ws.drew.rangeAt w2.heap.size 0 [.int .i64 6, .string ⟨#[]⟩, .string ⟨#[]⟩, .int .i64 0, .string ⟨#[]⟩, .bool false, .slice none 0 0, (.slice (some ⟨kb, 0, none⟩) cs6.length kc), .int .i64 1, .int .i64 (nl : Int)] := range_whole (w := ws.drew) hWS
                  clear hBS hGS hTS hQS hWS hIR
                  refine wp_region_B (fun wq => wq.rangeAt w2.heap.size 0 [.int .i64 6, .string ⟨#[]⟩, .string ⟨#[]⟩, .int .i64 0, .string ⟨#[]⟩, .bool false, .slice none 0 0, (.slice (some ⟨kb, 0, none⟩) cs6.length kc), .int .i64 1, .int .i64 (nl : Int)]) 5 (by kernel_rfl) ?_
                  refine wpAnyB_take (i := 0) (.slice (some ⟨gl, 0, none⟩) nl cl) rfl (by kernel_rfl) (by kernel_rfl) (by kernel_rfl) (by kernel_rfl) rfl (fun _ _ _ h => h) hS (yields_in (by kernel_rfl) (fun wq hSw => by go_simp)) ?_
                  simp only [Act.put, List.setIfInBounds_toArray, List.set_cons_zero, List.set_cons_succ]
                  refine wpAnyB_take (i := 1) (.agg #[.int .i64 6, .string ⟨#[]⟩, .string ⟨#[]⟩, .int .i64 0, .string ⟨#[]⟩, .bool false, .slice none 0 0, (.slice (some ⟨kb, 0, none⟩) cs6.length kc), .int .i64 1, .int .i64 (nl : Int)]) rfl (by kernel_rfl) (by kernel_rfl) (by kernel_rfl) (by kernel_rfl) rfl (fun _ _ _ h => h) hS (yieldsIf_load_mid (by kernel_rfl) 27 _ rfl w2.heap.size 0 rfl [.int .i64 6, .string ⟨#[]⟩, .string ⟨#[]⟩, .int .i64 0, .string ⟨#[]⟩, .bool false, .slice none 0 0, (.slice (some ⟨kb, 0, none⟩) cs6.length kc), .int .i64 1, .int .i64 (nl : Int)] _ (fun wq h => h) Tryz.underlying27 rfl HI10.out) ?_
                  simp only [Act.put, List.setIfInBounds_toArray, List.set_cons_zero, List.set_cons_succ]
                  refine wpAnyB_take (i := 3) (.slice (some ⟨gl, 0, none⟩) nl cl) rfl (by kernel_rfl) (by kernel_rfl) (by kernel_rfl) (by kernel_rfl) rfl (fun _ _ _ h => h) hS (yields_in (by kernel_rfl) (fun wq hSw => by go_simp)) ?_
                  simp only [Act.put, List.setIfInBounds_toArray, List.set_cons_zero, List.set_cons_succ]
                  refine wpAnyB_one (i := 2) rfl (by kernel_rfl) (by kernel_rfl) (fun K hK => ?_)
                  go_simp
                  have hS2 : (ws.alloc (.cells #[.int .i64 6, .string ⟨#[]⟩, .string ⟨#[]⟩, .int .i64 0, .string ⟨#[]⟩, .bool false, .slice none 0 0, (.slice (some ⟨kb, 0, none⟩) cs6.length kc), .int .i64 1, .int .i64 (nl : Int)] 27)).drew.rangeAt w2.heap.size 0 [.int .i64 6, .string ⟨#[]⟩, .string ⟨#[]⟩, .int .i64 0, .string ⟨#[]⟩, .bool false, .slice none 0 0, (.slice (some ⟨kb, 0, none⟩) cs6.length kc), .int .i64 1, .int .i64 (nl : Int)] := fun j v hv => (World.cell?_of_block (heap_alloc_old ws _ (by show w2.heap.size < _; omega))).trans (hS j v hv)
                  refine hK.out _ _ ⟨fun _ => hS2, ?_⟩
                  clear hK K
                  try simp only [Act.put, List.setIfInBounds_toArray, List.set_cons_zero, List.set_cons_succ]
                  refine wpAnyB_one (i := 4) rfl (by kernel_rfl) (by kernel_rfl) (fun K hK => ?_)
                  go_simp
                  refine hK.out _ _ ⟨fun _ => hS2, ?_⟩
                  clear hK K
                  try simp only [Act.put, List.setIfInBounds_toArray, List.set_cons_zero, List.set_cons_succ]
                  have n7 : (ws.alloc (.cells #[.int .i64 6, .string ⟨#[]⟩, .string ⟨#[]⟩, .int .i64 0, .string ⟨#[]⟩, .bool false, .slice none 0 0, (.slice (some ⟨kb, 0, none⟩) cs6.length kc), .int .i64 1, .int .i64 (nl : Int)] 27)).drew.cell? ⟨wr.heap.size, 7, none⟩ = some (.slice none 0 0) := Lib.cell_of_heap (w := (ws.alloc (.cells #[.int .i64 6, .string ⟨#[]⟩, .string ⟨#[]⟩, .int .i64 0, .string ⟨#[]⟩, .bool false, .slice none 0 0, (.slice (some ⟨kb, 0, none⟩) cs6.length kc), .int .i64 1, .int .i64 (nl : Int)] 27)).drew) ((heap_alloc_old ws _ (by omega)).trans HIR.out) 7
                  have y7 : (ws.alloc (.cells #[.int .i64 6, .string ⟨#[]⟩, .string ⟨#[]⟩, .int .i64 0, .string ⟨#[]⟩, .bool false, .slice none 0 0, (.slice (some ⟨kb, 0, none⟩) cs6.length kc), .int .i64 1, .int .i64 (nl : Int)] 27)).drew.frozen? ⟨wr.heap.size, 7, none⟩ = false := Lib.frozen_of_heap (w := (ws.alloc (.cells #[.int .i64 6, .string ⟨#[]⟩, .string ⟨#[]⟩, .int .i64 0, .string ⟨#[]⟩, .bool false, .slice none 0 0, (.slice (some ⟨kb, 0, none⟩) cs6.length kc), .int .i64 1, .int .i64 (nl : Int)] 27)).drew) ((heap_alloc_old ws _ (by omega)).trans HIR.out) 7
                  refine wpAnyB_one (i := 5) rfl (by kernel_rfl) (by kernel_rfl) (fun K hK => ?_)
                  go_simp
                  refine hK.out _ _ ⟨fun h => absurd rfl h, ?_⟩
                  clear hK K
                  refine wpAnyB_done (by kernel_rfl) ?_ _
                  try simp only [Act.put, List.setIfInBounds_toArray, List.set_cons_zero, List.set_cons_succ]
                  go_wp2_with (fail)
                  go_meet
                  exact ⟨gl, nl, cl, lb, _, (ws.alloc (.cells #[.int .i64 6, .string ⟨#[]⟩, .string ⟨#[]⟩, .int .i64 0, .string ⟨#[]⟩, .bool false, .slice none 0 0, (.slice (some ⟨kb, 0, none⟩) cs6.length kc), .int .i64 1, .int .i64 (nl : Int)] 27)).drew, rfl, hnl0, by omega, .inr ⟨_, _, _, rfl⟩, Lib.hid (ItemAt.start HLk.out hbl (HBS.out.alloc _).drew (grown_drew (grown_alloc HGS.out _)) ((texts_alloc HTS.out _).keep (w' := (ws.alloc (.cells #[.int .i64 6, .string ⟨#[]⟩, .string ⟨#[]⟩, .int .i64 0, .string ⟨#[]⟩, .bool false, .slice none 0 0, (.slice (some ⟨kb, 0, none⟩) cs6.length kc), .int .i64 1, .int .i64 (nl : Int)] 27)).drew) (SameAll.refl _ _ _)) (fun fr tl => (it_say MI).keep _ _ _ _ (ws.alloc (.cells #[.int .i64 6, .string ⟨#[]⟩, .string ⟨#[]⟩, .int .i64 0, .string ⟨#[]⟩, .bool false, .slice none 0 0, (.slice (some ⟨kb, 0, none⟩) cs6.length kc), .int .i64 1, .int .i64 (nl : Int)] 27)).drew ((it_item (item_one (M := 3000) (cs := #[.int .i64 6, .string ⟨#[]⟩, .string ⟨#[]⟩, .int .i64 0, .string ⟨#[]⟩, .bool false, .slice none 0 0, (.slice (some ⟨kb, 0, none⟩) cs6.length kc), .int .i64 1, .int .i64 (nl : Int)]) rfl HQS.out (Nat.le_refl _) (by omega) (by omega)) (by simp) (by simp) fr tl).more (by simp; omega)) (fun _ _ _ _ => rfl) (Nat.le_refl _)))⟩
                · obtain ⟨d, rfl⟩ : ∃ d, e = d + 1 := ⟨e - 1, by have := hbb rfl; omega⟩
                  have hAz : (wr.alloc (.cells #[.int .i64 4, .string ⟨#[]⟩, .string ⟨#[]⟩, .int .i64 0, .string ⟨#[]⟩, .bool false, .slice none 0 0, .slice none 0 0, .int .i64 0, .int .i64 0] 27)).heap.size = wr.heap.size + 1 := by simp
                  have f3 : (wr.alloc (.cells #[.int .i64 4, .string ⟨#[]⟩, .string ⟨#[]⟩, .int .i64 0, .string ⟨#[]⟩, .bool false, .slice none 0 0, .slice none 0 0, .int .i64 0, .int .i64 0] 27)).cell? ⟨b, 3, none⟩ = some (.bool false) := HBA.out.flatcell
                  cases lb
                  · go_wp2_with (go_at_call 8; (refine (HBK.out d rfl _ (by omega) _ HBA.out).mono ?_); rintro e2 w2 ⟨nl, lv, kv, css2, rfl, ht, hnl0, hnlN, hn, hc0, hc2, hb2, hg2⟩; obtain ⟨gl, cl, _, rfl, _, _, hgl1, hgl2, _⟩ := texts_row ht hnl0; obtain ⟨kb, kc, rfl, _, _⟩ := hn.1.form hc0; (have hIR : w2.heap[wr.heap.size]? = some (.cells #[.int .i64 4, .string ⟨#[]⟩, .string ⟨#[]⟩, .int .i64 0, .string ⟨#[]⟩, .bool false, .slice none 0 0, .slice none 0 0, .int .i64 0, .int .i64 0] 27) := (hg2.block _ (by simp) (by have := HLk.out.bld.typed.lt; simp; omega)).trans (heap_alloc_new wr _)); have n7 : w2.cell? ⟨wr.heap.size, 7, none⟩ = some (.slice none 0 0) := Lib.cell_of_heap hIR 7; have y7 : w2.frozen? ⟨wr.heap.size, 7, none⟩ = false := Lib.frozen_of_heap hIR 7; (have hI := ItemAt.start (MI := MI) (kv := .slice (some ⟨kb, 0, none⟩) css2.length kc) HLk.out hbl hb2 hg2 ((ht.low (Nat.le_of_eq hAz.symm)).more hLL2) (fun fr tl => (it_item (hn.low (Nat.le_of_eq hAz.symm)) hc0 (by omega) fr tl).more (Nat.le_trans (Nat.add_le_add_right (Nat.mul_le_mul_right _ hc2) _) hMI2))); (have a5 : (w2.setCell ⟨wr.heap.size, 7, none⟩ (.slice (some ⟨kb, 0, none⟩) css2.length kc)).cell? ⟨w.heap.size + 1, 5, none⟩ = some (.bool false) := Lib.cell_of_heap hI.row 5); have z5 : (w2.setCell ⟨wr.heap.size, 7, none⟩ (.slice (some ⟨kb, 0, none⟩) css2.length kc)).frozen? ⟨w.heap.size + 1, 5, none⟩ = false := Lib.frozen_of_heap hI.row 5; have a7 : (w2.setCell ⟨wr.heap.size, 7, none⟩ (.slice (some ⟨kb, 0, none⟩) css2.length kc)).cell? ⟨wr.heap.size, 7, none⟩ = some (.slice (some ⟨kb, 0, none⟩) css2.length kc) := Lib.cell_of_heap hI.item 7; have HI := Lib.hid hI; clear hI hn ht hb2 hg2 hIR)
                    go_meet
                    exact ⟨gl, nl, cl, _, _, w2, rfl, hnl0, by omega, .inr ⟨_, _, _, rfl⟩, Lib.hid (HI.out.loose hbl _)⟩
                  · go_wp2_with (go_at_call 8; (refine (HBK.out d rfl _ (by omega) _ HBA.out).mono ?_); rintro e2 w2 ⟨nl, lv, kv, css2, rfl, ht, hnl0, hnlN, hn, hc0, hc2, hb2, hg2⟩; obtain ⟨gl, cl, _, rfl, _, _, hgl1, hgl2, _⟩ := texts_row ht hnl0; obtain ⟨kb, kc, rfl, _, _⟩ := hn.1.form hc0; (have hIR : w2.heap[wr.heap.size]? = some (.cells #[.int .i64 4, .string ⟨#[]⟩, .string ⟨#[]⟩, .int .i64 0, .string ⟨#[]⟩, .bool false, .slice none 0 0, .slice none 0 0, .int .i64 0, .int .i64 0] 27) := (hg2.block _ (by simp) (by have := HLk.out.bld.typed.lt; simp; omega)).trans (heap_alloc_new wr _)); have n7 : w2.cell? ⟨wr.heap.size, 7, none⟩ = some (.slice none 0 0) := Lib.cell_of_heap hIR 7; have y7 : w2.frozen? ⟨wr.heap.size, 7, none⟩ = false := Lib.frozen_of_heap hIR 7; (have hI := ItemAt.start (MI := MI) (kv := .slice (some ⟨kb, 0, none⟩) css2.length kc) HLk.out hbl hb2 hg2 ((ht.low (Nat.le_of_eq hAz.symm)).more hLL2) (fun fr tl => (it_item (hn.low (Nat.le_of_eq hAz.symm)) hc0 (by omega) fr tl).more (Nat.le_trans (Nat.add_le_add_right (Nat.mul_le_mul_right _ hc2) _) hMI2))); (have a5 : (w2.setCell ⟨wr.heap.size, 7, none⟩ (.slice (some ⟨kb, 0, none⟩) css2.length kc)).cell? ⟨w.heap.size + 1, 5, none⟩ = some (.bool true) := Lib.cell_of_heap hI.row 5); have z5 : (w2.setCell ⟨wr.heap.size, 7, none⟩ (.slice (some ⟨kb, 0, none⟩) css2.length kc)).frozen? ⟨w.heap.size + 1, 5, none⟩ = false := Lib.frozen_of_heap hI.row 5; have a7 : (w2.setCell ⟨wr.heap.size, 7, none⟩ (.slice (some ⟨kb, 0, none⟩) css2.length kc)).cell? ⟨wr.heap.size, 7, none⟩ = some (.slice (some ⟨kb, 0, none⟩) css2.length kc) := Lib.cell_of_heap hI.item 7; have HI := Lib.hid hI; clear hI hn ht hb2 hg2 hIR)
                    go_meet
                    exact ⟨gl, nl, cl, _, _, w2, rfl, hnl0, by omega, .inr ⟨_, _, _, rfl⟩, Lib.hid (HI.out.loose hbl _)⟩
              case rest =>
                obtain ⟨gl, nl, cl, lb1, kv, w1, rfl, hnl0, hnlN, hkv, HI⟩ := hcut
                generalize hwa : wc = wa at *
                have d3 : wa.cell? ⟨w.heap.size + 1, 3, none⟩ = some (.int .i64 nu) := Lib.cell_of_heap HI.out.row 3
                have d4 : wa.cell? ⟨w.heap.size + 1, 4, none⟩ = some (.string ⟨#[c0]⟩) := Lib.cell_of_heap HI.out.row 4
                go_upto_if 147 with (fail)
                go_cut [20] from 148 to 154 (fun v wx => ∃ mk : ByteArray, v = .string mk ∧ mk.size ≤ 4 ∧ wa = wx)
                case first =>
                  have hz1 : (⟨#[c0]⟩ : ByteArray).size = 1 := rfl
                  have hz2 : (⟨#[32]⟩ : ByteArray).size = 1 := rfl
                  rcases hnu with ⟨rfl, rfl⟩ | rfl
                  · go_wp2_with (fail)
                    go_meet
                    exact ⟨_, rfl, by rw [ByteArray.size_append]; omega, rfl⟩
                  · go_wp2_with (go_at_call 38; refine (HDE.out _ (i + k) (by omega) (by omega) _).mono ?_; rintro e5 w5 ⟨r, hr, rfl, rfl⟩)
                    go_meet
                    exact ⟨_, rfl, by rw [ByteArray.size_append, ByteArray.size_append]; omega, rfl⟩
                case rest =>
                  obtain ⟨mk, rfl, hmk, rfl⟩ := hcut
                  go_upto_region 32 with (fail)
                  go_cut [159] from 155 to 159 (fun v wx => ∃ bb : Bool, v = .bool bb ∧ wa = wx)
                  case first =>
                    by_cases hk0 : k = 0
                    · subst hk0
                      go_wp2_with (fail)
                      go_meet
                      exact ⟨false, rfl, rfl⟩
                    · have hk1 : (0 : Int) < (k : Int) := by omega
                      go_wp2_with (fail)
                      go_meet
                      exact ⟨_, rfl, rfl⟩
                  case rest =>
                    obtain ⟨bb2, rfl, rfl⟩ := hcut
                    clear d3 d4
                    go_upto_if 159 with (fail)
                    go_cut [10] from 160 to 163 (fun tv wx => ∃ (ao1 : Option Addr) (nt1 ca1 : Nat) (lb2 : Bool), tv = (.slice ao1 nt1 ca1) ∧ nt ≤ nt1 ∧ nt1 ≤ nt + 1 ∧ Hid (ItemAt b n nt1 nl L LL MI MI w wr w1 nu c0 lb2 (.slice ao1 nt1 ca1) (.slice (some ⟨gl, 0, none⟩) nl cl) ks css kv 0 0 wx))
                    case first =>
                      cases bb2
                      · go_wp2_with (fail)
                        go_meet
                        exact ⟨ao, nt, c, lb1, rfl, Nat.le_refl _, Nat.le_succ _, HI⟩
                      · obtain ⟨ss, hss1, hss2, hss3⟩ := HI.out.texts
                        have HO := Lib.hid hss3
                        have HSS := Lib.hid hss2
                        have hl1 := HI.out.low
                        have hl2 := HI.out.mid
                        have hl3 := HI.out.size
                        clear hss2 hss3
                        go_wp2_with (at_builtin; refine wpList_append_lies _ rfl _ _ 39 rfl (w.heap.size + 2) 9 i0 (.string ⟨#[]⟩) 1 16 Tryz.underlying39 hi hz0 hz1 hz2 rfl (by decide) _ _ _ rfl (HO.out.alloc _) ⟨wa.heap.size, 0, none⟩ 1 _ [.string ⟨#[]⟩] rfl rfl (World.news_of_block (heap_alloc_new wa _)) (fun u hu => by rw [List.mem_singleton.1 hu]; rfl) (by decide) (by unfold maxLen; omega) (by omega) (by simp; omega) (wa.heap.size + 1) (by simp) ?_; intro g4 cap4 w4 hown4 hgrow4 hat4 hlt4; have hI4 := (HI.out.alloc (.cells #[.string ⟨#[]⟩] 9)).more hbl (texts_add hss1 HSS.out (by show 0 ≤ L; omega) hown4 rfl rfl) hgrow4 (fun g hg => by rcases hat4 with h | h; (exact .inl (by rw [← hg]; exact h)); (right; cases hg; simp; omega)); have a5 : w4.cell? ⟨w.heap.size + 1, 5, none⟩ = some (.bool lb1) := Lib.cell_of_heap hI4.row 5; have z5 : w4.frozen? ⟨w.heap.size + 1, 5, none⟩ = false := Lib.frozen_of_heap hI4.row 5; have HI4 := Lib.hid hI4; clear hI4)
                        go_meet
                        exact ⟨_, nt + 1, _, true, rfl, Nat.le_succ _, Nat.le_refl _, Lib.hid (HI4.out.loose hbl true)⟩
                    case rest =>
                      obtain ⟨ao1, nt1, ca1, lb2, rfl, hn1, hn2, HI1⟩ := hcut
                      generalize hwd : wc = wd at *
                      clear HI
                      have i8 : wd.cell? ⟨wr.heap.size, 8, none⟩ = some (.int .i64 0) := Lib.cell_of_heap HI1.out.item 8
                      have i9 : wd.cell? ⟨wr.heap.size, 9, none⟩ = some (.int .i64 0) := Lib.cell_of_heap HI1.out.item 9
                      have f8 : wd.frozen? ⟨wr.heap.size, 8, none⟩ = false := Lib.frozen_of_heap HI1.out.item 8
                      have f9 : wd.frozen? ⟨wr.heap.size, 9, none⟩ = false := Lib.frozen_of_heap HI1.out.item 9
                      have hI2 := HI1.out.lines hbl ((nt1 : Int) + 1) ((nt1 : Int) + (nl : Int))
                      have HI2 := Lib.hid hI2
                      clear hI2
                      go_upto_region 36 with (fail)
                      generalize hWW : (wd.setCell ⟨wr.heap.size, 8, none⟩ (.int .i64 ((nt1 : Int) + 1))).setCell ⟨wr.heap.size, 9, none⟩ (.int .i64 ((nt1 : Int) + (nl : Int))) = we at *
                      clear i8 i9 f8 f9 HI1 hWW
                      obtain ⟨l0, lr, hlr, hll, hrow, hgl, hncl, hglw⟩ := HI2.out.ls hnl0
                      have hgli := HI2.out.inner gl rfl
                      have hcell : we.cell? ⟨gl, 0, none⟩ = some (.string l0) := by have := hrow.cell 0 (by simp); simpa using this
                      have hl0 := hll l0 (by simp)
                      have HROW := Lib.hid hrow
                      have HLLS := Lib.hid hll
                      obtain ⟨ss, hss1, hss2, hss3⟩ := HI2.out.texts
                      have HO := Lib.hid hss3
                      have HSS := Lib.hid hss2
                      have hl1 := HI2.out.low
                      have hl2 := HI2.out.mid
                      have hl3 := HI2.out.size
                      have j1 : (0 : Int) < (nl : Int) := by omega
                      clear hss2 hss3 hrow hll
                      go_upto_region 37 with (at_builtin; refine wpList_append_lies _ rfl _ _ 39 rfl (w.heap.size + 2) 9 i0 (.string ⟨#[]⟩) 1 16 Tryz.underlying39 hi hz0 hz1 hz2 rfl (by decide) _ _ _ rfl (HO.out.alloc _) ⟨we.heap.size, 0, none⟩ 1 _ [.string (mk ++ l0)] rfl rfl (World.news_of_block (heap_alloc_new we _)) (fun u hu => by rw [List.mem_singleton.1 hu]; rfl) (by decide) (by unfold maxLen; omega) (by omega) (by simp; omega) (we.heap.size + 1) (by simp) ?_; intro g4 cap4 w4 hown4 hgrow4 hat4 hlt4; have hH4 := (HI2.out.alloc (.cells #[.string (mk ++ l0)] 9)).more hbl (texts_add hss1 HSS.out (by rw [ByteArray.size_append]; omega) hown4 rfl rfl) hgrow4 (fun g hg => by rcases hat4 with h | h; (exact .inl (by rw [← hg]; exact h)); (right; cases hg; simp; omega)); have HH4 := Lib.hid hH4; have HG4 : Hid (w4.heap[gl]? = we.heap[gl]?) := Lib.hid ((hgrow4.block gl (by simp; omega) (fun hh => by rcases HI2.out.apart gl hh.symm with h | h <;> omega)).trans (heap_alloc_old we _ hgl)); clear hH4 hgrow4 hown4 hat4)
                      clear hcell HI2 HO HSS
                      have hRL : Hid ((∀ s ∈ l0 :: lr, s.size ≤ LL) ∧ RowAt 9 gl ((l0 :: lr).map Value.string) w4) := Lib.hid ⟨HLLS.out, HROW.out.of HG4.out⟩
                      have HPD : Hid (∀ (k : Nat) (w : World), k ≤ 100 → Calls Tryz.prog 37 #[.int .i64 k] w (SizeTold k w)) := Lib.hid (fun k w hk => laws_Pad k w hk)
                      unfold SizeTold at HPD
                      clear HROW HLLS
                      go_cut [10] from 182 to 189 (fun tv wx => ∃ (ao2 : Option Addr) (nt2 ca2 : Nat), tv = .slice ao2 nt2 ca2 ∧ nt2 = nt1 + nl ∧ Hid (ItemAt b n nt2 nl L LL MI MI w wr w1 nu c0 lb2 (.slice ao2 nt2 ca2) (.slice (some ⟨gl, 0, none⟩) nl cl) ks css kv ((nt1 : Int) + 1) ((nt1 : Int) + (nl : Int)) wx))
                      case first =>
                        have j2 : (1 : Int) ≤ (nl : Int) := by omega
                        have j3 : (nl : Int) ≤ (cl : Int) := by omega
                        obtain ⟨off, c5, hoc⟩ : ∃ off c5 : Nat, (cl = 1 ∧ off = 0 ∧ c5 = 0 ∧ nl = 1) ∨ (¬ cl = 1 ∧ off = 1 ∧ c5 = cl - 1) := by
                          by_cases h1 : cl = 1
                          · exact ⟨0, 0, .inl ⟨h1, rfl, rfl, by omega⟩⟩
                          · exact ⟨1, cl - 1, .inr ⟨h1, rfl, rfl⟩⟩
                        refine wp_region_B (fun _ => True) 8 (by kernel_rfl) ?_
                        refine wpAnyB_take (i := 0) (.slice (some ⟨g4, 0, none⟩) (nt1 + 1) cap4) rfl (by kernel_rfl) (by kernel_rfl) (by kernel_rfl) (by kernel_rfl) rfl (fun _ _ _ h => h) trivial (yields_in (by kernel_rfl) (fun wq hSw => by go_simp)) ?_
                        simp only [Act.put, List.setIfInBounds_toArray, List.set_cons_zero, List.set_cons_succ]
                        refine wpAnyB_take (i := 1) (.string mk) rfl (by kernel_rfl) (by kernel_rfl) (by kernel_rfl) (by kernel_rfl) rfl (fun _ _ _ h => h) trivial (yields_in (by kernel_rfl) (fun wq hSw => by go_simp)) ?_
                        simp only [Act.put, List.setIfInBounds_toArray, List.set_cons_zero, List.set_cons_succ]
                        refine wpAnyB_take (i := 2) (.int .i64 (mk.size : Int)) rfl (by kernel_rfl) (by kernel_rfl) (by kernel_rfl) (by kernel_rfl) rfl (fun _ _ _ h => h) trivial (yields_in (by kernel_rfl) (fun wq hSw => by go_simp)) ?_
                        simp only [Act.put, List.setIfInBounds_toArray, List.set_cons_zero, List.set_cons_succ]
                        refine wpAnyB_take (i := 4) (.slice (some ⟨gl, 0, none⟩) nl cl) rfl (by kernel_rfl) (by kernel_rfl) (by kernel_rfl) (by kernel_rfl) rfl (fun _ _ _ h => h) trivial (yields_in (by kernel_rfl) (fun wq hSw => by go_simp)) ?_
                        simp only [Act.put, List.setIfInBounds_toArray, List.set_cons_zero, List.set_cons_succ]
                        refine wpAnyB_take (i := 5) (.slice (some ⟨gl, off, none⟩) (nl - 1) c5) rfl (by kernel_rfl) (by kernel_rfl) (by kernel_rfl) (by kernel_rfl) rfl (fun _ _ _ h => h) trivial (yields_in (by kernel_rfl) (fun wq hSw => by rcases hoc with ⟨rfl, rfl, rfl, rfl⟩ | ⟨h1, rfl, rfl⟩ <;> go_simp)) ?_
                        simp only [Act.put, List.setIfInBounds_toArray, List.set_cons_zero, List.set_cons_succ]
                        refine wpAnyB_one (i := 3) rfl (by kernel_rfl) (by kernel_rfl) (fun K hK => ?_)
                        go_simp
                        go_at_call 37
                        refine (HPD.out _ _ (by omega)).mono ?_
                        rintro e5 w5 ⟨pd, hpd, rfl, rfl⟩
                        refine hK.out _ _ ⟨fun _ => trivial, ?_⟩
                        clear hK K
                        try simp only [Act.put, List.setIfInBounds_toArray, List.set_cons_zero, List.set_cons_succ]
                        refine wpAnyB_one (i := 6) rfl (by kernel_rfl) (by kernel_rfl) (fun K hK => ?_)
                        go_simp
                        go_at_call 39
                        refine (laws_indented pd (l0 :: lr) LL gl off (nl - 1) c5 w4.drew (show RowAt _ _ _ w4.drew from hRL.out.2) hRL.out.1 (by simp; omega) (by omega) (by omega) (by omega)).mono ?_
                        rintro e6 w6 ⟨o, rfl, hto, hto0, hbel⟩
                        have hbel2 : Below w4.heap.size w4 w6 := ⟨hbel.os, hbel.tape, hbel.output, hbel.size, hbel.block⟩
                        have hH6 := HH4.out.below hbel2
                        obtain ⟨ss6, hss61, hss62, hss63⟩ := hH6.texts
                        refine hK.out _ _ ⟨fun _ => trivial, ?_⟩
                        clear hK K
                        try simp only [Act.put, List.setIfInBounds_toArray, List.set_cons_zero, List.set_cons_succ]
                        refine wpAnyB_one (i := 7) rfl (by kernel_rfl) (by kernel_rfl) (fun K hK => ?_)
                        by_cases hone : nl = 1
                        · obtain rfl := hto0 (by omega)
                          have HN1 := Lib.hid hone
                          clear hone
                          have hnc : nt1 + 1 ≤ cap4 := by obtain ⟨_, _, he4, hc4⟩ := texts_form hH6.texts; simp only [Value.slice.injEq] at he4; omega
                          refine wp_append_nothing _ _ rfl _ _ _ hnc rfl rfl ?_
                          refine hK.out _ _ ⟨fun _ => trivial, ?_⟩
                          clear hK K
                          try simp only [Act.put, List.setIfInBounds_toArray, List.set_cons_zero, List.set_cons_succ]
                          refine wpAnyB_one (i := 8) rfl (by kernel_rfl) (by kernel_rfl) (fun K hK => ?_)
                          go_simp
                          refine hK.out _ _ ⟨fun h => absurd rfl h, ?_⟩
                          clear hK K
                          refine wpAnyB_done (by kernel_rfl) ?_ _
                          try simp only [Act.put, List.setIfInBounds_toArray, List.set_cons_zero, List.set_cons_succ]
                          go_wp2_with (fail)
                          go_meet
                          exact ⟨_, _, _, rfl, by have := HN1.out; omega, Lib.hid hH6⟩
                        · obtain ⟨go, co, lo6, rfl, hlo1, hlo2, hgo1, hgo2, hro⟩ := texts_row hto (by omega)
                          refine wp_append_lies _ _ _ 39 rfl (w.heap.size + 2) 9 i0 (.string ⟨#[]⟩) 1 16 Tryz.underlying39 hi hz0 hz1 hz2 rfl (by decide) _ _ _ rfl hss63 ⟨go, 0, none⟩ (nl - 1) _ (lo6.map Value.string) rfl (by simp [hlo1]) (row_news hro) (strs_one lo6) (by omega) (by unfold maxLen; omega) (by omega) (by have := hH6.low; have := hH6.mid; have := hH6.size; omega) _ rfl ?_
                          intro g7 cap7 w7 hown7 hgrow7 hat7 hlt7
                          have hH7 := hH6.more hbl (texts_more hss61 hss62 hlo1 (fun s hs => Nat.le_trans (hlo2 s hs) (by omega)) hown7 rfl rfl) hgrow7 (fun g hg => by rcases hat7 with h | h; (exact .inl (by rw [← hg]; exact h)); (right; cases hg; exact Nat.le_of_eq h.symm))
                          refine hK.out _ _ ⟨fun _ => trivial, ?_⟩
                          clear hK K
                          try simp only [Act.put, List.setIfInBounds_toArray, List.set_cons_zero, List.set_cons_succ]
                          refine wpAnyB_one (i := 8) rfl (by kernel_rfl) (by kernel_rfl) (fun K hK => ?_)
                          go_simp
                          refine hK.out _ _ ⟨fun h => absurd rfl h, ?_⟩
                          clear hK K
                          refine wpAnyB_done (by kernel_rfl) ?_ _
                          try simp only [Act.put, List.setIfInBounds_toArray, List.set_cons_zero, List.set_cons_succ]
                          go_wp2_with (fail)
                          go_meet
                          exact ⟨_, _, _, rfl, by omega, Lib.hid hH7⟩
                      case rest =>
                        obtain ⟨ao2, nt2, ca2, rfl, hn3, HI3⟩ := hcut
                        have HN3 := Lib.hid hn3
                        clear hn3
                        generalize hwf : wc = wf at *
                        clear HH4 HPD hRL
                        have a7 : wf.cell? ⟨w.heap.size + 1, 7, none⟩ = some ks := Lib.cell_of_heap HI3.out.row 7
                        have hrng : wf.rangeAt wr.heap.size 0 [.int .i64 4, .string ⟨#[]⟩, .string ⟨#[]⟩, .int .i64 0, .string ⟨#[]⟩, .bool false, .slice none 0 0, kv, .int .i64 ((nt1 : Int) + 1), .int .i64 ((nt1 : Int) + (nl : Int))] := range_whole HI3.out.item
                        have HRNG := Lib.hid hrng
                        have hone : (#[.int .i64 4, .string ⟨#[]⟩, .string ⟨#[]⟩, .int .i64 0, .string ⟨#[]⟩, .bool false, .slice none 0 0, kv, .int .i64 ((nt1 : Int) + 1), .int .i64 ((nt1 : Int) + (nl : Int))] : Array Value).all (·.oneCell') = true := by rcases hkv with rfl | ⟨_, _, _, rfl⟩ <;> simp [Value.oneCell']
                        have HONE := Lib.hid hone
                        have hNW := HI3.out.nodes.keep (it_say MI) HI3.out.same0.all (by have := HI3.out.mid; have := HI3.out.size; omega)
                        have HOW := Lib.hid hNW.1
                        have hl1 := HI3.out.low
                        have hl2 := HI3.out.mid
                        have hl3 := HI3.out.size
                        clear hrng hone hNW
                        go_wp2_with (first
                          | (refine wpList_load_mid rfl 27 _ rfl wr.heap.size 0 rfl [.int .i64 4, .string ⟨#[]⟩, .string ⟨#[]⟩, .int .i64 0, .string ⟨#[]⟩, .bool false, .slice none 0 0, kv, .int .i64 ((nt1 : Int) + 1), .int .i64 ((nt1 : Int) + (nl : Int))] _ HRNG.out Tryz.underlying27 rfl HI10.out ?_)
                          | (at_builtin; refine wpList_append_lies _ rfl _ _ 25 rfl (w.heap.size + 2) 27 j0 (.agg (spcG 0 ⟨#[]⟩ ⟨#[]⟩ 0 ⟨#[]⟩ false (.slice none 0 0) 0 0)) 10 136 Tryz.underlying25 hj hy0 hy1 hy2 rfl (by decide) _ _ _ rfl (HOW.out.alloc _) ⟨wf.heap.size, 0, none⟩ 1 1 [.int .i64 4, .string ⟨#[]⟩, .string ⟨#[]⟩, .int .i64 0, .string ⟨#[]⟩, .bool false, .slice none 0 0, kv, .int .i64 ((nt1 : Int) + 1), .int .i64 ((nt1 : Int) + (nl : Int))] rfl rfl (World.news_of_block (heap_alloc_new wf _)) (fun u hu => (Array.all_eq_true_iff_forall_mem.1 HONE.out) u (by simpa using hu)) (by decide) (by unfold maxLen; omega) (by omega) (by simp; omega) (wf.heap.size + 1) (by simp) ?_; intro g8 cap8 w8 hown8 hgrow8 hat8 hlt8; have hL8 : w8.heap[w.heap.size + 1]? = some (.cells (spcG 3 ⟨#[]⟩ ⟨#[]⟩ nu ⟨#[c0]⟩ lb2 ks 0 0) 27) := ((hgrow8.block _ (by simp; omega) (by intro hh; have := (HOW.out.lt _ hh.symm).1; omega)).trans (heap_alloc_old wf _ (by omega))).trans HI3.out.row; have b7 : w8.cell? ⟨w.heap.size + 1, 7, none⟩ = some ks := Lib.cell_of_heap hL8 7; have v7 : w8.frozen? ⟨w.heap.size + 1, 7, none⟩ = false := Lib.frozen_of_heap hL8 7; have HOWN8 := Lib.hid hown8; have HGROW8 := Lib.hid hgrow8; clear hL8 hown8 hgrow8))
                        go_roundg (1 + m - (k + 1))
                        case measure => omega
                        case rel => exact ⟨k + 1, nt2, _, _, lb2, _, css ++ [spcG 4 ⟨#[]⟩ ⟨#[]⟩ 0 ⟨#[]⟩ false kv ((nt1 : Int) + 1) ((nt1 : Int) + (nl : Int))], by omega, by go_num, rfl, Lib.hid (HI3.out.done hbl HOWN8.out rfl rfl HGROW8.out hat8), by simp [HCL.out], by rw [Nat.succ_mul]; have := HN3.out; omega, by have := HN3.out; omega⟩
          · have hkm : k = 1 + m := by omega
            obtain ⟨kb, kc, rfl, _, _⟩ := HLk.out.nodes.1.form (hcl0 hkm)
            have hS : wr.drew.rangeAt (w.heap.size + 1) 0 [.int .i64 3, .string ⟨#[]⟩, .string ⟨#[]⟩, .int .i64 nu, .string ⟨#[c0]⟩, .bool lb, .slice none 0 0, .slice (some ⟨kb, 0, none⟩) css.length kc, .int .i64 0, .int .i64 0] := range_whole (w := wr.drew) HLk.out.row
            have hone : (#[.int .i64 3, .string ⟨#[]⟩, .string ⟨#[]⟩, .int .i64 nu, .string ⟨#[c0]⟩, .bool lb, .slice none 0 0, .slice (some ⟨kb, 0, none⟩) css.length kc, .int .i64 0, .int .i64 0] : Array Value).all (·.oneCell') = true := by simp [Value.oneCell']
            have HONE := Lib.hid hone
            clear hone
            have hl1 := HLk.out.size
            go_wp2_with (fail)
            refine wp_region_B (fun wq => wq.rangeAt (w.heap.size + 1) 0 [.int .i64 3, .string ⟨#[]⟩, .string ⟨#[]⟩, .int .i64 nu, .string ⟨#[c0]⟩, .bool lb, .slice none 0 0, .slice (some ⟨kb, 0, none⟩) css.length kc, .int .i64 0, .int .i64 0]) 3 (by kernel_rfl) ?_
            refine wpAnyB_take (i := 0) (.slice ao nt c) rfl (by kernel_rfl) (by kernel_rfl) (by kernel_rfl) (by kernel_rfl) rfl (fun _ _ _ h => h) hS (yields_in (by kernel_rfl) (fun wq hSw => by go_simp)) ?_
            simp only [Act.put, List.setIfInBounds_toArray, List.set_cons_zero, List.set_cons_succ]
            refine wpAnyB_take (i := 1) (.agg #[.int .i64 3, .string ⟨#[]⟩, .string ⟨#[]⟩, .int .i64 nu, .string ⟨#[c0]⟩, .bool lb, .slice none 0 0, .slice (some ⟨kb, 0, none⟩) css.length kc, .int .i64 0, .int .i64 0]) rfl (by kernel_rfl) (by kernel_rfl) (by kernel_rfl) (by kernel_rfl) rfl (fun _ _ _ h => h) hS (yieldsIf_load_mid (by kernel_rfl) 27 _ rfl (w.heap.size + 1) 0 rfl [.int .i64 3, .string ⟨#[]⟩, .string ⟨#[]⟩, .int .i64 nu, .string ⟨#[c0]⟩, .bool lb, .slice none 0 0, .slice (some ⟨kb, 0, none⟩) css.length kc, .int .i64 0, .int .i64 0] _ (fun wq h => h) Tryz.underlying27 rfl HI10.out) ?_
            simp only [Act.put, List.setIfInBounds_toArray, List.set_cons_zero, List.set_cons_succ]
            refine wpAnyB_take (i := 2) (.slice ao nt c) rfl (by kernel_rfl) (by kernel_rfl) (by kernel_rfl) (by kernel_rfl) rfl (fun _ _ _ h => h) hS (yields_in (by kernel_rfl) (fun wq hSw => by go_simp)) ?_
            simp only [Act.put, List.setIfInBounds_toArray, List.set_cons_zero, List.set_cons_succ]
            refine wpAnyB_one (i := 3) rfl (by kernel_rfl) (by kernel_rfl) (fun K hK => ?_)
            refine wp_store_row 27 10 w.heap.size _ _ rfl HI10.out _ #[.int .i64 3, .string ⟨#[]⟩, .string ⟨#[]⟩, .int .i64 nu, .string ⟨#[c0]⟩, .bool lb, .slice none 0 0, .slice (some ⟨kb, 0, none⟩) css.length kc, .int .i64 0, .int .i64 0] HLk.out.ret rfl rfl rfl rfl HONE.out ?_
            go_simp
            refine hK.out _ _ ⟨fun h => absurd rfl h, ?_⟩
            clear hK K hS
            refine wpAnyB_done (by kernel_rfl) ?_ _
            try simp only [Act.put, List.setIfInBounds_toArray, List.set_cons_zero, List.set_cons_succ]
            go_wp2_with (fail)
            have hl := load_struct (P := Tryz.prog) (ty := 27) (n := 10) (by kernel_rfl) (wr.drew.setRow w.heap.size #[.int .i64 3, .string ⟨#[]⟩, .string ⟨#[]⟩, .int .i64 nu, .string ⟨#[c0]⟩, .bool lb, .slice none 0 0, .slice (some ⟨kb, 0, none⟩) css.length kc, .int .i64 0, .int .i64 0]) w.heap.size 27 #[.int .i64 3, .string ⟨#[]⟩, .string ⟨#[]⟩, .int .i64 nu, .string ⟨#[c0]⟩, .bool lb, .slice none 0 0, .slice (some ⟨kb, 0, none⟩) css.length kc, .int .i64 0, .int .i64 0] (0, 0) (setRow_heap _ _ _ _ _ _ HLk.out.ret) rfl
            exact bodyPost_ret (v := .tuple #[.slice ao nt c, .agg #[.int .i64 3, .string ⟨#[]⟩, .string ⟨#[]⟩, .int .i64 nu, .string ⟨#[c0]⟩, .bool lb, .slice none 0 0, .slice (some ⟨kb, 0, none⟩) css.length kc, .int .i64 0, .int .i64 0]]) (by simp [results, asAddr, hl]) rfl (list_done hbl HLk.out HCL.out hk3 (hnt0 (by omega)) (by omega) hnu hi30 hc0 hM (by omega))
end Go.Proofs.YtnocllocnoodnaaGreatDoor
