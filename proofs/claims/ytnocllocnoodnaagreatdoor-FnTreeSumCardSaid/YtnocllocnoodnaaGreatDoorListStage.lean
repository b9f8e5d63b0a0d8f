/- The builder's list: what holds between its steps. -/
import Derived.Test.YtnocllocnoodnaaGreatDoorBlocks
namespace Go.Proofs.YtnocllocnoodnaaGreatDoor
open Go.RowKit
/-- a stage of 'list' between two rounds -/
structure ListAt (b n nt L M : Nat) (w : World) (nu : Int) (c0 : UInt8) (lb : Bool) (tv ks : Value) (css : List (Array Value)) (wx : World) : Prop where
  ret : wx.heap[w.heap.size]? = some (.cells (spcG 0 ⟨#[]⟩ ⟨#[]⟩ 0 ⟨#[]⟩ false (.slice none 0 0) 0 0) 27)
  row : wx.heap[w.heap.size + 1]? = some (.cells (spcG 3 ⟨#[]⟩ ⟨#[]⟩ nu ⟨#[c0]⟩ lb ks 0 0) 27)
  size : w.heap.size + 2 ≤ wx.heap.size
  nodes : Nodes (ItP M) Array.toList (w.heap.size + 2) css ks wx
  texts : Texts (w.heap.size + 2) nt L tv wx
  bld : Bld b n wx
  grown : w.grownBy wx (some b)
/-- within a round, from the item's making on: the item lies in block w0.heap.size, what it is made of behind it, up to w1 -/
structure ItemAt (b n nt nl L LL M MI : Nat) (w w0 w1 : World) (nu : Int) (c0 : UInt8) (lb : Bool) (tv lv ks : Value) (css : List (Array Value)) (kv : Value) (fr tl : Int) (wx : World) : Prop where
  same0 : Same 27 (w.heap.size + 2) w0.heap.size w0 wx
  nodes : Nodes (ItP M) Array.toList (w.heap.size + 2) css ks w0
  same1 : Same 27 (w0.heap.size + 1) w1.heap.size w1 wx
  it : ∀ fr tl : Int, ItP MI (w0.heap.size + 1) w1.heap.size (spcG 4 ⟨#[]⟩ ⟨#[]⟩ 0 ⟨#[]⟩ false kv fr tl) w1
  item : wx.heap[w0.heap.size]? = some (.cells (spcG 4 ⟨#[]⟩ ⟨#[]⟩ 0 ⟨#[]⟩ false kv fr tl) 27)
  ret : wx.heap[w.heap.size]? = some (.cells (spcG 0 ⟨#[]⟩ ⟨#[]⟩ 0 ⟨#[]⟩ false (.slice none 0 0) 0 0) 27)
  row : wx.heap[w.heap.size + 1]? = some (.cells (spcG 3 ⟨#[]⟩ ⟨#[]⟩ nu ⟨#[c0]⟩ lb ks 0 0) 27)
  low : w.heap.size + 2 ≤ w0.heap.size
  mid : w0.heap.size + 1 ≤ w1.heap.size
  size : w1.heap.size ≤ wx.heap.size
  texts : Texts (w.heap.size + 2) nt L tv wx
  line : Texts (w0.heap.size + 1) nl LL lv wx
  apart : ∀ g, tv.ownBlock = some g → g < w0.heap.size ∨ w1.heap.size ≤ g
  inner : ∀ g, lv.ownBlock = some g → g < w1.heap.size
  bld : Bld b n wx
  grown : w.grownBy wx (some b)
section
variable {b n nt nl L LL M MI : Nat} {w w0 w1 wx : World} {nu : Int} {c0 : UInt8} {lb : Bool} {tv lv ks : Value} {css : List (Array Value)} {kv : Value} {fr tl : Int}
theorem ListAt.call {w2 : World} (h : ListAt b n nt L M w nu c0 lb tv ks css wx) (hbl : b < w.heap.size) (hb : Bld b n w2) (hg : wx.grownBy w2 (some b)) : ListAt b n nt L M w nu c0 lb tv ks css w2 := by
  have hs := h.size
  exact ⟨(hg.block _ (by omega) (by simp; omega)).trans h.ret, (hg.block _ (by omega) (by simp; omega)).trans h.row, Nat.le_trans hs hg.size, nodes_grown (it_say M) h.nodes h.bld hg, texts_grown h.texts h.bld hg, hb, grown_trans h.grown hg⟩
theorem ItemAt.alloc (h : ItemAt b n nt nl L LL M MI w w0 w1 nu c0 lb tv lv ks css kv fr tl wx) (o : Obj) : ItemAt b n nt nl L LL M MI w w0 w1 nu c0 lb tv lv ks css kv fr tl (wx.alloc o) := by
  have h1 := h.low
  have h2 := h.mid
  have h3 := h.size
  exact ⟨h.same0.alloc (by omega) _, h.nodes, h.same1.alloc h3 _, h.it, (heap_alloc_old wx _ (by omega)).trans h.item, (heap_alloc_old wx _ (by omega)).trans h.ret, (heap_alloc_old wx _ (by omega)).trans h.row, h1, h2, Nat.le_trans h3 (by simp), texts_alloc h.texts _, texts_alloc h.line _, h.apart, h.inner, h.bld.alloc _, grown_alloc h.grown _⟩
/-- behind an append to the texts -/
theorem ItemAt.more {nt' : Nat} {tv' : Value} {w3 : World} (h : ItemAt b n nt nl L LL M MI w w0 w1 nu c0 lb tv lv ks css kv fr tl wx) (hbl : b < w.heap.size) (ht : Texts (w.heap.size + 2) nt' L tv' w3) (hg : wx.grownBy w3 tv.ownBlock) (hat : ∀ g, tv'.ownBlock = some g → tv.ownBlock = some g ∨ wx.heap.size ≤ g) : ItemAt b n nt' nl L LL M MI w w0 w1 nu c0 lb tv' lv ks css kv fr tl w3 := by
  have h1 := h.low
  have h2 := h.mid
  have h3 := h.size
  have hrow : ∀ (k : Nat) (cs : Array Value), wx.heap[k]? = some (.cells cs 27) → w3.heap[k]? = some (.cells cs 27) := by
    intro k cs hk
    refine (hg.block _ (Array.getElem?_eq_some_iff.1 hk).1 ?_).trans hk
    intro hh
    exact absurd ((h.texts.own hh.symm).1.one ⟨_, _, hk⟩) (by decide)
  refine ⟨h.same0.grownT hg (fun g hg => (h.texts.own hg).1) (by decide), h.nodes, h.same1.grownT hg (fun g hg => (h.texts.own hg).1) (by decide), h.it, hrow _ _ h.item, hrow _ _ h.ret, hrow _ _ h.row, h1, h2, Nat.le_trans h3 hg.size, ht, ?_, ?_, h.inner, bld_texts h.bld h.texts hg (by omega), grown_own h.grown hg (fun g hg => by have := (h.texts.own hg).2.1; omega)⟩
  · obtain ⟨ss, k1, k2, k3⟩ := h.line
    refine ⟨ss, k1, k2, k3.kept hg ?_⟩
    cases hv : lv.ownBlock with
    | none => exact .inl rfl
    | some g =>
      refine .inr ?_
      intro hh
      have g1 := h.inner g hv
      have g2 := (k3.lt g hv).1
      rcases h.apart g hh.symm with h3 | h3 <;> omega
  · intro g hg'
    rcases hat g hg' with g1 | g1
    · exact h.apart g g1
    · right; omega
/-- behind a store of the item's lines -/
theorem ItemAt.lines (h : ItemAt b n nt nl L LL M MI w w0 w1 nu c0 lb tv lv ks css kv fr tl wx) (hbl : b < w.heap.size) (fr' tl' : Int) : ItemAt b n nt nl L LL M MI w w0 w1 nu c0 lb tv lv ks css kv fr' tl' ((wx.setCell ⟨w0.heap.size, 8, none⟩ (.int .i64 fr')).setCell ⟨w0.heap.size, 9, none⟩ (.int .i64 tl')) := by
  have h1 := h.low
  have h2 := h.mid
  have h3 := h.size
  have hi : (wx.setCell ⟨w0.heap.size, 8, none⟩ (.int .i64 fr')).heap[w0.heap.size]? = some (.cells (spcG 4 ⟨#[]⟩ ⟨#[]⟩ 0 ⟨#[]⟩ false kv fr' tl) 27) := heap_setCell_same wx _ 8 _ _ _ h.item
  have hoth : ∀ k, k ≠ w0.heap.size → ((wx.setCell ⟨w0.heap.size, 8, none⟩ (.int .i64 fr')).setCell ⟨w0.heap.size, 9, none⟩ (.int .i64 tl')).heap[k]? = wx.heap[k]? := fun k hk => (heap_setCell_other _ _ k _ hk).trans (heap_setCell_other _ _ k _ hk)
  have hty : Typed 27 w0.heap.size wx := ⟨_, _, h.item⟩
  have hs : SameAll 9 0 wx ((wx.setCell ⟨w0.heap.size, 8, none⟩ (.int .i64 fr')).setCell ⟨w0.heap.size, 9, none⟩ (.int .i64 tl')) := fun k _ hk => hoth k (fun e => absurd ((e ▸ hk).one hty) (by decide))
  exact ⟨(h.same0.cell (Nat.le_refl _) _).cell (Nat.le_refl _) _, h.nodes, fun k k1 k2 k3 => (hoth k (by omega)).trans (h.same1 k k1 k2 k3), h.it, heap_setCell_same _ _ 9 _ _ _ hi, (hoth _ (by omega)).trans h.ret, (hoth _ (by omega)).trans h.row, h1, h2, by simpa using h3, h.texts.keep (hs.less (Nat.zero_le _)), h.line.keep (hs.less (Nat.zero_le _)), h.apart, h.inner, bld_cell (bld_cell h.bld (by show b < w0.heap.size; omega) _) (by show b < w0.heap.size; omega) _, grown_cell (grown_cell h.grown (by show w.heap.size ≤ w0.heap.size; omega) _) (by show w.heap.size ≤ w0.heap.size; omega) _⟩
/-- behind a store of the list's looseness -/
theorem ItemAt.loose (h : ItemAt b n nt nl L LL M MI w w0 w1 nu c0 lb tv lv ks css kv fr tl wx) (hbl : b < w.heap.size) (x : Bool) : ItemAt b n nt nl L LL M MI w w0 w1 nu c0 x tv lv ks css kv fr tl (wx.setCell ⟨w.heap.size + 1, 5, none⟩ (.bool x)) := by
  have h1 := h.low
  have h2 := h.mid
  have h3 := h.size
  have hoth : ∀ k, k ≠ w.heap.size + 1 → (wx.setCell ⟨w.heap.size + 1, 5, none⟩ (.bool x)).heap[k]? = wx.heap[k]? := fun k hk => heap_setCell_other _ _ k _ hk
  have hty : Typed 27 (w.heap.size + 1) wx := ⟨_, _, h.row⟩
  have hs : SameAll 9 0 wx (wx.setCell ⟨w.heap.size + 1, 5, none⟩ (.bool x)) := fun k _ hk => hoth k (fun e => absurd ((e ▸ hk).one hty) (by decide))
  exact ⟨fun k k1 k2 k3 => (hoth k (by omega)).trans (h.same0 k k1 k2 k3), h.nodes, fun k k1 k2 k3 => (hoth k (by omega)).trans (h.same1 k k1 k2 k3), h.it, (hoth _ (by omega)).trans h.item, (hoth _ (by omega)).trans h.ret, heap_setCell_same wx _ 5 _ _ _ h.row, h1, h2, by simpa using h3, h.texts.keep (hs.less (Nat.zero_le _)), h.line.keep (hs.less (Nat.zero_le _)), h.apart, h.inner, bld_cell h.bld (by show b < w.heap.size + 1; omega) _, grown_cell h.grown (by show w.heap.size ≤ w.heap.size + 1; omega) _⟩
/-- behind the append of the item, and the store of the answer -/
theorem ItemAt.done {g n' cap : Nat} {w3 : World} {ob : Obj} {xs' : List Value} (h : ItemAt b n nt nl L LL M M w w0 w1 nu c0 lb tv lv ks css kv fr tl wx) (hbl : b < w.heap.size)
    (hown : w3.ownsRow (w.heap.size + 2) 27 10 (.slice (some ⟨g, 0, none⟩) n' cap) n' xs') (hn : n' = css.length + 1) (hx : xs' = css.flatMap Array.toList ++ (spcG 4 ⟨#[]⟩ ⟨#[]⟩ 0 ⟨#[]⟩ false kv fr tl).toList) (hgrow : (wx.alloc ob).grownBy w3 ks.ownBlock) (hat : ks.ownBlock = some g ∨ g = wx.heap.size + 1) :
    ListAt b n nt L M w nu c0 lb tv (.slice (some ⟨g, 0, none⟩) n' cap) (css ++ [spcG 4 ⟨#[]⟩ ⟨#[]⟩ 0 ⟨#[]⟩ false kv fr tl]) (w3.setCell ⟨w.heap.size + 1, 7, none⟩ (.slice (some ⟨g, 0, none⟩) n' cap)) := by
  have h1 := h.low
  have h2 := h.mid
  have h3 := h.size
  have hN := h.nodes.keep (it_say M) h.same0.all (by omega)
  have hI : ItP M (w0.heap.size + 1) w1.heap.size (spcG 4 ⟨#[]⟩ ⟨#[]⟩ 0 ⟨#[]⟩ false kv fr tl) wx := (it_say M).keep _ _ _ _ _ (h.it fr tl) h.same1 h3
  have hN2 := hN.add (it_say M) hI (by omega) h3 (fun g hg => .inl (by have := (h.nodes.1.lt g hg).2; omega)) hown hn hx hgrow hat
  have hlo : ∀ k, k < w.heap.size + 2 → w3.heap[k]? = wx.heap[k]? := fun k hk => (hgrow.block k (by simp; omega) (by intro hh; have := (hN.1.lt k hh.symm).1; omega)).trans (heap_alloc_old wx _ (by omega))
  have hs3 := hgrow.size
  simp at hs3
  have hb3 : Bld b n w3 := bld_nodes (h.bld.alloc ob) (nodes_alloc (it_say M) hN ob) hgrow (by omega)
  have hg3 : w.grownBy w3 (some b) := grown_own (grown_alloc h.grown ob) hgrow (fun g hg => by have := (hN.1.lt g hg).1; omega)
  have ht3 := texts_nodes (texts_alloc h.texts ob) (nodes_alloc (it_say M) hN ob) hgrow
  exact ⟨(heap_setCell_other w3 _ _ _ (by show w.heap.size ≠ w.heap.size + 1; omega)).trans ((hlo _ (by omega)).trans h.ret), heap_setCell_same w3 _ 7 _ _ _ ((hlo _ (by omega)).trans h.row), by simp; omega, nodes_cell (it_say M) hN2 (by show w.heap.size + 1 < _; omega) _, texts_cell ht3 (by show w.heap.size + 1 < _; omega) _, bld_cell hb3 (by show b < w.heap.size + 1; omega) _, grown_cell hg3 (by show w.heap.size ≤ w.heap.size + 1; omega) _⟩
end
end Go.Proofs.YtnocllocnoodnaaGreatDoor
namespace Go.Proofs.YtnocllocnoodnaaGreatDoor
open Go.RowKit
theorem run_append_nothing (ty : TypeId) (g n cap : Nat) (hn : n ≤ cap) (w : World) :
    (Builtin.append_ #[39, 39] ty #[.slice (some ⟨g, 0, none⟩) n cap, .slice none 0 0]).run Tryz.prog w = .ok (.slice (some ⟨g, 0, none⟩) n cap) w := by
  obtain ⟨i0, hi, _, _, _⟩ := info_parts str_info
  have hu := Tryz.underlying39
  simp [Builtin.append_, run_underlying hu, sizeOf, typeInfo, hi, Builtin.lenOf, Builtin.firstCells, hn, storeCells]
/-- .. as a step of a region that draws -/
theorem wp_append_nothing {o : Oper} {a : Act} {w : World} {K : Act → World → Prop} {Q : Exit → Act → World → Prop} (s x : Operand)
    (ho : o.op = .call { callee := .builtin .append, args := #[s, x], argTypes := #[39, 39] }) (g n cap : Nat) (hn : n ≤ cap) (hs : a.eval s = .slice (some ⟨g, 0, none⟩) n cap) (hx : a.eval x = .slice none 0 0)
    (h : K (a.put o.dst (.slice (some ⟨g, 0, none⟩) n cap)) w) : Oper.wp Tryz.prog o a w K Q := by
  have hr := run_append_nothing o.type g n cap hn w
  unfold Oper.wp execOp
  simp only [ho, resolve, invoke, builtin, Sem.run_bind, Sem.run_pure, Result.andThen_ok, List.map_toArray, List.map_cons, List.map_nil, hs, hx, hr]
  exact h
end Go.Proofs.YtnocllocnoodnaaGreatDoor
