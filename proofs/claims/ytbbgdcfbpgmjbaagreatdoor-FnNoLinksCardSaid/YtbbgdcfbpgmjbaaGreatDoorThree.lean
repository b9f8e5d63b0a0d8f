/- 'inlines' and 'written' at lists of plain texts and of links of plain texts. -/
import Derived.Test.YtbbgdcfbpgmjbaaGreatDoorKids
import Derived.Test.YtbbgdcfbpgmjbaaGreatDoorShow
namespace Go.Proofs.YtbbgdcfbpgmjbaaGreatDoor
open Go.RowKit
/-- the text of an item is no longer than a thousand bytes -/
def Item.short : Item → Prop
  | .plain t => t.size ≤ 1000
  | .link u t => u.size ≤ 1000 ∧ t.size ≤ 1000
theorem impl_inline_item (it : Item) (lo hi : Nat) (v : Value) (w : World) (h : InlineIs it lo hi v w) : Calls Tryz.prog 13 #[v] w (NodePut it w) := by
  unfold InlineIs at h
  split at h
  · rename_i t
    obtain ⟨p, _, _, rfl, h1⟩ := h
    refine (impl_inline_plain p t w h1.cell h1.lt).mono ?_
    rintro e w2 ⟨rfl, hb2⟩
    exact ⟨nodeCells 20 t false, rfl, nodeCells_one _ _ _, rfl, rfl, hb2⟩
  · rename_i u t
    obtain ⟨k, g, h, _, _, _, _, _, _, rfl, h1⟩ := h
    exact impl_inline_link u t k g h w h1
theorem impl_put_item (it : Item) (lo hi : Nat) (cs : Array Value) (w : World) (h : NodeIs it lo hi cs w) : Calls Tryz.prog 17 #[.agg cs] w (PutMade it w) := by
  unfold NodeIs at h
  split at h
  · rename_i t
    subst h
    exact impl_put_plain t w
  · rename_i u t
    obtain ⟨kb, cap, _, _, rfl, h1⟩ := h
    exact impl_put_link u t kb cap w h1
theorem node_shape {it : Item} {lo hi : Nat} {cs : Array Value} {w : World} (h : NodeIs it lo hi cs w) : cs.size = 16 ∧ cs.all (·.oneCell') = true := by
  unfold NodeIs at h
  split at h
  · subst h; exact ⟨rfl, nodeCells_one _ _ _⟩
  · obtain ⟨kb, cap, _, _, rfl, h1⟩ := h
    exact ⟨rfl, lnkCells_one _ _ _⟩
theorem impl_inlines_items (items : Nat → Item) (vs : List Value) (a c : Nat) (w : World) (hrow : RowAt 34 a vs w) (hn : vs.length ≤ 1000)
    (H : ∀ i (h : i < vs.length), ∃ lo hi, hi ≤ w.heap.size ∧ InlineIs (items i) lo hi vs[i] w) :
    Calls Tryz.prog 8 #[.slice (some ⟨a, 0, none⟩) vs.length c] w (NodesMade (fun i => NodeIs (items i)) vs.length w) := by
  refine impl_inlines _ (node_sayable items) vs a c w hrow hn ?_
  intro i h w' hb
  obtain ⟨lo, hi, h1, h2⟩ := H i h
  exact impl_inline_item _ lo hi _ w' ((inline_sayable items).keep i lo hi _ _ _ h2 (fun b _ hb2 => hb.block b (by omega)))
theorem impl_written_items (items : Nat → Item) (css : List (Array Value)) (a c : Nat) (w : World) (hrow : RowAt 38 a (css.flatMap Array.toList) w) (hn : css.length ≤ 1000)
    (H : ∀ i (h : i < css.length), ∃ lo hi, hi ≤ w.heap.size ∧ NodeIs (items i) lo hi css[i] w) :
    Calls Tryz.prog 11 #[.slice (some ⟨a, 0, none⟩) css.length c] w (InlinesMade (fun i => InlineIs (items i)) css.length w) := by
  refine impl_written _ (inline_sayable items) css a c w hrow ?_ hn ?_
  · intro c hc
    obtain ⟨i, h, rfl⟩ := List.getElem_of_mem hc
    obtain ⟨lo, hi, h1, h2⟩ := H i h
    exact node_shape h2
  · intro i h w' hb
    obtain ⟨lo, hi, h1, h2⟩ := H i h
    exact impl_put_item _ lo hi _ w' ((node_sayable items).keep i lo hi _ _ _ h2 (fun b _ hb2 => hb.block b (by omega)))
/-- three items: a plain text, a link, a plain text -/
def three (s u x t : ByteArray) (i : Nat) : Item := match i with | 0 => .plain s | 1 => .link u x | _ => .plain t
/-- three nodes lie in block a -/
def NodesIn (s u x t : ByteArray) (a : Nat) (w : World) : Prop := ∃ css : List (Array Value), css.length = 3 ∧ RowAt 38 a (css.flatMap Array.toList) w ∧ ∀ i (h : i < css.length), ∃ lo hi, hi ≤ w.heap.size ∧ NodeIs (three s u x t i) lo hi css[i] w
/-- three inlines become three nodes -/
theorem impl_inlines_three (s u x t : ByteArray) (a c p k g h q : Nat) (w : World) (hx : ThreeIn s u x t a p k g h q w) :
    Calls Tryz.prog 8 #[.slice (some ⟨a, 0, none⟩) 3 c] w fun e w' => ∃ b cap, e = .returned (.slice (some ⟨b, 0, none⟩) 3 cap) ∧ NodesIn s u x t b w' ∧ Below w.heap.size w w' := by
  have h1 := hx.one.lt; have h2 := hx.two.lt; have h3 := hx.three.lt
  refine (impl_inlines_items (three s u x t) _ a c w hx.row (by simp) ?_).mono ?_
  · intro i hi
    refine ⟨0, w.heap.size, Nat.le_refl _, ?_⟩
    match i, hi with
    | 0, _ => exact ⟨p, by omega, by omega, rfl, hx.one⟩
    | 1, _ => exact ⟨k, g, h, by omega, by omega, by omega, by omega, by omega, by omega, rfl, hx.two⟩
    | 2, _ => exact ⟨q, by omega, by omega, rfl, hx.three⟩
  · rintro e w' ⟨css, o, hl, rfl, ⟨hown, hq⟩, hb⟩
    have hl3 : css.length = 3 := hl
    rw [hl3] at hown
    obtain ⟨b, cap, rfl, g1, g2, g3⟩ := owns_row hown (by omega)
    refine ⟨b, cap, rfl, ⟨css, hl3, g3, ?_⟩, hb⟩
    intro i hi
    obtain ⟨lo, hi', _, h5, h6, _⟩ := hq i hi
    exact ⟨lo, hi', h5, h6⟩
/-- .. and back -/
theorem impl_written_three (s u x t : ByteArray) (a c : Nat) (w : World) (hx : NodesIn s u x t a w) :
    Calls Tryz.prog 11 #[.slice (some ⟨a, 0, none⟩) 3 c] w fun e w' => ∃ b cap p k g h q, e = .returned (.slice (some ⟨b, 0, none⟩) 3 cap) ∧ ThreeIn s u x t b p k g h q w' ∧ Below w.heap.size w w' := by
  obtain ⟨css, hl, hrow, hq⟩ := hx
  have := impl_written_items (three s u x t) css a c w hrow (by omega) hq
  rw [hl] at this
  refine this.mono ?_
  rintro e w' ⟨vs, o, hl, rfl, ⟨hown, hq⟩, hb⟩
  rw [hl] at hown
  obtain ⟨b, cap, rfl, g1, g2, g3⟩ := owns_row hown (by omega)
  match vs, hl with
  | [v0, v1, v2], _ =>
    obtain ⟨lo, hi, _, _, ⟨p, _, _, h0, k0⟩, _⟩ := hq 0 (by simp)
    obtain ⟨lo, hi, _, _, ⟨k, g, h, _, _, _, _, _, _, h1, k1⟩, _⟩ := hq 1 (by simp)
    obtain ⟨lo, hi, _, _, ⟨q, _, _, h2, k2⟩, _⟩ := hq 2 (by simp)
    simp at h0 h1 h2
    subst h0 h1 h2
    exact ⟨b, cap, p, k, g, h, q, rfl, ⟨by simpa using g3, k0, k1, k2⟩, hb⟩
set_option maxHeartbeats 1000000 in
theorem impl_InlinesHTML (s u x t : ByteArray) (a c : Nat) (w : World) (hx : NodesIn s u x t a w) (hs : s.size ≤ 1000) (hu : u.size ≤ 1000) (hxt : x.size ≤ 1000) (ht : t.size ≤ 1000) :
    Calls Tryz.prog 6 #[.slice (some ⟨a, 0, none⟩) 3 c] w (Told (threeH s u x t 3) w) := by
  have HW := Lib.hid (impl_written_three s u x t a c w hx)
  have HH := Lib.hid (fun a c p k g h q w hx => md_ZZInlineHTML s u x t a c p k g h q w hx hs hu hxt ht)
  clear hx
  unfold Told at *
  generalize (⟨(threeH s u x t 3).toArray⟩ : ByteArray) = R at *
  go_enter Tryz.func6, Tryz.ntmps6
  go_wp2_with (first
    | (go_at_call 11; refine HW.out.mono ?_; rintro e w2 ⟨b, cap, p, k, g, h, q, rfl, hx2, hb2⟩)
    | (go_at_call 10; refine (HH.out _ _ _ _ _ _ _ _ hx2).mono ?_; rintro e w3 ⟨rfl, hb3⟩))
  go_ret
  exact ⟨rfl, hb2.trans (hb3.mono hb2.size)⟩
end Go.Proofs.YtbbgdcfbpgmjbaaGreatDoor
