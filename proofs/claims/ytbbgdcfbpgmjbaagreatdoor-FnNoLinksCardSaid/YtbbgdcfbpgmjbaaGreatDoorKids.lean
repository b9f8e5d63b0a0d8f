/- The thin package's node of a link of a plain text. -/
import Derived.Test.YtbbgdcfbpgmjbaaGreatDoorItems
import Derived.Test.YtbbgdcfbpgmjbaaGreatDoorInline
namespace Go.Proofs.YtbbgdcfbpgmjbaaGreatDoor
open Go.RowKit
theorem impl_mark_zero (w : World) : Calls Tryz.prog 20 #[.int .u8 0] w fun e w' => e = .returned (.string ⟨#[]⟩) ∧ w = w' := by
  go_enter Tryz.func20, Tryz.ntmps20
  go_wp2_with (fail)
  go_ret
  exact ⟨rfl, rfl⟩
/-- the kids of a link become nodes -/
def KidMade (t : ByteArray) (w : World) (e : Ending) (w' : World) : Prop := ∃ kb cap, e = .returned (.slice (some ⟨kb, 0, none⟩) 1 cap) ∧ w.heap.size ≤ kb ∧ kb < w'.heap.size ∧ RowAt 38 kb (nodeCells 20 t false).toList w' ∧ Below w.heap.size w w'
theorem PlainIn.cell {t : ByteArray} {p : Nat} {w : World} (h : PlainIn t p w) : w.cell? ⟨p, 0, none⟩ = some (.string t) := by
  unfold PlainIn at h
  rw [Lib.cell_of_heap h]; rfl
theorem impl_inlines_one (t : ByteArray) (g c p : Nat) (w : World) (hrow : RowAt 34 g [.iface 51 (.pointer (some ⟨p, 0, none⟩))] w) (hp : PlainIn t p w) :
    Calls Tryz.prog 8 #[.slice (some ⟨g, 0, none⟩) 1 c] w (KidMade t w) := by
  refine (impl_inlines (fun i => NodeIs ((fun _ => Item.plain t) i)) (node_sayable _) [.iface 51 (.pointer (some ⟨p, 0, none⟩))] g c w hrow (by simp) ?_).mono ?_
  · intro i h w' hb
    have : i = 0 := by simpa using h
    subst this
    have hp' : PlainIn t p w' := hp.of (hb.block p hp.lt)
    refine (impl_inline_plain p t w' hp'.cell hp'.lt).mono ?_
    rintro e w2 ⟨rfl, hb2⟩
    exact ⟨nodeCells 20 t false, rfl, nodeCells_one _ _ _, rfl, rfl, hb2⟩
  · rintro e w' ⟨css, o, hl, rfl, ⟨hown, hq⟩, hb⟩
    match css, hl with
    | [cs], _ =>
      obtain ⟨kb, cap', rfl, h1, h2, h3⟩ := owns_row hown (by simp)
      obtain ⟨lo, hi, h4, h5, h6, _⟩ := hq 0 (by simp)
      have h7 : cs = nodeCells 20 t false := h6
      subst h7
      exact ⟨kb, cap', rfl, h1, h2, by simpa using h3, hb⟩
theorem far16 {w : World} {b k i : Nat} {v : Value} (v0 v1 v2 v3 v4 v5 v6 v7 v8 v9 v10 v11 v12 v13 v14 v15 : Value) (h : b ≠ k) (hc : w.cell? ⟨k, i, none⟩ = some v) : ((World.setCell (World.setCell (World.setCell (World.setCell (World.setCell (World.setCell (World.setCell (World.setCell (World.setCell (World.setCell (World.setCell (World.setCell (World.setCell (World.setCell (World.setCell (World.setCell w ⟨b, 0, none⟩ v0) ⟨b, 1, none⟩ v1) ⟨b, 2, none⟩ v2) ⟨b, 3, none⟩ v3) ⟨b, 4, none⟩ v4) ⟨b, 5, none⟩ v5) ⟨b, 6, none⟩ v6) ⟨b, 7, none⟩ v7) ⟨b, 8, none⟩ v8) ⟨b, 9, none⟩ v9) ⟨b, 10, none⟩ v10) ⟨b, 11, none⟩ v11) ⟨b, 12, none⟩ v12) ⟨b, 13, none⟩ v13) ⟨b, 14, none⟩ v14) ⟨b, 15, none⟩ v15)).cell? ⟨k, i, none⟩ = some v := by
  iterate 16 rw [World.cell?_setCell_far _ _ _ _ h]
  exact hc
theorem row16 {w : World} {b : Nat} {t : TypeId} (x0 x1 x2 x3 x4 x5 x6 x7 x8 x9 x10 x11 x12 x13 x14 x15 v0 v1 v2 v3 v4 v5 v6 v7 v8 v9 v10 v11 v12 v13 v14 v15 : Value) (hg : w.heap[b]? = some (.cells #[x0, x1, x2, x3, x4, x5, x6, x7, x8, x9, x10, x11, x12, x13, x14, x15] t (0, 0))) : ((World.setCell (World.setCell (World.setCell (World.setCell (World.setCell (World.setCell (World.setCell (World.setCell (World.setCell (World.setCell (World.setCell (World.setCell (World.setCell (World.setCell (World.setCell (World.setCell w ⟨b, 0, none⟩ v0) ⟨b, 1, none⟩ v1) ⟨b, 2, none⟩ v2) ⟨b, 3, none⟩ v3) ⟨b, 4, none⟩ v4) ⟨b, 5, none⟩ v5) ⟨b, 6, none⟩ v6) ⟨b, 7, none⟩ v7) ⟨b, 8, none⟩ v8) ⟨b, 9, none⟩ v9) ⟨b, 10, none⟩ v10) ⟨b, 11, none⟩ v11) ⟨b, 12, none⟩ v12) ⟨b, 13, none⟩ v13) ⟨b, 14, none⟩ v14) ⟨b, 15, none⟩ v15)).heap[b]? = some (.cells #[v0, v1, v2, v3, v4, v5, v6, v7, v8, v9, v10, v11, v12, v13, v14, v15] t (0, 0)) := by
  refine ((heap_setCell_same _ b 15 _ _ v15 (heap_setCell_same _ b 14 _ _ v14 (heap_setCell_same _ b 13 _ _ v13 (heap_setCell_same _ b 12 _ _ v12 (heap_setCell_same _ b 11 _ _ v11 (heap_setCell_same _ b 10 _ _ v10 (heap_setCell_same _ b 9 _ _ v9 (heap_setCell_same _ b 8 _ _ v8 (heap_setCell_same _ b 7 _ _ v7 (heap_setCell_same _ b 6 _ _ v6 (heap_setCell_same _ b 5 _ _ v5 (heap_setCell_same _ b 4 _ _ v4 (heap_setCell_same _ b 3 _ _ v3 (heap_setCell_same _ b 2 _ _ v2 (heap_setCell_same _ b 1 _ _ v1 (heap_setCell_same _ b 0 _ _ v0 hg))))))))))))))))).trans ?_
  simp
theorem below16 {B : Nat} {w0 w : World} {b : Nat} (v0 v1 v2 v3 v4 v5 v6 v7 v8 v9 v10 v11 v12 v13 v14 v15 : Value) (h : Below B w0 w) (hB : B ≤ b) : Below B w0 (World.setCell (World.setCell (World.setCell (World.setCell (World.setCell (World.setCell (World.setCell (World.setCell (World.setCell (World.setCell (World.setCell (World.setCell (World.setCell (World.setCell (World.setCell (World.setCell w ⟨b, 0, none⟩ v0) ⟨b, 1, none⟩ v1) ⟨b, 2, none⟩ v2) ⟨b, 3, none⟩ v3) ⟨b, 4, none⟩ v4) ⟨b, 5, none⟩ v5) ⟨b, 6, none⟩ v6) ⟨b, 7, none⟩ v7) ⟨b, 8, none⟩ v8) ⟨b, 9, none⟩ v9) ⟨b, 10, none⟩ v10) ⟨b, 11, none⟩ v11) ⟨b, 12, none⟩ v12) ⟨b, 13, none⟩ v13) ⟨b, 14, none⟩ v14) ⟨b, 15, none⟩ v15) := (Below.setCell (Below.setCell (Below.setCell (Below.setCell (Below.setCell (Below.setCell (Below.setCell (Below.setCell (Below.setCell (Below.setCell (Below.setCell (Below.setCell (Below.setCell (Below.setCell (Below.setCell (Below.setCell h hB v0) hB v1) hB v2) hB v3) hB v4) hB v5) hB v6) hB v7) hB v8) hB v9) hB v10) hB v11) hB v12) hB v13) hB v14) hB v15)
theorem other16 (w : World) {b k : Nat} (v0 v1 v2 v3 v4 v5 v6 v7 v8 v9 v10 v11 v12 v13 v14 v15 : Value) (h : k ≠ b) : ((World.setCell (World.setCell (World.setCell (World.setCell (World.setCell (World.setCell (World.setCell (World.setCell (World.setCell (World.setCell (World.setCell (World.setCell (World.setCell (World.setCell (World.setCell (World.setCell w ⟨b, 0, none⟩ v0) ⟨b, 1, none⟩ v1) ⟨b, 2, none⟩ v2) ⟨b, 3, none⟩ v3) ⟨b, 4, none⟩ v4) ⟨b, 5, none⟩ v5) ⟨b, 6, none⟩ v6) ⟨b, 7, none⟩ v7) ⟨b, 8, none⟩ v8) ⟨b, 9, none⟩ v9) ⟨b, 10, none⟩ v10) ⟨b, 11, none⟩ v11) ⟨b, 12, none⟩ v12) ⟨b, 13, none⟩ v13) ⟨b, 14, none⟩ v14) ⟨b, 15, none⟩ v15)).heap[k]? = w.heap[k]? := by
  iterate 16 rw [heap_setCell_other _ _ _ _ (by exact h)]
theorem size16 (w : World) {b : Nat} (v0 v1 v2 v3 v4 v5 v6 v7 v8 v9 v10 v11 v12 v13 v14 v15 : Value) : ((World.setCell (World.setCell (World.setCell (World.setCell (World.setCell (World.setCell (World.setCell (World.setCell (World.setCell (World.setCell (World.setCell (World.setCell (World.setCell (World.setCell (World.setCell (World.setCell w ⟨b, 0, none⟩ v0) ⟨b, 1, none⟩ v1) ⟨b, 2, none⟩ v2) ⟨b, 3, none⟩ v3) ⟨b, 4, none⟩ v4) ⟨b, 5, none⟩ v5) ⟨b, 6, none⟩ v6) ⟨b, 7, none⟩ v7) ⟨b, 8, none⟩ v8) ⟨b, 9, none⟩ v9) ⟨b, 10, none⟩ v10) ⟨b, 11, none⟩ v11) ⟨b, 12, none⟩ v12) ⟨b, 13, none⟩ v13) ⟨b, 14, none⟩ v14) ⟨b, 15, none⟩ v15)).heap.size = w.heap.size := by simp
/-- the call makes a node of this kind -/
def NodePut (it : Item) (w : World) (e : Ending) (w2 : World) : Prop := ∃ cs : Array Value, cs.size = 16 ∧ cs.all (·.oneCell') = true ∧ NodeIs it w.heap.size w2.heap.size cs w2 ∧ e = .returned (.agg cs) ∧ Below w.heap.size w w2
theorem lnkCells_size (t : ByteArray) (v : Value) : (lnkCells t v).size = 16 := rfl
theorem lnkCells_one (t : ByteArray) (b c : Nat) : (lnkCells t (.slice (some ⟨b, 0, none⟩) 1 c)).all (·.oneCell') = true := by simp [lnkCells, Value.oneCell']
set_option maxHeartbeats 4000000 in
set_option maxRecDepth 100000 in
theorem impl_inline_link (u t : ByteArray) (k g h : Nat) (w : World) (hx : LinkIn u t k g h w) :
    Calls Tryz.prog 13 #[.iface 69 (.pointer (some ⟨k, 0, none⟩))] w (NodePut (.link u t) w) := by
  have a0 : ∀ w, (Instr.typeAssert (.iface 69 (.pointer (some ⟨k, 0, none⟩))) 34 55 true).run Tryz.prog w = .ok (.tuple #[.pointer none, .bool false]) w := fun w => assert_miss (by kernel_rfl) (by decide) (by kernel_rfl) _ _ w
  have a1 : ∀ w, (Instr.typeAssert (.iface 69 (.pointer (some ⟨k, 0, none⟩))) 34 58 true).run Tryz.prog w = .ok (.tuple #[.pointer none, .bool false]) w := fun w => assert_miss (by kernel_rfl) (by decide) (by kernel_rfl) _ _ w
  have a2 : ∀ w, (Instr.typeAssert (.iface 69 (.pointer (some ⟨k, 0, none⟩))) 34 59 true).run Tryz.prog w = .ok (.tuple #[.pointer none, .bool false]) w := fun w => assert_miss (by kernel_rfl) (by decide) (by kernel_rfl) _ _ w
  have a3 : ∀ w, (Instr.typeAssert (.iface 69 (.pointer (some ⟨k, 0, none⟩))) 34 60 true).run Tryz.prog w = .ok (.tuple #[.pointer none, .bool false]) w := fun w => assert_miss (by kernel_rfl) (by decide) (by kernel_rfl) _ _ w
  have a4 : ∀ w, (Instr.typeAssert (.iface 69 (.pointer (some ⟨k, 0, none⟩))) 34 62 true).run Tryz.prog w = .ok (.tuple #[.pointer none, .bool false]) w := fun w => assert_miss (by kernel_rfl) (by decide) (by kernel_rfl) _ _ w
  have a5 : ∀ w, (Instr.typeAssert (.iface 69 (.pointer (some ⟨k, 0, none⟩))) 34 65 true).run Tryz.prog w = .ok (.tuple #[.pointer none, .bool false]) w := fun w => assert_miss (by kernel_rfl) (by decide) (by kernel_rfl) _ _ w
  have a6 : ∀ w, (Instr.typeAssert (.iface 69 (.pointer (some ⟨k, 0, none⟩))) 34 67 true).run Tryz.prog w = .ok (.tuple #[.pointer none, .bool false]) w := fun w => assert_miss (by kernel_rfl) (by decide) (by kernel_rfl) _ _ w
  have az : ∀ w, (Instr.typeAssert (.iface 69 (.pointer (some ⟨k, 0, none⟩))) 34 69 true).run Tryz.prog w = .ok (.tuple #[.pointer (some ⟨k, 0, none⟩), .bool true]) w := fun w => assert_hit (by kernel_rfl) _ _ w
  have H := Lib.hid (fun w => md_ZZPlain 69 (.pointer (some ⟨k, 0, none⟩)) w (by decide) (by decide) (by decide))
  have HM := Lib.hid (fun w => impl_mark_zero w)
  obtain ⟨⟨cap, f, hb0⟩, hb1, hb2⟩ := hx
  have hkl : k < w.heap.size := (Array.getElem?_eq_some_iff.1 hb0).1
  generalize hO : Obj.cells (nodeCells 0 ⟨#[]⟩ false) 38 = O
  have HI := Lib.hid (impl_inlines_one t g cap h (w.alloc O).drew (hb1.of (heap_alloc_old w _ hb1.lt)) (hb2.of (heap_alloc_old w _ hb2.lt)))
  have HB0 := Lib.hid hb0
  have e0 : (w.alloc O).heap[k]? = _ := (heap_alloc_old w O hkl).trans hb0
  have hc0 := fun j => Lib.cell_of_heap e0 j
  have d0 := hc0 0; have d1 := hc0 1; have d2 := hc0 2; have d3 := hc0 3
  simp at d0 d1 d2 d3
  clear hb0 hb1 hb2 e0 hc0
  have b0 : (w.alloc O).drew.cell? ⟨k, 0, none⟩ = _ := d0
  have b1 : (w.alloc O).drew.cell? ⟨k, 1, none⟩ = _ := d1
  have b2 : (w.alloc O).drew.cell? ⟨k, 2, none⟩ = _ := d2
  have b3 : (w.alloc O).drew.cell? ⟨k, 3, none⟩ = _ := d3
  subst hO
  have hne : w.heap.size ≠ k := by omega
  unfold nodeCells at *
  unfold NodePut
  unfold KidMade at HI
  go_enter Tryz.func13, Tryz.ntmps13
  go_wp2_with (go_at_call 19; refine (H.out _).mono ?_; rintro e w' ⟨rfl, rfl⟩)
  go_region_held3 (fun w' => w'.cell? ⟨k, 0, none⟩ = some (.slice (some ⟨g, 0, none⟩) 1 cap) ∧ w'.cell? ⟨k, 1, none⟩ = some (.string u) ∧ w'.cell? ⟨k, 2, none⟩ = some (.string ⟨#[]⟩) ∧ w'.cell? ⟨k, 3, none⟩ = some (.int .u8 0)) (first | with_reducible exact ⟨d0, d1, d2, d3⟩ | with_reducible exact ⟨b0, b1, b2, b3⟩ | with_reducible exact ⟨f0, f1, f2, f3⟩ | with_reducible exact ⟨far16 _ _ _ _ _ _ _ _ _ _ _ _ _ _ _ _ hne f0, far16 _ _ _ _ _ _ _ _ _ _ _ _ _ _ _ _ hne f1, far16 _ _ _ _ _ _ _ _ _ _ _ _ _ _ _ _ hne f2, far16 _ _ _ _ _ _ _ _ _ _ _ _ _ _ _ _ hne f3⟩)
    (first
      | (go_at_call 20; refine (HM.out _).mono ?_; rintro e w3 ⟨rfl, rfl⟩)
      | (go_at_call 8; refine HI.out.mono ?_; rintro e w2 ⟨kb, cap2, rfl, hk1, hk2, hk3, hk4⟩; have hrow := row_kept hk4 (g := w.heap.size) (heap_alloc_new w _) (by show _ < (w.alloc _).heap.size; simp); have hcc := fun j => Lib.cell_of_heap hrow j; have e0 := hcc 0; have e1 := hcc 1; have e2 := hcc 2; have e3 := hcc 3; have e4 := hcc 4; have e5 := hcc 5; have e6 := hcc 6; have e7 := hcc 7; have e8 := hcc 8; have e9 := hcc 9; have e10 := hcc 10; have e11 := hcc 11; have e12 := hcc 12; have e13 := hcc 13; have e14 := hcc 14; have e15 := hcc 15; simp at e0 e1 e2 e3 e4 e5 e6 e7 e8 e9 e10 e11 e12 e13 e14 e15; have hfz : ∀ j, w2.frozen? ⟨w.heap.size, j, none⟩ = false := fun j => Lib.frozen_of_heap hrow j; clear hcc; have hkl2 : k < (w.alloc (Obj.cells #[.int .i64 0, .string ⟨#[]⟩, .string ⟨#[]⟩, .int .i64 0, .string ⟨#[]⟩, .bool false, .slice none 0 0, .slice none 0 0, .int .i64 0, .int .i64 0, .string ⟨#[]⟩, .int .i64 0, .bool false, .bool false, .bool false, .slice none 0 0] 38)).drew.heap.size := Nat.lt_trans hkl (by show _ < (w.alloc _).heap.size; simp); have f0 := (hk4.cell (p := ⟨k, 0, none⟩) hkl2).trans d0; have f1 := (hk4.cell (p := ⟨k, 1, none⟩) hkl2).trans d1; have f2 := (hk4.cell (p := ⟨k, 2, none⟩) hkl2).trans d2; have f3 := (hk4.cell (p := ⟨k, 3, none⟩) hkl2).trans d3))
  all_goals go_wp2
  have hB : Below w.heap.size w w2 := ((Below.refl _ _).alloc (Nat.le_refl _) _).trans (Below.mono (Below.trans (Below.drew (Below.refl _ _)) hk4) (by show _ ≤ (w.alloc _).heap.size; simp))
  have hB2 := below16 (.int .i64 27) (.string u) (.string ⟨#[]⟩) (.int .i64 0) (.string ⟨#[]⟩) (.bool false) (.slice none 0 0) (.slice (some ⟨kb, 0, none⟩) 1 cap2) (.int .i64 0) (.int .i64 0) (.string ⟨#[]⟩) (.int .i64 0) (.bool false) (.bool false) (.bool false) (.slice none 0 0) hB (Nat.le_refl w.heap.size)
  have hK := hk3.of (other16 w2 (k := kb) (b := w.heap.size) (.int .i64 27) (.string u) (.string ⟨#[]⟩) (.int .i64 0) (.string ⟨#[]⟩) (.bool false) (.slice none 0 0) (.slice (some ⟨kb, 0, none⟩) 1 cap2) (.int .i64 0) (.int .i64 0) (.string ⟨#[]⟩) (.int .i64 0) (.bool false) (.bool false) (.bool false) (.slice none 0 0) (by have : (w.alloc _).heap.size ≤ kb := hk1; simp at this; omega))
  have hR := row16 _ _ _ _ _ _ _ _ _ _ _ _ _ _ _ _ (.int .i64 27) (.string u) (.string ⟨#[]⟩) (.int .i64 0) (.string ⟨#[]⟩) (.bool false) (.slice none 0 0) (.slice (some ⟨kb, 0, none⟩) 1 cap2) (.int .i64 0) (.int .i64 0) (.string ⟨#[]⟩) (.int .i64 0) (.bool false) (.bool false) (.bool false) (.slice none 0 0) hrow (w := w2)
  have hS := size16 w2 (b := w.heap.size) (.int .i64 27) (.string u) (.string ⟨#[]⟩) (.int .i64 0) (.string ⟨#[]⟩) (.bool false) (.slice none 0 0) (.slice (some ⟨kb, 0, none⟩) 1 cap2) (.int .i64 0) (.int .i64 0) (.string ⟨#[]⟩) (.int .i64 0) (.bool false) (.bool false) (.bool false) (.slice none 0 0)
  generalize World.setCell _ _ _ = X at hB2 hK hR hS ⊢
  have hk1' : w.heap.size ≤ kb := by have : (w.alloc _).heap.size ≤ kb := hk1; simp at this; omega
  have hl := load_struct (P := Tryz.prog) (ty := 38) (n := 16) (by kernel_rfl) X w.heap.size 38 (lnkCells u (.slice (some ⟨kb, 0, none⟩) 1 cap2)) (0, 0) hR rfl
  exact bodyPost_ret (v := .agg (lnkCells u (.slice (some ⟨kb, 0, none⟩) 1 cap2))) (by simp [results, asAddr, hl]) rfl ⟨_, lnkCells_size _ _, lnkCells_one _ _ _, ⟨kb, cap2, hk1', by omega, rfl, hK⟩, rfl, hB2⟩
end Go.Proofs.YtbbgdcfbpgmjbaaGreatDoor
