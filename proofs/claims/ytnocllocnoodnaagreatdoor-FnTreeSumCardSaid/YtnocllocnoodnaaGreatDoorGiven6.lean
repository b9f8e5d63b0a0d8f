/- 'given': walks (printed by mkgiven.py). -/
import Derived.Test.YtnocllocnoodnaaGreatDoorGivesAll
namespace Go.Proofs.YtnocllocnoodnaaGreatDoor
open Go.RowKit
set_option linter.unusedSimpArgs false
set_option maxHeartbeats 2000000 in
set_option maxRecDepth 100000 in
theorem given_listTT (Qs : Nat → Bool → Nat → Nat → Array Value → World → Prop) (hS : Sayable (fun i => Qs i false)) (css : List (Array Value)) (kb c lo hi : Nat) (ti : ByteArray) (nu : Int) (ch : ByteArray) (fr tl : Int) (w : World) (hrow : RowAt 27 kb (css.flatMap Array.toList) w) (hn : css.length ≤ 1000) (hhi : hi ≤ w.heap.size)
    (H : ∀ i (h : i < css.length), GivesTo (Qs i) lo hi css[i] w) :
    Calls Tryz.prog 6 #[.agg #[.int .i64 3, .string ⟨#[]⟩, .string ti, .int .i64 nu, .string ch, .bool true, .slice none 0 0, .slice (some ⟨kb, 0, none⟩) css.length c, .int .i64 fr, .int .i64 tl], .bool true] w (TurnedRow (fun i => Qs i false) (fun o => #[.int .i64 3, .string ⟨#[]⟩, .string ti, .int .i64 nu, .string ch, .bool true, .slice none 0 0, o, .int .i64 0, .int .i64 0, .string ⟨#[]⟩, .int .i64 0, .bool false, .bool false, .bool false, .slice none 0 0]) css.length w) := by
  obtain ⟨j0, hj, hz0, hz1, hz2⟩ := info_parts node_info
  have hi16 : (Tryz.prog.info? 33).map (·.size) = some 16 := by rw [hj]; simp [hz1]
  have HI := Lib.hid hi16
  have HI10 := Lib.hid spc_info
  clear hi16
  have HC : Hid (∀ k (h : k < css.length) wx, Below w.heap.size w wx → Calls Tryz.prog 6 #[.agg css[k], .bool false] wx (GivenX (Qs k false) wx)) := Lib.hid (fun k h wx hb => (H k h).call _ wx (fun b hb1 hb2 _ => hb.block b (by omega)) hb.size (Nat.le_trans hhi hb.size))
  have HSZ : Hid (∀ c ∈ css, c.size = 10 ∧ c.all (·.oneCell') = true) := Lib.hid (fun c hc => by obtain ⟨i, hi, rfl⟩ := List.getElem_of_mem hc; exact (H i hi).shape)
  have HR : Hid (∀ wx, Below w.heap.size w wx → ∀ k (h : k < css.length), wx.rangeAt kb (k * 10) css[k].toList) := Lib.hid (fun wx hb k h => row_rangeN (hrow.below hrow.lt hb) (fun c hc => (HSZ.out c hc).1) h)
  have HM0 : Hid (Made (fun i => Qs i false) Array.toList 33 16 (w.heap.size + 3) [] (.slice none 0 0) (((w.alloc (.cells #[.int .i64 3, .string ⟨#[]⟩, .string ti, .int .i64 nu, .string ch, .bool true, .slice none 0 0, .slice (some ⟨kb, 0, none⟩) css.length c, .int .i64 fr, .int .i64 tl] 27)).alloc (.cells #[.int .i64 0, .string ⟨#[]⟩, .string ⟨#[]⟩, .int .i64 0, .string ⟨#[]⟩, .bool false, .slice none 0 0, .slice none 0 0, .int .i64 0, .int .i64 0, .string ⟨#[]⟩, .int .i64 0, .bool false, .bool false, .bool false, .slice none 0 0] 33)).alloc (.cells #[.int .i64 3, .string ⟨#[]⟩, .string ti, .int .i64 nu, .string ch, .bool true, .slice none 0 0, (.slice none 0 0), .int .i64 0, .int .i64 0, .string ⟨#[]⟩, .int .i64 0, .bool false, .bool false, .bool false, .slice none 0 0] 33))) := Lib.hid (Made.nil _ _ _ _ _ _)
  have HB0 : Hid (Below w.heap.size w (((w.alloc (.cells #[.int .i64 3, .string ⟨#[]⟩, .string ti, .int .i64 nu, .string ch, .bool true, .slice none 0 0, .slice (some ⟨kb, 0, none⟩) css.length c, .int .i64 fr, .int .i64 tl] 27)).alloc (.cells #[.int .i64 0, .string ⟨#[]⟩, .string ⟨#[]⟩, .int .i64 0, .string ⟨#[]⟩, .bool false, .slice none 0 0, .slice none 0 0, .int .i64 0, .int .i64 0, .string ⟨#[]⟩, .int .i64 0, .bool false, .bool false, .bool false, .slice none 0 0] 33)).alloc (.cells #[.int .i64 3, .string ⟨#[]⟩, .string ti, .int .i64 nu, .string ch, .bool true, .slice none 0 0, (.slice none 0 0), .int .i64 0, .int .i64 0, .string ⟨#[]⟩, .int .i64 0, .bool false, .bool false, .bool false, .slice none 0 0] 33))) := Lib.hid ((((Below.refl _ _).alloc (Nat.le_refl _) _).alloc (by simp) _).alloc (by simp; omega) _)
  have HH0 : Hid (BlocksOf w.heap.size #[.int .i64 3, .string ⟨#[]⟩, .string ti, .int .i64 nu, .string ch, .bool true, .slice none 0 0, .slice (some ⟨kb, 0, none⟩) css.length c, .int .i64 fr, .int .i64 tl] #[.int .i64 0, .string ⟨#[]⟩, .string ⟨#[]⟩, .int .i64 0, .string ⟨#[]⟩, .bool false, .slice none 0 0, .slice none 0 0, .int .i64 0, .int .i64 0, .string ⟨#[]⟩, .int .i64 0, .bool false, .bool false, .bool false, .slice none 0 0] #[.int .i64 3, .string ⟨#[]⟩, .string ti, .int .i64 nu, .string ch, .bool true, .slice none 0 0, (.slice none 0 0), .int .i64 0, .int .i64 0, .string ⟨#[]⟩, .int .i64 0, .bool false, .bool false, .bool false, .slice none 0 0] (((w.alloc (.cells #[.int .i64 3, .string ⟨#[]⟩, .string ti, .int .i64 nu, .string ch, .bool true, .slice none 0 0, .slice (some ⟨kb, 0, none⟩) css.length c, .int .i64 fr, .int .i64 tl] 27)).alloc (.cells #[.int .i64 0, .string ⟨#[]⟩, .string ⟨#[]⟩, .int .i64 0, .string ⟨#[]⟩, .bool false, .slice none 0 0, .slice none 0 0, .int .i64 0, .int .i64 0, .string ⟨#[]⟩, .int .i64 0, .bool false, .bool false, .bool false, .slice none 0 0] 33)).alloc (.cells #[.int .i64 3, .string ⟨#[]⟩, .string ti, .int .i64 nu, .string ch, .bool true, .slice none 0 0, (.slice none 0 0), .int .i64 0, .int .i64 0, .string ⟨#[]⟩, .int .i64 0, .bool false, .bool false, .bool false, .slice none 0 0] 33))) := Lib.hid (blocks_of _ _ _ _)
  clear H hrow
  unfold TurnedRow
  unfold GivenX at HC
  go_enter Tryz.func6, Tryz.ntmps6
  go_wp2_with (first
    | (refine wpList_store_new rfl 33 16 _ _ rfl HI.out _ #[.int .i64 3, .string ⟨#[]⟩, .string ti, .int .i64 nu, .string ch, .bool true, .slice none 0 0, (.slice none 0 0), .int .i64 0, .int .i64 0, .string ⟨#[]⟩, .int .i64 0, .bool false, .bool false, .bool false, .slice none 0 0] rfl rfl rfl rfl (by simp [Value.oneCell']) ?_))
  go_loopg [50] css.length (fun gg j wx => ∃ k os o, k + gg = css.length ∧ j = .int .i64 k ∧ os.length = k ∧ Hid (BlocksOf w.heap.size #[.int .i64 3, .string ⟨#[]⟩, .string ti, .int .i64 nu, .string ch, .bool true, .slice none 0 0, .slice (some ⟨kb, 0, none⟩) css.length c, .int .i64 fr, .int .i64 tl] #[.int .i64 0, .string ⟨#[]⟩, .string ⟨#[]⟩, .int .i64 0, .string ⟨#[]⟩, .bool false, .slice none 0 0, .slice none 0 0, .int .i64 0, .int .i64 0, .string ⟨#[]⟩, .int .i64 0, .bool false, .bool false, .bool false, .slice none 0 0] #[.int .i64 3, .string ⟨#[]⟩, .string ti, .int .i64 nu, .string ch, .bool true, .slice none 0 0, o, .int .i64 0, .int .i64 0, .string ⟨#[]⟩, .int .i64 0, .bool false, .bool false, .bool false, .slice none 0 0] wx) ∧ Hid (Made (fun i => Qs i false) Array.toList 33 16 (w.heap.size + 3) os o wx) ∧ Hid (∀ c ∈ os, c.size = 16 ∧ c.all (·.oneCell') = true) ∧ Below w.heap.size w wx)
  case atStart => exact ⟨0, [], .slice none 0 0, by omega, rfl, rfl, HH0, HM0, Lib.hid (fun _ h => absurd h List.not_mem_nil), HB0.out⟩
  case round =>
    obtain ⟨k, os, o, hk, rfl, hol, HH, HM, HSO, hbel⟩ := hrel
    clear HM0 HH0 HB0
    by_cases hlt : k < css.length
    · have HRR := Lib.hid (HR.out wr hbel k hlt)
      have HCC := Lib.hid (fun w' hb => HC.out k hlt w' hb)
      have HS2 := Lib.hid (HSZ.out css[k] (List.getElem_mem hlt))
      generalize css[k] = cs at *
      obtain ⟨x0, x1, x2, x3, x4, x5, x6, x7, x8, x9, rfl⟩ := arr10 HS2.out.1
      go_wp2_with (first
        | (refine wpList_load_mid rfl 27 _ rfl kb (k * 10) rfl [x0, x1, x2, x3, x4, x5, x6, x7, x8, x9] _ HRR.out Tryz.underlying27 rfl HI10.out ?_)
        | (refine wpList_store_new rfl 27 10 _ _ rfl HI10.out _ #[x0, x1, x2, x3, x4, x5, x6, x7, x8, x9] rfl rfl rfl rfl HS2.out.2 ?_))
      have HO := Lib.hid HM.out.1
      have hBW : Below w.heap.size w (wr.alloc (.cells #[x0, x1, x2, x3, x4, x5, x6, x7, x8, x9] 27)) := hbel.alloc hbel.size _
      have hBW1 : Below wr.heap.size wr (wr.alloc (.cells #[x0, x1, x2, x3, x4, x5, x6, x7, x8, x9] 27)) := (Below.refl _ _).alloc (Nat.le_refl _) _
      have hsz3 := HH.out.2.2.2
      have hS : ReadsG w.heap.size wr.heap.size 3 true o [x0, x1, x2, x3, x4, x5, x6, x7, x8, x9] (wr.alloc (.cells #[x0, x1, x2, x3, x4, x5, x6, x7, x8, x9] 27)).drew := ⟨Lib.cell_of_heap ((heap_alloc_old wr _ (by omega)).trans HH.out.1) 0, Lib.cell_of_heap ((heap_alloc_old wr _ (by omega)).trans HH.out.1) 5, Lib.cell_of_heap ((heap_alloc_old wr _ (by omega)).trans HH.out.2.2.1) 7, range_whole (heap_alloc_new wr _)⟩
      have HB := Lib.hid hBW
      have HB1 := Lib.hid hBW1
      clear hBW hBW1
      refine wp_region_B (ReadsG w.heap.size wr.heap.size 3 true o [x0, x1, x2, x3, x4, x5, x6, x7, x8, x9]) 23 (by kernel_rfl) ?_
      refine wpAnyB_take (i := 0) (.pointer (some ⟨w.heap.size + 1 + 1, 7, none⟩)) rfl (by kernel_rfl) (by kernel_rfl) (by kernel_rfl) (by kernel_rfl) rfl (fun _ _ _ h => h) hS (yields_in (by kernel_rfl) (fun w hSw => by obtain ⟨s0, s5, s7, sx⟩ := hSw; go_simp)) ?_
      simp only [Act.put, List.setIfInBounds_toArray, List.set_cons_zero, List.set_cons_succ]
      refine wpAnyB_take (i := 1) (o) rfl (by kernel_rfl) (by kernel_rfl) (by kernel_rfl) (by kernel_rfl) rfl (fun _ _ _ h => h) hS (yields_in (by kernel_rfl) (fun w hSw => by obtain ⟨s0, s5, s7, sx⟩ := hSw; go_simp)) ?_
      simp only [Act.put, List.setIfInBounds_toArray, List.set_cons_zero, List.set_cons_succ]
      refine wpAnyB_take (i := 2) (.agg #[x0, x1, x2, x3, x4, x5, x6, x7, x8, x9]) rfl (by kernel_rfl) (by kernel_rfl) (by kernel_rfl) (by kernel_rfl) rfl (fun _ _ _ h => h) hS (yieldsIf_load_mid (by kernel_rfl) 27 _ rfl wr.heap.size 0 rfl [x0, x1, x2, x3, x4, x5, x6, x7, x8, x9] _ (fun w h => h.2.2.2) Tryz.underlying27 rfl HI10.out) ?_
      simp only [Act.put, List.setIfInBounds_toArray, List.set_cons_zero, List.set_cons_succ]
      refine wpAnyB_take (i := 3) (.pointer (some ⟨w.heap.size, 0, none⟩)) rfl (by kernel_rfl) (by kernel_rfl) (by kernel_rfl) (by kernel_rfl) rfl (fun _ _ _ h => h) hS (yields_in (by kernel_rfl) (fun w hSw => by obtain ⟨s0, s5, s7, sx⟩ := hSw; go_simp)) ?_
      simp only [Act.put, List.setIfInBounds_toArray, List.set_cons_zero, List.set_cons_succ]
      refine wpAnyB_take (i := 4) (.int .i64 3) rfl (by kernel_rfl) (by kernel_rfl) (by kernel_rfl) (by kernel_rfl) rfl (fun _ _ _ h => h) hS (yields_in (by kernel_rfl) (fun w hSw => by obtain ⟨s0, s5, s7, sx⟩ := hSw; go_simp)) ?_
      simp only [Act.put, List.setIfInBounds_toArray, List.set_cons_zero, List.set_cons_succ]
      refine wpAnyB_take (i := 5) (.bool true) rfl (by kernel_rfl) (by kernel_rfl) (by kernel_rfl) (by kernel_rfl) rfl (fun _ _ _ h => h) hS (yields_in (by kernel_rfl) (fun w hSw => by obtain ⟨s0, s5, s7, sx⟩ := hSw; go_simp)) ?_
      simp only [Act.put, List.setIfInBounds_toArray, List.set_cons_zero, List.set_cons_succ]
      refine wpAnyB_take (i := 6) (.bool true) rfl (by kernel_rfl) (by kernel_rfl) (by kernel_rfl) (by kernel_rfl) rfl (fun _ _ _ h => h) hS (yields_in (by kernel_rfl) (fun w hSw => by obtain ⟨s0, s5, s7, sx⟩ := hSw; go_simp)) ?_
      simp only [Act.put, List.setIfInBounds_toArray, List.set_cons_zero, List.set_cons_succ]
      refine wpAnyB_take (i := 7) (.pointer (some ⟨w.heap.size, 5, none⟩)) rfl (by kernel_rfl) (by kernel_rfl) (by kernel_rfl) (by kernel_rfl) rfl (fun _ _ _ h => h) hS (yields_in (by kernel_rfl) (fun w hSw => by obtain ⟨s0, s5, s7, sx⟩ := hSw; go_simp)) ?_
      simp only [Act.put, List.setIfInBounds_toArray, List.set_cons_zero, List.set_cons_succ]
      refine wpAnyB_take (i := 8) (.bool true) rfl (by kernel_rfl) (by kernel_rfl) (by kernel_rfl) (by kernel_rfl) rfl (fun _ _ _ h => h) hS (yields_in (by kernel_rfl) (fun w hSw => by obtain ⟨s0, s5, s7, sx⟩ := hSw; go_simp)) ?_
      simp only [Act.put, List.setIfInBounds_toArray, List.set_cons_zero, List.set_cons_succ]
      refine wpAnyB_take (i := 9) (.bool false) rfl (by kernel_rfl) (by kernel_rfl) (by kernel_rfl) (by kernel_rfl) rfl (fun _ _ _ h => h) hS (yields_in (by kernel_rfl) (fun w hSw => by obtain ⟨s0, s5, s7, sx⟩ := hSw; go_simp)) ?_
      simp only [Act.put, List.setIfInBounds_toArray, List.set_cons_zero, List.set_cons_succ]
      refine wpAnyB_take (i := 10) (.bool false) rfl (by kernel_rfl) (by kernel_rfl) (by kernel_rfl) (by kernel_rfl) rfl (fun _ _ _ h => h) hS (yields_in (by kernel_rfl) (fun w hSw => by obtain ⟨s0, s5, s7, sx⟩ := hSw; go_simp)) ?_
      simp only [Act.put, List.setIfInBounds_toArray, List.set_cons_zero, List.set_cons_succ]
      refine wpAnyB_take (i := 11) (.bool false) rfl (by kernel_rfl) (by kernel_rfl) (by kernel_rfl) (by kernel_rfl) rfl (fun _ _ _ h => h) hS (yields_in (by kernel_rfl) (fun w hSw => by obtain ⟨s0, s5, s7, sx⟩ := hSw; go_simp)) ?_
      simp only [Act.put, List.setIfInBounds_toArray, List.set_cons_zero, List.set_cons_succ]
      refine wpAnyB_take (i := 12) (.bool true) rfl (by kernel_rfl) (by kernel_rfl) (by kernel_rfl) (by kernel_rfl) rfl (fun _ _ _ h => h) hS (yields_in (by kernel_rfl) (fun w hSw => by obtain ⟨s0, s5, s7, sx⟩ := hSw; go_simp)) ?_
      simp only [Act.put, List.setIfInBounds_toArray, List.set_cons_zero, List.set_cons_succ]
      refine wpAnyB_take (i := 13) (.bool true) rfl (by kernel_rfl) (by kernel_rfl) (by kernel_rfl) (by kernel_rfl) rfl (fun _ _ _ h => h) hS (yields_in (by kernel_rfl) (fun w hSw => by obtain ⟨s0, s5, s7, sx⟩ := hSw; go_simp)) ?_
      simp only [Act.put, List.setIfInBounds_toArray, List.set_cons_zero, List.set_cons_succ]
      refine wpAnyB_take (i := 14) (.pointer (some ⟨w.heap.size, 0, none⟩)) rfl (by kernel_rfl) (by kernel_rfl) (by kernel_rfl) (by kernel_rfl) rfl (fun _ _ _ h => h) hS (yields_in (by kernel_rfl) (fun w hSw => by obtain ⟨s0, s5, s7, sx⟩ := hSw; go_simp)) ?_
      simp only [Act.put, List.setIfInBounds_toArray, List.set_cons_zero, List.set_cons_succ]
      refine wpAnyB_take (i := 15) (.int .i64 3) rfl (by kernel_rfl) (by kernel_rfl) (by kernel_rfl) (by kernel_rfl) rfl (fun _ _ _ h => h) hS (yields_in (by kernel_rfl) (fun w hSw => by obtain ⟨s0, s5, s7, sx⟩ := hSw; go_simp)) ?_
      simp only [Act.put, List.setIfInBounds_toArray, List.set_cons_zero, List.set_cons_succ]
      refine wpAnyB_take (i := 16) (.bool false) rfl (by kernel_rfl) (by kernel_rfl) (by kernel_rfl) (by kernel_rfl) rfl (fun _ _ _ h => h) hS (yields_in (by kernel_rfl) (fun w hSw => by obtain ⟨s0, s5, s7, sx⟩ := hSw; go_simp)) ?_
      simp only [Act.put, List.setIfInBounds_toArray, List.set_cons_zero, List.set_cons_succ]
      refine wpAnyB_take (i := 17) (.bool false) rfl (by kernel_rfl) (by kernel_rfl) (by kernel_rfl) (by kernel_rfl) rfl (fun _ _ _ h => h) hS (yields_in (by kernel_rfl) (fun w hSw => by obtain ⟨s0, s5, s7, sx⟩ := hSw; go_simp)) ?_
      simp only [Act.put, List.setIfInBounds_toArray, List.set_cons_zero, List.set_cons_succ]
      refine wpAnyB_take (i := 18) (.bool false) rfl (by kernel_rfl) (by kernel_rfl) (by kernel_rfl) (by kernel_rfl) rfl (fun _ _ _ h => h) hS (yields_in (by kernel_rfl) (fun w hSw => by obtain ⟨s0, s5, s7, sx⟩ := hSw; go_simp)) ?_
      simp only [Act.put, List.setIfInBounds_toArray, List.set_cons_zero, List.set_cons_succ]

      refine wpAnyB_one (i := 19) rfl (by kernel_rfl) (by kernel_rfl) (fun K hK => ?_)
      go_simp
      go_at_call 6
      refine (HCC.out _ HB.out.drew).mono ?_
      rintro e w2 ⟨cs, rfl, hcs, hcs1, hq, hb2⟩
      obtain ⟨y0, y1, y2, y3, y4, y5, y6, y7, y8, y9, y10, y11, y12, y13, y14, y15, rfl⟩ := arr16 hcs
      have hs2 : wr.heap.size + 1 ≤ w2.heap.size := (by have : (wr.alloc _).heap.size ≤ w2.heap.size := hb2.size; simpa using this)
      have hS2 := hS.keep (w' := w2) (hb2.block _ (by show w.heap.size < (wr.alloc _).heap.size; simp; omega)) (hb2.block _ (by show w.heap.size + 1 + 1 < (wr.alloc _).heap.size; simp; omega)) (hb2.block _ (by show wr.heap.size < (wr.alloc _).heap.size; simp))
      have HQ := Lib.hid hq
      have HB2 := Lib.hid hb2
      have HCS := Lib.hid hcs1
      clear hq hb2 hcs hcs1 hS
      refine hK.out _ _ ⟨fun _ => hS2, ?_⟩
      clear hK K
      try simp only [Act.put, List.setIfInBounds_toArray, List.set_cons_zero, List.set_cons_succ]
      refine wpAnyB_one (i := 20) rfl (by kernel_rfl) (by kernel_rfl) (fun K hK => ?_)
      go_simp
      have hS3 := hS2.keep (w' := w2.alloc (.cells #[y0, y1, y2, y3, y4, y5, y6, y7, y8, y9, y10, y11, y12, y13, y14, y15] 33)) (heap_alloc_old w2 _ (by omega)) (heap_alloc_old w2 _ (by omega)) (heap_alloc_old w2 _ (by omega))
      refine hK.out _ _ ⟨fun _ => hS3, ?_⟩
      clear hK K
      try simp only [Act.put, List.setIfInBounds_toArray, List.set_cons_zero, List.set_cons_succ]
      refine wpAnyB_one (i := 21) rfl (by kernel_rfl) (by kernel_rfl) (fun K hK => ?_)
      refine wp_append_lies _ _ _ 30 rfl (w.heap.size + 3) 33 j0 (nodeOf 0 ⟨#[]⟩ false) 16 192 Tryz.underlying30 hj hz0 hz1 hz2 rfl (by decide) _ _ _ rfl ((owns_below (owns_below HO.out HB1.out.drew) HB2.out).alloc _) ⟨w2.heap.size, 0, none⟩ 1 1 [y0, y1, y2, y3, y4, y5, y6, y7, y8, y9, y10, y11, y12, y13, y14, y15] rfl rfl (World.news_of_block (heap_alloc_new w2 _)) (fun u hu => (Array.all_eq_true_iff_forall_mem.1 HCS.out) u (by simpa using hu)) (by decide) (by unfold maxLen; omega) (by omega) (by simp; omega) (w2.heap.size + 1) (by simp) ?_
      intro g cap w3 hown hgrow hat hlt3
      have HH3 := Lib.hid (keep3 HH.out HO.out HB1.out.drew HB2.out hgrow)
      have hno : ∀ b, b < w.heap.size + 3 ∨ b = wr.heap.size → some b ≠ o.ownBlock := fun b hb hh => by have := HO.out.lt b hh.symm; omega
      have hS4 := hS3.keep (w' := w3) (hgrow.block _ (by simp; omega) (hno _ (by omega))) (hgrow.block _ (by simp; omega) (hno _ (by omega))) (hgrow.block _ (by simp; omega) (hno _ (by omega)))
      have f7 : w3.cell? ⟨w.heap.size + 1 + 1, 7, none⟩ = some o := hS4.2.2.1
      have fz7 : w3.frozen? ⟨w.heap.size + 1 + 1, 7, none⟩ = false := Lib.frozen_of_heap HH3.out.2.2.1 7
      refine hK.out _ _ ⟨fun _ => hS4, ?_⟩
      clear hK K hS2 hS3
      try simp only [Act.put, List.setIfInBounds_toArray, List.set_cons_zero, List.set_cons_succ]
      refine wpAnyB_one (i := 22) rfl (by kernel_rfl) (by kernel_rfl) (fun K hK => ?_)
      go_simp
      refine hK.out _ _ ⟨fun _ => hS4, ?_⟩
      clear hK K
      try simp only [Act.put, List.setIfInBounds_toArray, List.set_cons_zero, List.set_cons_succ]
      refine wpAnyB_one (i := 23) rfl (by kernel_rfl) (by kernel_rfl) (fun K hK => ?_)
      go_simp
      refine hK.out _ _ ⟨fun h => absurd rfl h, ?_⟩
      clear hK K hS4
      refine wpAnyB_done (by kernel_rfl) ?_ _
      try simp only [Act.put, List.setIfInBounds_toArray, List.set_cons_zero, List.set_cons_succ]
      go_wp2_with (fail)
      go_roundg (gk - 1)
      case measure => omega
      case rel =>
        subst hol
        have hb12 : Below wr.heap.size wr w2 := HB1.out.drew.trans (HB2.out.mono HB1.out.size)
        have h1 : Qs os.length false wr.heap.size w2.heap.size #[y0, y1, y2, y3, y4, y5, y6, y7, y8, y9, y10, y11, y12, y13, y14, y15] w2 := hS.wide _ _ _ _ _ _ _ HQ.out HB1.out.size (Nat.le_refl _)
        have hm3 := Made.step hS HM.out hsz3 hb12 h1 hown (by omega) rfl hgrow hat
        have hb3 := grown_below hbel (own_low HO.out (Nat.le_add_right _ 3)) hbel.size hb12 hgrow
        refine ⟨os.length + 1, os ++ [#[y0, y1, y2, y3, y4, y5, y6, y7, y8, y9, y10, y11, y12, y13, y14, y15]], _, by omega, by go_num, by simp, Lib.hid ⟨?_, ?_, ?_, ?_⟩, Lib.hid (made_same hS hm3 (fun b hb => heap_setCell_other w3 _ b _ (by show b ≠ w.heap.size + 1 + 1; omega)) (by simp)), Lib.hid ?_, hb3.setCell (by show w.heap.size ≤ w.heap.size + 1 + 1; omega) _⟩
        · exact (heap_setCell_other w3 _ _ _ (by show w.heap.size ≠ w.heap.size + 1 + 1; omega)).trans HH3.out.1
        · exact (heap_setCell_other w3 _ _ _ (by show w.heap.size + 1 ≠ w.heap.size + 1 + 1; omega)).trans HH3.out.2.1
        · exact heap_setCell_same w3 _ 7 _ _ _ HH3.out.2.2.1
        · simpa using HH3.out.2.2.2
        · intro c hc
          rcases List.mem_append.1 hc with h | h
          · exact HSO.out c h
          · rw [List.mem_singleton.1 h]; exact ⟨rfl, HCS.out⟩
    · have hkn : k = css.length := by omega
      subst hkn
      go_wp2_with (first
        | (refine wpList_load_mid rfl 33 _ rfl (w.heap.size + 1 + 1) 0 rfl [.int .i64 3, .string ⟨#[]⟩, .string ti, .int .i64 nu, .string ch, .bool true, .slice none 0 0, o, .int .i64 0, .int .i64 0, .string ⟨#[]⟩, .int .i64 0, .bool false, .bool false, .bool false, .slice none 0 0] _ (range_whole HH.out.2.2.1) Tryz.underlying33 rfl HI.out ?_)
        | (refine wpList_store_row rfl 33 16 (w.heap.size + 1) _ _ rfl HI.out _ #[.int .i64 3, .string ⟨#[]⟩, .string ti, .int .i64 nu, .string ch, .bool true, .slice none 0 0, o, .int .i64 0, .int .i64 0, .string ⟨#[]⟩, .int .i64 0, .bool false, .bool false, .bool false, .slice none 0 0] HH.out.2.1 rfl rfl rfl rfl (impl_one16 HM.out.1) ?_))
      have hl := load_struct (P := Tryz.prog) (ty := 33) (n := 16) (by kernel_rfl) (wr.setRow (w.heap.size + 1) #[.int .i64 3, .string ⟨#[]⟩, .string ti, .int .i64 nu, .string ch, .bool true, .slice none 0 0, o, .int .i64 0, .int .i64 0, .string ⟨#[]⟩, .int .i64 0, .bool false, .bool false, .bool false, .slice none 0 0]) (w.heap.size + 1) 33 #[.int .i64 3, .string ⟨#[]⟩, .string ti, .int .i64 nu, .string ch, .bool true, .slice none 0 0, o, .int .i64 0, .int .i64 0, .string ⟨#[]⟩, .int .i64 0, .bool false, .bool false, .bool false, .slice none 0 0] (0, 0) (setRow_heap _ _ _ _ _ _ HH.out.2.1) rfl
      simp only [Act.put, List.setIfInBounds_toArray, List.set_cons_zero, List.set_cons_succ]
      refine bodyPost_ret (v := .agg #[.int .i64 3, .string ⟨#[]⟩, .string ti, .int .i64 nu, .string ch, .bool true, .slice none 0 0, o, .int .i64 0, .int .i64 0, .string ⟨#[]⟩, .int .i64 0, .bool false, .bool false, .bool false, .slice none 0 0]) (by simp [results, asAddr, hl]) rfl ⟨os, o, hol, rfl, made_low (made_same hS HM.out (fun b hb => setRow_other wr _ b _ (by omega)) (by simp)) (Nat.le_add_right _ 3), HSO.out, bel_setRow hbel (by omega) _⟩

set_option maxHeartbeats 2000000 in
set_option maxRecDepth 100000 in
theorem given_leafF (kd : Int) (t : ByteArray) (h7 : (kd == 7) = false) (h9 : (kd == 9) = false) (h24 : (kd == 24) = false) (h25 : (kd == 25) = false) (h4 : (kd == 4) = false) (fr tl : Int) (w : World) :
    Calls Tryz.prog 6 #[.agg #[.int .i64 kd, .string t, .string ⟨#[]⟩, .int .i64 0, .string ⟨#[]⟩, .bool false, .slice none 0 0, .slice none 0 0, .int .i64 fr, .int .i64 tl], .bool false] w fun e w' => e = .returned (.agg #[.int .i64 kd, .string t, .string ⟨#[]⟩, .int .i64 0, .string ⟨#[]⟩, .bool false, .slice none 0 0, .slice none 0 0, .int .i64 0, .int .i64 0, .string ⟨#[]⟩, .int .i64 0, .bool false, .bool false, .bool false, .slice none 0 0]) ∧ Below w.heap.size w w' := by
  obtain ⟨j0, hj, hz0, hz1, hz2⟩ := info_parts node_info
  have hi16 : (Tryz.prog.info? 33).map (·.size) = some 16 := by rw [hj]; simp [hz1]
  have HI := Lib.hid hi16
  clear hj hz0 hz1 hz2 hi16
  have HH0 : Hid (∀ m : ByteArray, BlocksOf w.heap.size #[.int .i64 kd, .string t, .string ⟨#[]⟩, .int .i64 0, .string ⟨#[]⟩, .bool false, .slice none 0 0, .slice none 0 0, .int .i64 fr, .int .i64 tl] #[.int .i64 0, .string ⟨#[]⟩, .string ⟨#[]⟩, .int .i64 0, .string ⟨#[]⟩, .bool false, .slice none 0 0, .slice none 0 0, .int .i64 0, .int .i64 0, .string ⟨#[]⟩, .int .i64 0, .bool false, .bool false, .bool false, .slice none 0 0] #[.int .i64 kd, .string t, .string ⟨#[]⟩, .int .i64 0, .string ⟨#[]⟩, .bool false, .slice none 0 0, .slice none 0 0, .int .i64 0, .int .i64 0, .string m, .int .i64 0, .bool false, .bool false, .bool false, .slice none 0 0] (((w.alloc (.cells #[.int .i64 kd, .string t, .string ⟨#[]⟩, .int .i64 0, .string ⟨#[]⟩, .bool false, .slice none 0 0, .slice none 0 0, .int .i64 fr, .int .i64 tl] 27)).alloc (.cells #[.int .i64 0, .string ⟨#[]⟩, .string ⟨#[]⟩, .int .i64 0, .string ⟨#[]⟩, .bool false, .slice none 0 0, .slice none 0 0, .int .i64 0, .int .i64 0, .string ⟨#[]⟩, .int .i64 0, .bool false, .bool false, .bool false, .slice none 0 0] 33)).alloc (.cells #[.int .i64 kd, .string t, .string ⟨#[]⟩, .int .i64 0, .string ⟨#[]⟩, .bool false, .slice none 0 0, .slice none 0 0, .int .i64 0, .int .i64 0, .string m, .int .i64 0, .bool false, .bool false, .bool false, .slice none 0 0] 33)) ∧ Below w.heap.size w (((w.alloc (.cells #[.int .i64 kd, .string t, .string ⟨#[]⟩, .int .i64 0, .string ⟨#[]⟩, .bool false, .slice none 0 0, .slice none 0 0, .int .i64 fr, .int .i64 tl] 27)).alloc (.cells #[.int .i64 0, .string ⟨#[]⟩, .string ⟨#[]⟩, .int .i64 0, .string ⟨#[]⟩, .bool false, .slice none 0 0, .slice none 0 0, .int .i64 0, .int .i64 0, .string ⟨#[]⟩, .int .i64 0, .bool false, .bool false, .bool false, .slice none 0 0] 33)).alloc (.cells #[.int .i64 kd, .string t, .string ⟨#[]⟩, .int .i64 0, .string ⟨#[]⟩, .bool false, .slice none 0 0, .slice none 0 0, .int .i64 0, .int .i64 0, .string m, .int .i64 0, .bool false, .bool false, .bool false, .slice none 0 0] 33))) := Lib.hid (fun m => ⟨blocks_of _ _ _ _, (((Below.refl _ _).alloc (Nat.le_refl _) _).alloc (by simp) _).alloc (by simp; omega) _⟩)
  go_enter Tryz.func6, Tryz.ntmps6
  go_wp2_with (first
    | (refine wpList_store_new rfl 33 16 _ _ rfl HI.out _ #[.int .i64 kd, .string t, .string ⟨#[]⟩, .int .i64 0, .string ⟨#[]⟩, .bool false, .slice none 0 0, .slice none 0 0, .int .i64 0, .int .i64 0, .string ⟨#[]⟩, .int .i64 0, .bool false, .bool false, .bool false, .slice none 0 0] rfl rfl rfl rfl (by simp [Value.oneCell']) ?_))
  go_loopg [50] 0 (fun gg j wx => j = .int .i64 0 ∧ Hid (BlocksOf w.heap.size #[.int .i64 kd, .string t, .string ⟨#[]⟩, .int .i64 0, .string ⟨#[]⟩, .bool false, .slice none 0 0, .slice none 0 0, .int .i64 fr, .int .i64 tl] #[.int .i64 0, .string ⟨#[]⟩, .string ⟨#[]⟩, .int .i64 0, .string ⟨#[]⟩, .bool false, .slice none 0 0, .slice none 0 0, .int .i64 0, .int .i64 0, .string ⟨#[]⟩, .int .i64 0, .bool false, .bool false, .bool false, .slice none 0 0] #[.int .i64 kd, .string t, .string ⟨#[]⟩, .int .i64 0, .string ⟨#[]⟩, .bool false, .slice none 0 0, .slice none 0 0, .int .i64 0, .int .i64 0, .string ⟨#[]⟩, .int .i64 0, .bool false, .bool false, .bool false, .slice none 0 0] wx) ∧ Below w.heap.size w wx)
  case atStart => exact ⟨rfl, Lib.hid (HH0.out _).1, (HH0.out _).2⟩
  case round =>
    obtain ⟨rfl, HH, hbel⟩ := hrel
    go_wp2_with (first
      | (refine wpList_load_mid rfl 33 _ rfl (w.heap.size + 1 + 1) 0 rfl [.int .i64 kd, .string t, .string ⟨#[]⟩, .int .i64 0, .string ⟨#[]⟩, .bool false, .slice none 0 0, .slice none 0 0, .int .i64 0, .int .i64 0, .string ⟨#[]⟩, .int .i64 0, .bool false, .bool false, .bool false, .slice none 0 0] _ (range_whole HH.out.2.2.1) Tryz.underlying33 rfl HI.out ?_)
      | (refine wpList_store_row rfl 33 16 (w.heap.size + 1) _ _ rfl HI.out _ #[.int .i64 kd, .string t, .string ⟨#[]⟩, .int .i64 0, .string ⟨#[]⟩, .bool false, .slice none 0 0, .slice none 0 0, .int .i64 0, .int .i64 0, .string ⟨#[]⟩, .int .i64 0, .bool false, .bool false, .bool false, .slice none 0 0] HH.out.2.1 rfl rfl rfl rfl (by simp [Value.oneCell']) ?_))
    have hl := load_struct (P := Tryz.prog) (ty := 33) (n := 16) (by kernel_rfl) (wr.setRow (w.heap.size + 1) #[.int .i64 kd, .string t, .string ⟨#[]⟩, .int .i64 0, .string ⟨#[]⟩, .bool false, .slice none 0 0, .slice none 0 0, .int .i64 0, .int .i64 0, .string ⟨#[]⟩, .int .i64 0, .bool false, .bool false, .bool false, .slice none 0 0]) (w.heap.size + 1) 33 #[.int .i64 kd, .string t, .string ⟨#[]⟩, .int .i64 0, .string ⟨#[]⟩, .bool false, .slice none 0 0, .slice none 0 0, .int .i64 0, .int .i64 0, .string ⟨#[]⟩, .int .i64 0, .bool false, .bool false, .bool false, .slice none 0 0] (0, 0) (setRow_heap _ _ _ _ _ _ HH.out.2.1) rfl
    simp only [Act.put, List.setIfInBounds_toArray, List.set_cons_zero, List.set_cons_succ]
    refine bodyPost_ret (v := .agg #[.int .i64 kd, .string t, .string ⟨#[]⟩, .int .i64 0, .string ⟨#[]⟩, .bool false, .slice none 0 0, .slice none 0 0, .int .i64 0, .int .i64 0, .string ⟨#[]⟩, .int .i64 0, .bool false, .bool false, .bool false, .slice none 0 0]) (by simp [results, asAddr, hl]) rfl ⟨rfl, bel_setRow hbel (by omega) _⟩

set_option maxHeartbeats 2000000 in
set_option maxRecDepth 100000 in
theorem given_codeF (t ti : ByteArray) (fr tl : Int) (w : World) :
    Calls Tryz.prog 6 #[.agg #[.int .i64 7, .string t, .string ti, .int .i64 0, .string ⟨#[]⟩, .bool false, .slice none 0 0, .slice none 0 0, .int .i64 fr, .int .i64 tl], .bool false] w fun e w' => e = .returned (.agg #[.int .i64 7, .string t, .string ti, .int .i64 0, .string ⟨#[]⟩, .bool false, .slice none 0 0, .slice none 0 0, .int .i64 0, .int .i64 0, .string ⟨#[96, 96, 96]⟩, .int .i64 0, .bool false, .bool false, .bool false, .slice none 0 0]) ∧ Below w.heap.size w w' := by
  obtain ⟨j0, hj, hz0, hz1, hz2⟩ := info_parts node_info
  have hi16 : (Tryz.prog.info? 33).map (·.size) = some 16 := by rw [hj]; simp [hz1]
  have HI := Lib.hid hi16
  clear hj hz0 hz1 hz2 hi16
  have HH0 : Hid (∀ m : ByteArray, BlocksOf w.heap.size #[.int .i64 7, .string t, .string ti, .int .i64 0, .string ⟨#[]⟩, .bool false, .slice none 0 0, .slice none 0 0, .int .i64 fr, .int .i64 tl] #[.int .i64 0, .string ⟨#[]⟩, .string ⟨#[]⟩, .int .i64 0, .string ⟨#[]⟩, .bool false, .slice none 0 0, .slice none 0 0, .int .i64 0, .int .i64 0, .string ⟨#[]⟩, .int .i64 0, .bool false, .bool false, .bool false, .slice none 0 0] #[.int .i64 7, .string t, .string ti, .int .i64 0, .string ⟨#[]⟩, .bool false, .slice none 0 0, .slice none 0 0, .int .i64 0, .int .i64 0, .string m, .int .i64 0, .bool false, .bool false, .bool false, .slice none 0 0] (((w.alloc (.cells #[.int .i64 7, .string t, .string ti, .int .i64 0, .string ⟨#[]⟩, .bool false, .slice none 0 0, .slice none 0 0, .int .i64 fr, .int .i64 tl] 27)).alloc (.cells #[.int .i64 0, .string ⟨#[]⟩, .string ⟨#[]⟩, .int .i64 0, .string ⟨#[]⟩, .bool false, .slice none 0 0, .slice none 0 0, .int .i64 0, .int .i64 0, .string ⟨#[]⟩, .int .i64 0, .bool false, .bool false, .bool false, .slice none 0 0] 33)).alloc (.cells #[.int .i64 7, .string t, .string ti, .int .i64 0, .string ⟨#[]⟩, .bool false, .slice none 0 0, .slice none 0 0, .int .i64 0, .int .i64 0, .string m, .int .i64 0, .bool false, .bool false, .bool false, .slice none 0 0] 33)) ∧ Below w.heap.size w (((w.alloc (.cells #[.int .i64 7, .string t, .string ti, .int .i64 0, .string ⟨#[]⟩, .bool false, .slice none 0 0, .slice none 0 0, .int .i64 fr, .int .i64 tl] 27)).alloc (.cells #[.int .i64 0, .string ⟨#[]⟩, .string ⟨#[]⟩, .int .i64 0, .string ⟨#[]⟩, .bool false, .slice none 0 0, .slice none 0 0, .int .i64 0, .int .i64 0, .string ⟨#[]⟩, .int .i64 0, .bool false, .bool false, .bool false, .slice none 0 0] 33)).alloc (.cells #[.int .i64 7, .string t, .string ti, .int .i64 0, .string ⟨#[]⟩, .bool false, .slice none 0 0, .slice none 0 0, .int .i64 0, .int .i64 0, .string m, .int .i64 0, .bool false, .bool false, .bool false, .slice none 0 0] 33))) := Lib.hid (fun m => ⟨blocks_of _ _ _ _, (((Below.refl _ _).alloc (Nat.le_refl _) _).alloc (by simp) _).alloc (by simp; omega) _⟩)
  go_enter Tryz.func6, Tryz.ntmps6
  go_wp2_with (first
    | (refine wpList_store_new rfl 33 16 _ _ rfl HI.out _ #[.int .i64 7, .string t, .string ti, .int .i64 0, .string ⟨#[]⟩, .bool false, .slice none 0 0, .slice none 0 0, .int .i64 0, .int .i64 0, .string ⟨#[]⟩, .int .i64 0, .bool false, .bool false, .bool false, .slice none 0 0] rfl rfl rfl rfl (by simp [Value.oneCell']) ?_))
  go_loopg [50] 0 (fun gg j wx => j = .int .i64 0 ∧ Hid (BlocksOf w.heap.size #[.int .i64 7, .string t, .string ti, .int .i64 0, .string ⟨#[]⟩, .bool false, .slice none 0 0, .slice none 0 0, .int .i64 fr, .int .i64 tl] #[.int .i64 0, .string ⟨#[]⟩, .string ⟨#[]⟩, .int .i64 0, .string ⟨#[]⟩, .bool false, .slice none 0 0, .slice none 0 0, .int .i64 0, .int .i64 0, .string ⟨#[]⟩, .int .i64 0, .bool false, .bool false, .bool false, .slice none 0 0] #[.int .i64 7, .string t, .string ti, .int .i64 0, .string ⟨#[]⟩, .bool false, .slice none 0 0, .slice none 0 0, .int .i64 0, .int .i64 0, .string ⟨#[96, 96, 96]⟩, .int .i64 0, .bool false, .bool false, .bool false, .slice none 0 0] wx) ∧ Below w.heap.size w wx)
  case atStart => exact ⟨rfl, Lib.hid (HH0.out _).1, (HH0.out _).2⟩
  case round =>
    obtain ⟨rfl, HH, hbel⟩ := hrel
    go_wp2_with (first
      | (refine wpList_load_mid rfl 33 _ rfl (w.heap.size + 1 + 1) 0 rfl [.int .i64 7, .string t, .string ti, .int .i64 0, .string ⟨#[]⟩, .bool false, .slice none 0 0, .slice none 0 0, .int .i64 0, .int .i64 0, .string ⟨#[96, 96, 96]⟩, .int .i64 0, .bool false, .bool false, .bool false, .slice none 0 0] _ (range_whole HH.out.2.2.1) Tryz.underlying33 rfl HI.out ?_)
      | (refine wpList_store_row rfl 33 16 (w.heap.size + 1) _ _ rfl HI.out _ #[.int .i64 7, .string t, .string ti, .int .i64 0, .string ⟨#[]⟩, .bool false, .slice none 0 0, .slice none 0 0, .int .i64 0, .int .i64 0, .string ⟨#[96, 96, 96]⟩, .int .i64 0, .bool false, .bool false, .bool false, .slice none 0 0] HH.out.2.1 rfl rfl rfl rfl (by simp [Value.oneCell']) ?_))
    have hl := load_struct (P := Tryz.prog) (ty := 33) (n := 16) (by kernel_rfl) (wr.setRow (w.heap.size + 1) #[.int .i64 7, .string t, .string ti, .int .i64 0, .string ⟨#[]⟩, .bool false, .slice none 0 0, .slice none 0 0, .int .i64 0, .int .i64 0, .string ⟨#[96, 96, 96]⟩, .int .i64 0, .bool false, .bool false, .bool false, .slice none 0 0]) (w.heap.size + 1) 33 #[.int .i64 7, .string t, .string ti, .int .i64 0, .string ⟨#[]⟩, .bool false, .slice none 0 0, .slice none 0 0, .int .i64 0, .int .i64 0, .string ⟨#[96, 96, 96]⟩, .int .i64 0, .bool false, .bool false, .bool false, .slice none 0 0] (0, 0) (setRow_heap _ _ _ _ _ _ HH.out.2.1) rfl
    simp only [Act.put, List.setIfInBounds_toArray, List.set_cons_zero, List.set_cons_succ]
    refine bodyPost_ret (v := .agg #[.int .i64 7, .string t, .string ti, .int .i64 0, .string ⟨#[]⟩, .bool false, .slice none 0 0, .slice none 0 0, .int .i64 0, .int .i64 0, .string ⟨#[96, 96, 96]⟩, .int .i64 0, .bool false, .bool false, .bool false, .slice none 0 0]) (by simp [results, asAddr, hl]) rfl ⟨rfl, bel_setRow hbel (by omega) _⟩

set_option maxHeartbeats 2000000 in
set_option maxRecDepth 100000 in
theorem given_codeT (t ti : ByteArray) (fr tl : Int) (w : World) :
    Calls Tryz.prog 6 #[.agg #[.int .i64 7, .string t, .string ti, .int .i64 0, .string ⟨#[]⟩, .bool false, .slice none 0 0, .slice none 0 0, .int .i64 fr, .int .i64 tl], .bool true] w fun e w' => e = .returned (.agg #[.int .i64 7, .string t, .string ti, .int .i64 0, .string ⟨#[]⟩, .bool false, .slice none 0 0, .slice none 0 0, .int .i64 0, .int .i64 0, .string ⟨#[96, 96, 96]⟩, .int .i64 0, .bool false, .bool false, .bool false, .slice none 0 0]) ∧ Below w.heap.size w w' := by
  obtain ⟨j0, hj, hz0, hz1, hz2⟩ := info_parts node_info
  have hi16 : (Tryz.prog.info? 33).map (·.size) = some 16 := by rw [hj]; simp [hz1]
  have HI := Lib.hid hi16
  clear hj hz0 hz1 hz2 hi16
  have HH0 : Hid (∀ m : ByteArray, BlocksOf w.heap.size #[.int .i64 7, .string t, .string ti, .int .i64 0, .string ⟨#[]⟩, .bool false, .slice none 0 0, .slice none 0 0, .int .i64 fr, .int .i64 tl] #[.int .i64 0, .string ⟨#[]⟩, .string ⟨#[]⟩, .int .i64 0, .string ⟨#[]⟩, .bool false, .slice none 0 0, .slice none 0 0, .int .i64 0, .int .i64 0, .string ⟨#[]⟩, .int .i64 0, .bool false, .bool false, .bool false, .slice none 0 0] #[.int .i64 7, .string t, .string ti, .int .i64 0, .string ⟨#[]⟩, .bool false, .slice none 0 0, .slice none 0 0, .int .i64 0, .int .i64 0, .string m, .int .i64 0, .bool false, .bool false, .bool false, .slice none 0 0] (((w.alloc (.cells #[.int .i64 7, .string t, .string ti, .int .i64 0, .string ⟨#[]⟩, .bool false, .slice none 0 0, .slice none 0 0, .int .i64 fr, .int .i64 tl] 27)).alloc (.cells #[.int .i64 0, .string ⟨#[]⟩, .string ⟨#[]⟩, .int .i64 0, .string ⟨#[]⟩, .bool false, .slice none 0 0, .slice none 0 0, .int .i64 0, .int .i64 0, .string ⟨#[]⟩, .int .i64 0, .bool false, .bool false, .bool false, .slice none 0 0] 33)).alloc (.cells #[.int .i64 7, .string t, .string ti, .int .i64 0, .string ⟨#[]⟩, .bool false, .slice none 0 0, .slice none 0 0, .int .i64 0, .int .i64 0, .string m, .int .i64 0, .bool false, .bool false, .bool false, .slice none 0 0] 33)) ∧ Below w.heap.size w (((w.alloc (.cells #[.int .i64 7, .string t, .string ti, .int .i64 0, .string ⟨#[]⟩, .bool false, .slice none 0 0, .slice none 0 0, .int .i64 fr, .int .i64 tl] 27)).alloc (.cells #[.int .i64 0, .string ⟨#[]⟩, .string ⟨#[]⟩, .int .i64 0, .string ⟨#[]⟩, .bool false, .slice none 0 0, .slice none 0 0, .int .i64 0, .int .i64 0, .string ⟨#[]⟩, .int .i64 0, .bool false, .bool false, .bool false, .slice none 0 0] 33)).alloc (.cells #[.int .i64 7, .string t, .string ti, .int .i64 0, .string ⟨#[]⟩, .bool false, .slice none 0 0, .slice none 0 0, .int .i64 0, .int .i64 0, .string m, .int .i64 0, .bool false, .bool false, .bool false, .slice none 0 0] 33))) := Lib.hid (fun m => ⟨blocks_of _ _ _ _, (((Below.refl _ _).alloc (Nat.le_refl _) _).alloc (by simp) _).alloc (by simp; omega) _⟩)
  go_enter Tryz.func6, Tryz.ntmps6
  go_wp2_with (first
    | (refine wpList_store_new rfl 33 16 _ _ rfl HI.out _ #[.int .i64 7, .string t, .string ti, .int .i64 0, .string ⟨#[]⟩, .bool false, .slice none 0 0, .slice none 0 0, .int .i64 0, .int .i64 0, .string ⟨#[]⟩, .int .i64 0, .bool false, .bool false, .bool false, .slice none 0 0] rfl rfl rfl rfl (by simp [Value.oneCell']) ?_))
  go_loopg [50] 0 (fun gg j wx => j = .int .i64 0 ∧ Hid (BlocksOf w.heap.size #[.int .i64 7, .string t, .string ti, .int .i64 0, .string ⟨#[]⟩, .bool false, .slice none 0 0, .slice none 0 0, .int .i64 fr, .int .i64 tl] #[.int .i64 0, .string ⟨#[]⟩, .string ⟨#[]⟩, .int .i64 0, .string ⟨#[]⟩, .bool false, .slice none 0 0, .slice none 0 0, .int .i64 0, .int .i64 0, .string ⟨#[]⟩, .int .i64 0, .bool false, .bool false, .bool false, .slice none 0 0] #[.int .i64 7, .string t, .string ti, .int .i64 0, .string ⟨#[]⟩, .bool false, .slice none 0 0, .slice none 0 0, .int .i64 0, .int .i64 0, .string ⟨#[96, 96, 96]⟩, .int .i64 0, .bool false, .bool false, .bool false, .slice none 0 0] wx) ∧ Below w.heap.size w wx)
  case atStart => exact ⟨rfl, Lib.hid (HH0.out _).1, (HH0.out _).2⟩
  case round =>
    obtain ⟨rfl, HH, hbel⟩ := hrel
    go_wp2_with (first
      | (refine wpList_load_mid rfl 33 _ rfl (w.heap.size + 1 + 1) 0 rfl [.int .i64 7, .string t, .string ti, .int .i64 0, .string ⟨#[]⟩, .bool false, .slice none 0 0, .slice none 0 0, .int .i64 0, .int .i64 0, .string ⟨#[96, 96, 96]⟩, .int .i64 0, .bool false, .bool false, .bool false, .slice none 0 0] _ (range_whole HH.out.2.2.1) Tryz.underlying33 rfl HI.out ?_)
      | (refine wpList_store_row rfl 33 16 (w.heap.size + 1) _ _ rfl HI.out _ #[.int .i64 7, .string t, .string ti, .int .i64 0, .string ⟨#[]⟩, .bool false, .slice none 0 0, .slice none 0 0, .int .i64 0, .int .i64 0, .string ⟨#[96, 96, 96]⟩, .int .i64 0, .bool false, .bool false, .bool false, .slice none 0 0] HH.out.2.1 rfl rfl rfl rfl (by simp [Value.oneCell']) ?_))
    have hl := load_struct (P := Tryz.prog) (ty := 33) (n := 16) (by kernel_rfl) (wr.setRow (w.heap.size + 1) #[.int .i64 7, .string t, .string ti, .int .i64 0, .string ⟨#[]⟩, .bool false, .slice none 0 0, .slice none 0 0, .int .i64 0, .int .i64 0, .string ⟨#[96, 96, 96]⟩, .int .i64 0, .bool false, .bool false, .bool false, .slice none 0 0]) (w.heap.size + 1) 33 #[.int .i64 7, .string t, .string ti, .int .i64 0, .string ⟨#[]⟩, .bool false, .slice none 0 0, .slice none 0 0, .int .i64 0, .int .i64 0, .string ⟨#[96, 96, 96]⟩, .int .i64 0, .bool false, .bool false, .bool false, .slice none 0 0] (0, 0) (setRow_heap _ _ _ _ _ _ HH.out.2.1) rfl
    simp only [Act.put, List.setIfInBounds_toArray, List.set_cons_zero, List.set_cons_succ]
    refine bodyPost_ret (v := .agg #[.int .i64 7, .string t, .string ti, .int .i64 0, .string ⟨#[]⟩, .bool false, .slice none 0 0, .slice none 0 0, .int .i64 0, .int .i64 0, .string ⟨#[96, 96, 96]⟩, .int .i64 0, .bool false, .bool false, .bool false, .slice none 0 0]) (by simp [results, asAddr, hl]) rfl ⟨rfl, bel_setRow hbel (by omega) _⟩

set_option maxHeartbeats 2000000 in
set_option maxRecDepth 100000 in
theorem given_breakF (fr tl : Int) (w : World) :
    Calls Tryz.prog 6 #[.agg #[.int .i64 9, .string ⟨#[]⟩, .string ⟨#[]⟩, .int .i64 0, .string ⟨#[]⟩, .bool false, .slice none 0 0, .slice none 0 0, .int .i64 fr, .int .i64 tl], .bool false] w fun e w' => e = .returned (.agg #[.int .i64 9, .string ⟨#[]⟩, .string ⟨#[]⟩, .int .i64 0, .string ⟨#[]⟩, .bool false, .slice none 0 0, .slice none 0 0, .int .i64 0, .int .i64 0, .string ⟨#[42, 42, 42]⟩, .int .i64 0, .bool false, .bool false, .bool false, .slice none 0 0]) ∧ Below w.heap.size w w' := by
  obtain ⟨j0, hj, hz0, hz1, hz2⟩ := info_parts node_info
  have hi16 : (Tryz.prog.info? 33).map (·.size) = some 16 := by rw [hj]; simp [hz1]
  have HI := Lib.hid hi16
  clear hj hz0 hz1 hz2 hi16
  have HH0 : Hid (∀ m : ByteArray, BlocksOf w.heap.size #[.int .i64 9, .string ⟨#[]⟩, .string ⟨#[]⟩, .int .i64 0, .string ⟨#[]⟩, .bool false, .slice none 0 0, .slice none 0 0, .int .i64 fr, .int .i64 tl] #[.int .i64 0, .string ⟨#[]⟩, .string ⟨#[]⟩, .int .i64 0, .string ⟨#[]⟩, .bool false, .slice none 0 0, .slice none 0 0, .int .i64 0, .int .i64 0, .string ⟨#[]⟩, .int .i64 0, .bool false, .bool false, .bool false, .slice none 0 0] #[.int .i64 9, .string ⟨#[]⟩, .string ⟨#[]⟩, .int .i64 0, .string ⟨#[]⟩, .bool false, .slice none 0 0, .slice none 0 0, .int .i64 0, .int .i64 0, .string m, .int .i64 0, .bool false, .bool false, .bool false, .slice none 0 0] (((w.alloc (.cells #[.int .i64 9, .string ⟨#[]⟩, .string ⟨#[]⟩, .int .i64 0, .string ⟨#[]⟩, .bool false, .slice none 0 0, .slice none 0 0, .int .i64 fr, .int .i64 tl] 27)).alloc (.cells #[.int .i64 0, .string ⟨#[]⟩, .string ⟨#[]⟩, .int .i64 0, .string ⟨#[]⟩, .bool false, .slice none 0 0, .slice none 0 0, .int .i64 0, .int .i64 0, .string ⟨#[]⟩, .int .i64 0, .bool false, .bool false, .bool false, .slice none 0 0] 33)).alloc (.cells #[.int .i64 9, .string ⟨#[]⟩, .string ⟨#[]⟩, .int .i64 0, .string ⟨#[]⟩, .bool false, .slice none 0 0, .slice none 0 0, .int .i64 0, .int .i64 0, .string m, .int .i64 0, .bool false, .bool false, .bool false, .slice none 0 0] 33)) ∧ Below w.heap.size w (((w.alloc (.cells #[.int .i64 9, .string ⟨#[]⟩, .string ⟨#[]⟩, .int .i64 0, .string ⟨#[]⟩, .bool false, .slice none 0 0, .slice none 0 0, .int .i64 fr, .int .i64 tl] 27)).alloc (.cells #[.int .i64 0, .string ⟨#[]⟩, .string ⟨#[]⟩, .int .i64 0, .string ⟨#[]⟩, .bool false, .slice none 0 0, .slice none 0 0, .int .i64 0, .int .i64 0, .string ⟨#[]⟩, .int .i64 0, .bool false, .bool false, .bool false, .slice none 0 0] 33)).alloc (.cells #[.int .i64 9, .string ⟨#[]⟩, .string ⟨#[]⟩, .int .i64 0, .string ⟨#[]⟩, .bool false, .slice none 0 0, .slice none 0 0, .int .i64 0, .int .i64 0, .string m, .int .i64 0, .bool false, .bool false, .bool false, .slice none 0 0] 33))) := Lib.hid (fun m => ⟨blocks_of _ _ _ _, (((Below.refl _ _).alloc (Nat.le_refl _) _).alloc (by simp) _).alloc (by simp; omega) _⟩)
  go_enter Tryz.func6, Tryz.ntmps6
  go_wp2_with (first
    | (refine wpList_store_new rfl 33 16 _ _ rfl HI.out _ #[.int .i64 9, .string ⟨#[]⟩, .string ⟨#[]⟩, .int .i64 0, .string ⟨#[]⟩, .bool false, .slice none 0 0, .slice none 0 0, .int .i64 0, .int .i64 0, .string ⟨#[]⟩, .int .i64 0, .bool false, .bool false, .bool false, .slice none 0 0] rfl rfl rfl rfl (by simp [Value.oneCell']) ?_))
  go_loopg [50] 0 (fun gg j wx => j = .int .i64 0 ∧ Hid (BlocksOf w.heap.size #[.int .i64 9, .string ⟨#[]⟩, .string ⟨#[]⟩, .int .i64 0, .string ⟨#[]⟩, .bool false, .slice none 0 0, .slice none 0 0, .int .i64 fr, .int .i64 tl] #[.int .i64 0, .string ⟨#[]⟩, .string ⟨#[]⟩, .int .i64 0, .string ⟨#[]⟩, .bool false, .slice none 0 0, .slice none 0 0, .int .i64 0, .int .i64 0, .string ⟨#[]⟩, .int .i64 0, .bool false, .bool false, .bool false, .slice none 0 0] #[.int .i64 9, .string ⟨#[]⟩, .string ⟨#[]⟩, .int .i64 0, .string ⟨#[]⟩, .bool false, .slice none 0 0, .slice none 0 0, .int .i64 0, .int .i64 0, .string ⟨#[42, 42, 42]⟩, .int .i64 0, .bool false, .bool false, .bool false, .slice none 0 0] wx) ∧ Below w.heap.size w wx)
  case atStart => exact ⟨rfl, Lib.hid (HH0.out _).1, (HH0.out _).2⟩
  case round =>
    obtain ⟨rfl, HH, hbel⟩ := hrel
    go_wp2_with (first
      | (refine wpList_load_mid rfl 33 _ rfl (w.heap.size + 1 + 1) 0 rfl [.int .i64 9, .string ⟨#[]⟩, .string ⟨#[]⟩, .int .i64 0, .string ⟨#[]⟩, .bool false, .slice none 0 0, .slice none 0 0, .int .i64 0, .int .i64 0, .string ⟨#[42, 42, 42]⟩, .int .i64 0, .bool false, .bool false, .bool false, .slice none 0 0] _ (range_whole HH.out.2.2.1) Tryz.underlying33 rfl HI.out ?_)
      | (refine wpList_store_row rfl 33 16 (w.heap.size + 1) _ _ rfl HI.out _ #[.int .i64 9, .string ⟨#[]⟩, .string ⟨#[]⟩, .int .i64 0, .string ⟨#[]⟩, .bool false, .slice none 0 0, .slice none 0 0, .int .i64 0, .int .i64 0, .string ⟨#[42, 42, 42]⟩, .int .i64 0, .bool false, .bool false, .bool false, .slice none 0 0] HH.out.2.1 rfl rfl rfl rfl (by simp [Value.oneCell']) ?_))
    have hl := load_struct (P := Tryz.prog) (ty := 33) (n := 16) (by kernel_rfl) (wr.setRow (w.heap.size + 1) #[.int .i64 9, .string ⟨#[]⟩, .string ⟨#[]⟩, .int .i64 0, .string ⟨#[]⟩, .bool false, .slice none 0 0, .slice none 0 0, .int .i64 0, .int .i64 0, .string ⟨#[42, 42, 42]⟩, .int .i64 0, .bool false, .bool false, .bool false, .slice none 0 0]) (w.heap.size + 1) 33 #[.int .i64 9, .string ⟨#[]⟩, .string ⟨#[]⟩, .int .i64 0, .string ⟨#[]⟩, .bool false, .slice none 0 0, .slice none 0 0, .int .i64 0, .int .i64 0, .string ⟨#[42, 42, 42]⟩, .int .i64 0, .bool false, .bool false, .bool false, .slice none 0 0] (0, 0) (setRow_heap _ _ _ _ _ _ HH.out.2.1) rfl
    simp only [Act.put, List.setIfInBounds_toArray, List.set_cons_zero, List.set_cons_succ]
    refine bodyPost_ret (v := .agg #[.int .i64 9, .string ⟨#[]⟩, .string ⟨#[]⟩, .int .i64 0, .string ⟨#[]⟩, .bool false, .slice none 0 0, .slice none 0 0, .int .i64 0, .int .i64 0, .string ⟨#[42, 42, 42]⟩, .int .i64 0, .bool false, .bool false, .bool false, .slice none 0 0]) (by simp [results, asAddr, hl]) rfl ⟨rfl, bel_setRow hbel (by omega) _⟩

set_option maxHeartbeats 2000000 in
set_option maxRecDepth 100000 in
theorem given_breakT (fr tl : Int) (w : World) :
    Calls Tryz.prog 6 #[.agg #[.int .i64 9, .string ⟨#[]⟩, .string ⟨#[]⟩, .int .i64 0, .string ⟨#[]⟩, .bool false, .slice none 0 0, .slice none 0 0, .int .i64 fr, .int .i64 tl], .bool true] w fun e w' => e = .returned (.agg #[.int .i64 9, .string ⟨#[]⟩, .string ⟨#[]⟩, .int .i64 0, .string ⟨#[]⟩, .bool false, .slice none 0 0, .slice none 0 0, .int .i64 0, .int .i64 0, .string ⟨#[42, 42, 42]⟩, .int .i64 0, .bool false, .bool false, .bool false, .slice none 0 0]) ∧ Below w.heap.size w w' := by
  obtain ⟨j0, hj, hz0, hz1, hz2⟩ := info_parts node_info
  have hi16 : (Tryz.prog.info? 33).map (·.size) = some 16 := by rw [hj]; simp [hz1]
  have HI := Lib.hid hi16
  clear hj hz0 hz1 hz2 hi16
  have HH0 : Hid (∀ m : ByteArray, BlocksOf w.heap.size #[.int .i64 9, .string ⟨#[]⟩, .string ⟨#[]⟩, .int .i64 0, .string ⟨#[]⟩, .bool false, .slice none 0 0, .slice none 0 0, .int .i64 fr, .int .i64 tl] #[.int .i64 0, .string ⟨#[]⟩, .string ⟨#[]⟩, .int .i64 0, .string ⟨#[]⟩, .bool false, .slice none 0 0, .slice none 0 0, .int .i64 0, .int .i64 0, .string ⟨#[]⟩, .int .i64 0, .bool false, .bool false, .bool false, .slice none 0 0] #[.int .i64 9, .string ⟨#[]⟩, .string ⟨#[]⟩, .int .i64 0, .string ⟨#[]⟩, .bool false, .slice none 0 0, .slice none 0 0, .int .i64 0, .int .i64 0, .string m, .int .i64 0, .bool false, .bool false, .bool false, .slice none 0 0] (((w.alloc (.cells #[.int .i64 9, .string ⟨#[]⟩, .string ⟨#[]⟩, .int .i64 0, .string ⟨#[]⟩, .bool false, .slice none 0 0, .slice none 0 0, .int .i64 fr, .int .i64 tl] 27)).alloc (.cells #[.int .i64 0, .string ⟨#[]⟩, .string ⟨#[]⟩, .int .i64 0, .string ⟨#[]⟩, .bool false, .slice none 0 0, .slice none 0 0, .int .i64 0, .int .i64 0, .string ⟨#[]⟩, .int .i64 0, .bool false, .bool false, .bool false, .slice none 0 0] 33)).alloc (.cells #[.int .i64 9, .string ⟨#[]⟩, .string ⟨#[]⟩, .int .i64 0, .string ⟨#[]⟩, .bool false, .slice none 0 0, .slice none 0 0, .int .i64 0, .int .i64 0, .string m, .int .i64 0, .bool false, .bool false, .bool false, .slice none 0 0] 33)) ∧ Below w.heap.size w (((w.alloc (.cells #[.int .i64 9, .string ⟨#[]⟩, .string ⟨#[]⟩, .int .i64 0, .string ⟨#[]⟩, .bool false, .slice none 0 0, .slice none 0 0, .int .i64 fr, .int .i64 tl] 27)).alloc (.cells #[.int .i64 0, .string ⟨#[]⟩, .string ⟨#[]⟩, .int .i64 0, .string ⟨#[]⟩, .bool false, .slice none 0 0, .slice none 0 0, .int .i64 0, .int .i64 0, .string ⟨#[]⟩, .int .i64 0, .bool false, .bool false, .bool false, .slice none 0 0] 33)).alloc (.cells #[.int .i64 9, .string ⟨#[]⟩, .string ⟨#[]⟩, .int .i64 0, .string ⟨#[]⟩, .bool false, .slice none 0 0, .slice none 0 0, .int .i64 0, .int .i64 0, .string m, .int .i64 0, .bool false, .bool false, .bool false, .slice none 0 0] 33))) := Lib.hid (fun m => ⟨blocks_of _ _ _ _, (((Below.refl _ _).alloc (Nat.le_refl _) _).alloc (by simp) _).alloc (by simp; omega) _⟩)
  go_enter Tryz.func6, Tryz.ntmps6
  go_wp2_with (first
    | (refine wpList_store_new rfl 33 16 _ _ rfl HI.out _ #[.int .i64 9, .string ⟨#[]⟩, .string ⟨#[]⟩, .int .i64 0, .string ⟨#[]⟩, .bool false, .slice none 0 0, .slice none 0 0, .int .i64 0, .int .i64 0, .string ⟨#[]⟩, .int .i64 0, .bool false, .bool false, .bool false, .slice none 0 0] rfl rfl rfl rfl (by simp [Value.oneCell']) ?_))
  go_loopg [50] 0 (fun gg j wx => j = .int .i64 0 ∧ Hid (BlocksOf w.heap.size #[.int .i64 9, .string ⟨#[]⟩, .string ⟨#[]⟩, .int .i64 0, .string ⟨#[]⟩, .bool false, .slice none 0 0, .slice none 0 0, .int .i64 fr, .int .i64 tl] #[.int .i64 0, .string ⟨#[]⟩, .string ⟨#[]⟩, .int .i64 0, .string ⟨#[]⟩, .bool false, .slice none 0 0, .slice none 0 0, .int .i64 0, .int .i64 0, .string ⟨#[]⟩, .int .i64 0, .bool false, .bool false, .bool false, .slice none 0 0] #[.int .i64 9, .string ⟨#[]⟩, .string ⟨#[]⟩, .int .i64 0, .string ⟨#[]⟩, .bool false, .slice none 0 0, .slice none 0 0, .int .i64 0, .int .i64 0, .string ⟨#[42, 42, 42]⟩, .int .i64 0, .bool false, .bool false, .bool false, .slice none 0 0] wx) ∧ Below w.heap.size w wx)
  case atStart => exact ⟨rfl, Lib.hid (HH0.out _).1, (HH0.out _).2⟩
  case round =>
    obtain ⟨rfl, HH, hbel⟩ := hrel
    go_wp2_with (first
      | (refine wpList_load_mid rfl 33 _ rfl (w.heap.size + 1 + 1) 0 rfl [.int .i64 9, .string ⟨#[]⟩, .string ⟨#[]⟩, .int .i64 0, .string ⟨#[]⟩, .bool false, .slice none 0 0, .slice none 0 0, .int .i64 0, .int .i64 0, .string ⟨#[42, 42, 42]⟩, .int .i64 0, .bool false, .bool false, .bool false, .slice none 0 0] _ (range_whole HH.out.2.2.1) Tryz.underlying33 rfl HI.out ?_)
      | (refine wpList_store_row rfl 33 16 (w.heap.size + 1) _ _ rfl HI.out _ #[.int .i64 9, .string ⟨#[]⟩, .string ⟨#[]⟩, .int .i64 0, .string ⟨#[]⟩, .bool false, .slice none 0 0, .slice none 0 0, .int .i64 0, .int .i64 0, .string ⟨#[42, 42, 42]⟩, .int .i64 0, .bool false, .bool false, .bool false, .slice none 0 0] HH.out.2.1 rfl rfl rfl rfl (by simp [Value.oneCell']) ?_))
    have hl := load_struct (P := Tryz.prog) (ty := 33) (n := 16) (by kernel_rfl) (wr.setRow (w.heap.size + 1) #[.int .i64 9, .string ⟨#[]⟩, .string ⟨#[]⟩, .int .i64 0, .string ⟨#[]⟩, .bool false, .slice none 0 0, .slice none 0 0, .int .i64 0, .int .i64 0, .string ⟨#[42, 42, 42]⟩, .int .i64 0, .bool false, .bool false, .bool false, .slice none 0 0]) (w.heap.size + 1) 33 #[.int .i64 9, .string ⟨#[]⟩, .string ⟨#[]⟩, .int .i64 0, .string ⟨#[]⟩, .bool false, .slice none 0 0, .slice none 0 0, .int .i64 0, .int .i64 0, .string ⟨#[42, 42, 42]⟩, .int .i64 0, .bool false, .bool false, .bool false, .slice none 0 0] (0, 0) (setRow_heap _ _ _ _ _ _ HH.out.2.1) rfl
    simp only [Act.put, List.setIfInBounds_toArray, List.set_cons_zero, List.set_cons_succ]
    refine bodyPost_ret (v := .agg #[.int .i64 9, .string ⟨#[]⟩, .string ⟨#[]⟩, .int .i64 0, .string ⟨#[]⟩, .bool false, .slice none 0 0, .slice none 0 0, .int .i64 0, .int .i64 0, .string ⟨#[42, 42, 42]⟩, .int .i64 0, .bool false, .bool false, .bool false, .slice none 0 0]) (by simp [results, asAddr, hl]) rfl ⟨rfl, bel_setRow hbel (by omega) _⟩
end Go.Proofs.YtnocllocnoodnaaGreatDoor
