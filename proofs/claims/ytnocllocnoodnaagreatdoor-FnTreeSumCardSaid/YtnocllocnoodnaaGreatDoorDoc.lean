/- The thin package's HTMLOf at documents. -/
import Derived.Test.YtnocllocnoodnaaGreatDoorBuilt2
namespace Go.Proofs.YtnocllocnoodnaaGreatDoor
open Go.RowKit
/-- the call tells this text -/
def Told (m : List UInt8) (w : World) (e : Ending) (w' : World) : Prop := e = .returned (.string ⟨m.toArray⟩) ∧ Below w.heap.size w w'
set_option maxHeartbeats 4000000 in
theorem md_ToHTML (T : List UInt8) (lo hi : Nat) (v : Value) (w : World) (h : Prints NlEnd T lo hi v w) (hw : hi ≤ w.heap.size) (hT : T.length ≤ 1000000) : Calls Tryz.prog 10 #[v] w (Told T w) := by
  have hb0 : Buf w.heap.size w.heap.size [] (w.alloc (.cells #[.slice none 0 0, .int .i64 0, .int .i8 0] 53)) := Lib.fresh_isBuffer _ _ w
  have hl0 : Below w.heap.size w (w.alloc (.cells #[.slice none 0 0, .int .i64 0, .int .i8 0] 53)) := (Below.refl _ _).alloc (Nat.le_refl _) _
  obtain ⟨t, p, f, rfl, hm, hen, hcall⟩ := h.call (w' := w.alloc (.cells #[.slice none 0 0, .int .i64 0, .int .i8 0] 53)) (fun k _ hk => heap_alloc_old w _ (by omega)) hw (by simp) hb0 (by simpa using hT) (.inl rfl)
  have HC := Lib.hid hcall
  clear hcall h hb0
  unfold Enters at hen
  unfold Told
  go_enter Tryz.func10, Tryz.ntmps10
  go_wp2_with (first
    | (go_at_call 14; refine (buf_text _ _ _ _ HB6.out).mono ?_; rintro e w7 ⟨rfl, n, rfl⟩)
    | ((with_reducible refine HC.out.mono ?_); rintro e w6 ⟨rfl, hb6, hl6, hk6⟩; have HB6 := Lib.hid hb6; clear hb6))
  go_ret
  exact ⟨rfl, bel_drewP (hl0.trans hl6) n⟩
set_option maxHeartbeats 4000000 in
theorem impl_links_nil (w : World) : Calls Tryz.prog 16 #[.slice none 0 0] w fun e w' => (∃ p, e = .returned (.map (some p))) ∧ Below w.heap.size w w' := by
  have hmm := @run_makeMap Tryz.prog
  go_enter Tryz.func16, Tryz.ntmps16
  go_wp2
  go_loopg [9] 0 (fun gg i wx => i = .int .i64 0 ∧ Below w.heap.size w wx)
  case atStart => exact ⟨rfl, (Below.refl _ _).alloc (Nat.le_refl _) _⟩
  case round =>
    obtain ⟨rfl, hb⟩ := hrel
    go_wp2
    go_ret
    exact ⟨⟨_, rfl⟩, hb⟩
set_option maxHeartbeats 8000000 in
set_option maxRecDepth 100000 in
theorem built_doc (Ts : Nat → List UInt8) (n lo hi : Nat) (ks : Value) (w' : World) (hr' : RowBuilds (fun _ => false) Ts n lo hi ks w') (hhw : hi ≤ w'.heap.size) :
    Calls Tryz.prog 11 #[.agg (blkG 1 ⟨#[]⟩ ⟨#[]⟩ 0 ⟨#[]⟩ false ks ⟨#[]⟩ 0 false)] w' (fun e w2 => ∃ v, (∃ t x, v = .iface t x) ∧ Prints NlEnd (sumT Ts n) w'.heap.size w2.heap.size v w2 ∧ e = .returned v ∧ Below w'.heap.size w' w2) := by
  have hks : ∃ a n c, ks = .slice (some ⟨a, 0, none⟩) n c := by obtain ⟨kb, c, css, rfl, _⟩ := hr'; exact ⟨_, _, _, rfl⟩
  obtain ⟨ka, kn, kc, rfl⟩ := hks
  have H := Lib.hid (fun w1 (h1 : Below w'.heap.size w' w1) => list_row (fun _ => false) Ts n lo hi _ w1 (hr'.keep (fun b _ hb2 => h1.block b (by omega))) (Nat.le_trans hhw h1.size))
  have HN := Lib.hid (fun w => impl_links_nil w)
  clear hr'
  unfold ListedRow at H
  unfold blkG at *
  obtain ⟨hz0, hz1⟩ := two_allocs w' (Obj.cells #[.int .i64 1, .string ⟨#[]⟩, .string ⟨#[]⟩, .int .i64 0, .string ⟨#[]⟩, .bool false, .slice none 0 0, .slice (some ⟨ka, 0, none⟩) kn kc, .int .i64 0, .int .i64 0, .string ⟨#[]⟩, .int .i64 0, .bool false, .bool false, .bool false, .slice none 0 0] 33) (Obj.cells #[.int .i64 0, .int .i64 0] 58)
  have d7 : ((w'.alloc (Obj.cells #[.int .i64 1, .string ⟨#[]⟩, .string ⟨#[]⟩, .int .i64 0, .string ⟨#[]⟩, .bool false, .slice none 0 0, .slice (some ⟨ka, 0, none⟩) kn kc, .int .i64 0, .int .i64 0, .string ⟨#[]⟩, .int .i64 0, .bool false, .bool false, .bool false, .slice none 0 0] 33)).alloc (Obj.cells #[.int .i64 0, .int .i64 0] 58)).cell? ⟨w'.heap.size, 7, none⟩ = some (.slice (some ⟨ka, 0, none⟩) kn kc) := by rw [Lib.cell_of_heap hz0]; rfl
  have bd7 : ((w'.alloc (Obj.cells #[.int .i64 1, .string ⟨#[]⟩, .string ⟨#[]⟩, .int .i64 0, .string ⟨#[]⟩, .bool false, .slice none 0 0, .slice (some ⟨ka, 0, none⟩) kn kc, .int .i64 0, .int .i64 0, .string ⟨#[]⟩, .int .i64 0, .bool false, .bool false, .bool false, .slice none 0 0] 33)).alloc (Obj.cells #[.int .i64 0, .int .i64 0] 58)).drew.cell? ⟨w'.heap.size, 7, none⟩ = _ := d7
  have d15 : ((w'.alloc (Obj.cells #[.int .i64 1, .string ⟨#[]⟩, .string ⟨#[]⟩, .int .i64 0, .string ⟨#[]⟩, .bool false, .slice none 0 0, .slice (some ⟨ka, 0, none⟩) kn kc, .int .i64 0, .int .i64 0, .string ⟨#[]⟩, .int .i64 0, .bool false, .bool false, .bool false, .slice none 0 0] 33)).alloc (Obj.cells #[.int .i64 0, .int .i64 0] 58)).cell? ⟨w'.heap.size, 15, none⟩ = some (.slice none 0 0) := by rw [Lib.cell_of_heap hz0]; rfl
  have bd15 : ((w'.alloc (Obj.cells #[.int .i64 1, .string ⟨#[]⟩, .string ⟨#[]⟩, .int .i64 0, .string ⟨#[]⟩, .bool false, .slice none 0 0, .slice (some ⟨ka, 0, none⟩) kn kc, .int .i64 0, .int .i64 0, .string ⟨#[]⟩, .int .i64 0, .bool false, .bool false, .bool false, .slice none 0 0] 33)).alloc (Obj.cells #[.int .i64 0, .int .i64 0] 58)).drew.cell? ⟨w'.heap.size, 15, none⟩ = _ := d15
  have p0 : ((w'.alloc (Obj.cells #[.int .i64 1, .string ⟨#[]⟩, .string ⟨#[]⟩, .int .i64 0, .string ⟨#[]⟩, .bool false, .slice none 0 0, .slice (some ⟨ka, 0, none⟩) kn kc, .int .i64 0, .int .i64 0, .string ⟨#[]⟩, .int .i64 0, .bool false, .bool false, .bool false, .slice none 0 0] 33)).alloc (Obj.cells #[.int .i64 0, .int .i64 0] 58)).cell? ⟨w'.heap.size + 1, 0, none⟩ = some (.int .i64 0) := by rw [Lib.cell_of_heap hz1]; rfl
  have bp0 : ((w'.alloc (Obj.cells #[.int .i64 1, .string ⟨#[]⟩, .string ⟨#[]⟩, .int .i64 0, .string ⟨#[]⟩, .bool false, .slice none 0 0, .slice (some ⟨ka, 0, none⟩) kn kc, .int .i64 0, .int .i64 0, .string ⟨#[]⟩, .int .i64 0, .bool false, .bool false, .bool false, .slice none 0 0] 33)).alloc (Obj.cells #[.int .i64 0, .int .i64 0] 58)).drew.cell? ⟨w'.heap.size + 1, 0, none⟩ = _ := p0
  have p1 : ((w'.alloc (Obj.cells #[.int .i64 1, .string ⟨#[]⟩, .string ⟨#[]⟩, .int .i64 0, .string ⟨#[]⟩, .bool false, .slice none 0 0, .slice (some ⟨ka, 0, none⟩) kn kc, .int .i64 0, .int .i64 0, .string ⟨#[]⟩, .int .i64 0, .bool false, .bool false, .bool false, .slice none 0 0] 33)).alloc (Obj.cells #[.int .i64 0, .int .i64 0] 58)).cell? ⟨w'.heap.size + 1, 1, none⟩ = some (.int .i64 0) := by rw [Lib.cell_of_heap hz1]; rfl
  have bp1 : ((w'.alloc (Obj.cells #[.int .i64 1, .string ⟨#[]⟩, .string ⟨#[]⟩, .int .i64 0, .string ⟨#[]⟩, .bool false, .slice none 0 0, .slice (some ⟨ka, 0, none⟩) kn kc, .int .i64 0, .int .i64 0, .string ⟨#[]⟩, .int .i64 0, .bool false, .bool false, .bool false, .slice none 0 0] 33)).alloc (Obj.cells #[.int .i64 0, .int .i64 0] 58)).drew.cell? ⟨w'.heap.size + 1, 1, none⟩ = _ := p1
  have hlt : w'.heap.size + 1 < ((w'.alloc (Obj.cells #[.int .i64 1, .string ⟨#[]⟩, .string ⟨#[]⟩, .int .i64 0, .string ⟨#[]⟩, .bool false, .slice none 0 0, .slice (some ⟨ka, 0, none⟩) kn kc, .int .i64 0, .int .i64 0, .string ⟨#[]⟩, .int .i64 0, .bool false, .bool false, .bool false, .slice none 0 0] 33)).alloc (Obj.cells #[.int .i64 0, .int .i64 0] 58)).drew.heap.size := (by show _ < ((w'.alloc _).alloc _).heap.size; simp)
  have hW0 : Below w'.heap.size w' ((w'.alloc (Obj.cells #[.int .i64 1, .string ⟨#[]⟩, .string ⟨#[]⟩, .int .i64 0, .string ⟨#[]⟩, .bool false, .slice none 0 0, .slice (some ⟨ka, 0, none⟩) kn kc, .int .i64 0, .int .i64 0, .string ⟨#[]⟩, .int .i64 0, .bool false, .bool false, .bool false, .slice none 0 0] 33)).alloc (Obj.cells #[.int .i64 0, .int .i64 0] 58)).drew := (((Below.refl _ _).alloc (Nat.le_refl _) _).alloc (by simp) _).drew
  clear hz0 hz1
  go_enter Tryz.func11, Tryz.ntmps11
  go_wp2_with (fail)
  go_region_held3 (fun w3 => w3.cell? ⟨w'.heap.size, 7, none⟩ = some (.slice (some ⟨ka, 0, none⟩) kn kc) ∧ w3.cell? ⟨w'.heap.size, 15, none⟩ = some (.slice none 0 0) ∧ w3.cell? ⟨w'.heap.size + 1, 0, none⟩ = some (.int .i64 0) ∧ w3.cell? ⟨w'.heap.size + 1, 1, none⟩ = some (.int .i64 0)) (first | with_reducible exact ⟨d7, d15, p0, p1⟩ | with_reducible exact ⟨bd7, bd15, bp0, bp1⟩ | with_reducible exact ⟨gd7, gd15, gp0, gp1⟩ | with_reducible exact ⟨fd7, fd15, fp0, fp1⟩ | go_keep)
    (first
      | (go_at_call 15; refine (H.out _ (hW0.trans (hb4.mono (Nat.le_trans (Nat.le_succ _) (Nat.le_of_lt hlt))))).mono ?_; rintro e w2 ⟨o, rfl, hq, hb2⟩; have hl4 : w'.heap.size + 1 < w4.heap.size := Nat.lt_of_lt_of_le hlt hb4.size; have fd7 := (hb2.cell (p := ⟨w'.heap.size, 7, none⟩) (Nat.lt_of_succ_lt hl4)).trans gd7; have fd15 := (hb2.cell (p := ⟨w'.heap.size, 15, none⟩) (Nat.lt_of_succ_lt hl4)).trans gd15; have fp0 := (hb2.cell (p := ⟨w'.heap.size + 1, 0, none⟩) hl4).trans gp0; have fp1 := (hb2.cell (p := ⟨w'.heap.size + 1, 1, none⟩) hl4).trans gp1; have HQ := Lib.hid hq; have HB := Lib.hid hb2; obtain ⟨oa, oc, ovs, rfl, _⟩ := hq; clear hb2)
      | (go_at_call 15; refine (H.out _ hW0).mono ?_; rintro e w2 ⟨o, rfl, hq, hb2⟩; have fd7 := (hb2.cell (p := ⟨w'.heap.size, 7, none⟩) (Nat.lt_of_succ_lt hlt)).trans d7; have fd15 := (hb2.cell (p := ⟨w'.heap.size, 15, none⟩) (Nat.lt_of_succ_lt hlt)).trans d15; have fp0 := (hb2.cell (p := ⟨w'.heap.size + 1, 0, none⟩) hlt).trans p0; have fp1 := (hb2.cell (p := ⟨w'.heap.size + 1, 1, none⟩) hlt).trans p1; have HQ := Lib.hid hq; have HB := Lib.hid hb2; obtain ⟨oa, oc, ovs, rfl, _⟩ := hq; clear hb2)
      | (go_at_call 16; refine (HN.out w2).mono ?_; rintro e w4 ⟨⟨mp, rfl⟩, hb4⟩; have hl2 : w'.heap.size + 1 < w2.heap.size := Nat.lt_of_lt_of_le hlt HB.out.size; have gd7 := (hb4.cell (p := ⟨w'.heap.size, 7, none⟩) (Nat.lt_of_succ_lt hl2)).trans fd7; have gd15 := (hb4.cell (p := ⟨w'.heap.size, 15, none⟩) (Nat.lt_of_succ_lt hl2)).trans fd15; have gp0 := (hb4.cell (p := ⟨w'.heap.size + 1, 0, none⟩) hl2).trans fp0; have gp1 := (hb4.cell (p := ⟨w'.heap.size + 1, 1, none⟩) hl2).trans fp1)
      | (go_at_call 16; refine (HN.out _).mono ?_; rintro e w4 ⟨⟨mp, rfl⟩, hb4⟩; have gd7 := (hb4.cell (p := ⟨w'.heap.size, 7, none⟩) (Nat.lt_of_succ_lt hlt)).trans d7; have gd15 := (hb4.cell (p := ⟨w'.heap.size, 15, none⟩) (Nat.lt_of_succ_lt hlt)).trans d15; have gp0 := (hb4.cell (p := ⟨w'.heap.size + 1, 0, none⟩) hlt).trans p0; have gp1 := (hb4.cell (p := ⟨w'.heap.size + 1, 1, none⟩) hlt).trans p1))
  all_goals go_wp2
  · obtain ⟨hx, hnl⟩ := rowX_row HQ.out
    have hB2 : Below w'.heap.size w' w2 := hW0.trans (HB.out.mono (by omega))
    have hs2 := hB2.size
    have hs4 := hb4.size
    have hx4 := (hx.keep (fun b _ hb => (heap_alloc_old w4 (.cells #[.int .i64 0, .int .i64 0, .slice (some ⟨oa, 0, none⟩) n oc, .map (some mp)] 65) (by omega)).trans (hb4.block b hb))).wide (lo' := w'.heap.size) (hi' := w4.heap.size + 1) (by omega) (by omega)
    exact bodyPost_ret (v := .iface 59 (.pointer (some ⟨w4.heap.size, 0, none⟩))) (by simp [results, go_sem]) rfl ⟨_, ⟨_, _, rfl⟩, Document_prints (md_Document_by Ts n w'.heap.size _ w4.heap.size (.int .i64 0) (.int .i64 0) (.map (some mp)) _ _ (heap_alloc_new w4 _) (by omega) (by simp) (hx4.wide (Nat.le_refl _) (by simp)) hnl), rfl, (hB2.trans (hb4.mono (by omega))).alloc (by omega) _⟩
set_option maxHeartbeats 4000000 in
theorem impl_HTMLOf (Ts : Nat → List UInt8) (n lo hi : Nat) (ks : Value) (w : World) (hr : RowBuilds (fun _ => false) Ts n lo hi ks w) (hhw : hi ≤ w.heap.size) (hT : (sumT Ts n).length ≤ 1000000) :
    Calls Tryz.prog 7 #[.agg (blkG 1 ⟨#[]⟩ ⟨#[]⟩ 0 ⟨#[]⟩ false ks ⟨#[]⟩ 0 false)] w (Told (sumT Ts n) w) := by
  have hks : ∃ a n c, ks = .slice (some ⟨a, 0, none⟩) n c := by obtain ⟨kb, c, css, rfl, _⟩ := hr; exact ⟨_, _, _, rfl⟩
  obtain ⟨ka, kn, kc, rfl⟩ := hks
  have H := Lib.hid (fun w1 (h1 : Below w.heap.size w w1) => built_doc Ts n lo hi _ w1 (hr.keep (fun b _ hb2 => h1.block b (by omega))) (Nat.le_trans hhw h1.size))
  have HT := Lib.hid (fun lo hi v w h hw => md_ToHTML (sumT Ts n) lo hi v w h hw hT)
  clear hr
  unfold Told at *
  unfold blkG at *
  go_enter Tryz.func7, Tryz.ntmps7
  go_wp2_with (first
    | (go_at_call 11; refine (H.out _ ((Below.refl _ _).alloc (Nat.le_refl _) _)).mono ?_; rintro e w2 ⟨_, ⟨t, x, rfl⟩, hq, rfl, hb2⟩; have HQ := Lib.hid hq; clear hq)
    | (go_at_call 10; refine (HT.out _ _ _ _ HQ.out (Nat.le_refl _)).mono ?_; rintro e w3 ⟨rfl, hb3⟩))
  go_ret
  have hs2 := hb2.size
  simp at hs2
  exact ⟨rfl, (((Below.refl _ _).alloc (Nat.le_refl _) _).trans (hb2.mono (by simp))).trans (hb3.mono (by omega))⟩
end Go.Proofs.YtnocllocnoodnaaGreatDoor
