/- The thin package's 'list' over a row of nodes; 'built' at breaks. -/
import Derived.Test.YtnocllocnoodnaaGreatDoorBuilt1
import Derived.Test.YtnocllocnoodnaaGreatDoorListed
import Derived.Test.YtnocllocnoodnaaGreatDoorPrintList
namespace Go.Proofs.YtnocllocnoodnaaGreatDoor
open Go.RowKit
/-- a slice of nodes of blocks -/
def RowBuilds (txs : Nat → Bool) (Ts : Nat → List UInt8) (n lo hi : Nat) (s : Value) (w : World) : Prop :=
  ∃ (kb c : Nat) (css : List (Array Value)), s = .slice (some ⟨kb, 0, none⟩) n c ∧ css.length = n ∧ 0 < n ∧ n ≤ 1000 ∧ lo ≤ kb ∧ kb < hi ∧ RowAt 33 kb (css.flatMap Array.toList) w ∧ ∀ i (h : i < css.length), BuildsTo (txs i) (Ts i) lo hi css[i] w
theorem RowBuilds.keep {txs : Nat → Bool} {Ts : Nat → List UInt8} {n lo hi : Nat} {s : Value} {w1 w2 : World} (h : RowBuilds txs Ts n lo hi s w1) (hb : ∀ b, lo ≤ b → b < hi → w2.heap[b]? = w1.heap[b]?) : RowBuilds txs Ts n lo hi s w2 := by
  obtain ⟨kb, c, css, h1, h2, h3, h4, h5, h6, h7, h8⟩ := h
  exact ⟨kb, c, css, h1, h2, h3, h4, h5, h6, h7.of (hb kb h5 h6), fun i hi => (h8 i hi).keep hb⟩
theorem RowBuilds.wide {txs : Nat → Bool} {Ts : Nat → List UInt8} {n lo hi lo' hi' : Nat} {s : Value} {w : World} (h : RowBuilds txs Ts n lo hi s w) (hl : lo' ≤ lo) (hh : hi ≤ hi') : RowBuilds txs Ts n lo' hi' s w := by
  obtain ⟨kb, c, css, h1, h2, h3, h4, h5, h6, h7, h8⟩ := h
  exact ⟨kb, c, css, h1, h2, h3, h4, by omega, by omega, h7, fun i hi => (h8 i hi).wide hl hh⟩
theorem RowPrintsX.keep {txs : Nat → Bool} {Ts : Nat → List UInt8} {n lo hi : Nat} {s : Value} {w1 w2 : World} (h : RowPrintsX txs Ts n lo hi s w1) (hb : ∀ b, lo ≤ b → b < hi → w2.heap[b]? = w1.heap[b]?) : RowPrintsX txs Ts n lo hi s w2 := by
  obtain ⟨a, c, vs, h1, h2, h3, h4, h5, h6, h7⟩ := h
  exact ⟨a, c, vs, h1, h2, h3, h4, h5, h6.of (hb a h4 h5), fun i hi => (printsX_sayable txs Ts).keep i _ _ _ _ _ (h7 i hi) hb⟩
theorem RowPrintsX.wide {txs : Nat → Bool} {Ts : Nat → List UInt8} {n lo hi lo' hi' : Nat} {s : Value} {w : World} (h : RowPrintsX txs Ts n lo hi s w) (hl : lo' ≤ lo) (hh : hi ≤ hi') : RowPrintsX txs Ts n lo' hi' s w := by
  obtain ⟨a, c, vs, h1, h2, h3, h4, h5, h6, h7⟩ := h
  exact ⟨a, c, vs, h1, h2, h3, by omega, by omega, h6, fun i hi => (printsX_sayable txs Ts).wide i _ _ _ _ _ _ (h7 i hi) hl hh⟩
/-- the call gives a slice of blocks -/
def ListedRow (txs : Nat → Bool) (Ts : Nat → List UInt8) (n : Nat) (w : World) (e : Ending) (w' : World) : Prop := ∃ o, e = .returned o ∧ RowPrintsX txs Ts n w.heap.size w'.heap.size o w' ∧ Below w.heap.size w w'
theorem list_row (txs : Nat → Bool) (Ts : Nat → List UInt8) (n lo hi : Nat) (s : Value) (w : World) (hr : RowBuilds txs Ts n lo hi s w) (hw : hi ≤ w.heap.size) : Calls Tryz.prog 15 #[s] w (ListedRow txs Ts n w) := by
  obtain ⟨kb, c, css, rfl, rfl, h0, hn, _, _, hrow, hp⟩ := hr
  refine (impl_list (fun i => PrintsX (txs i) (Ts i)) (printsX_sayable _ _) css kb c w hrow ?_ hn ?_).mono ?_
  · intro c hc
    obtain ⟨i, hi, rfl⟩ := List.getElem_of_mem hc
    exact ⟨(hp i hi).1, (hp i hi).2.1⟩
  · intro i hi w' hb
    exact (hp i hi).2.2 w' (fun k _ hk => hb.block k (by omega)) (Nat.le_trans hw hb.size)
  · rintro e w' ⟨vs, o, hl, rfl, ⟨hown, hq⟩, hb⟩
    obtain ⟨g, cap, rfl, g1, g2, g3⟩ := owns_rowQ hown (by omega)
    rw [flat_one] at g3
    refine ⟨_, rfl, ⟨g, cap, vs, by rw [hl], hl, hn, g1, g2, g3, ?_⟩, hb⟩
    intro i hi
    obtain ⟨lo', hi', h4, h5, h6, _⟩ := hq i hi
    exact (printsX_sayable txs Ts).wide i _ _ _ _ _ _ h6 h4 h5
/-- blocks none of which is a *Text -/
theorem rowX_row {Ts : Nat → List UInt8} {n lo hi : Nat} {s : Value} {w : World} (h : RowPrintsX (fun _ => false) Ts n lo hi s w) : RowPrints NlEnd 45 Ts n lo hi s w ∧ ∀ i, i < n → NlT (Ts i) := by
  obtain ⟨a, c, vs, h1, h2, h3, h4, h5, h6, h7⟩ := h
  exact ⟨⟨a, c, vs, h1, h2, h3, h4, h5, h6, fun i hi => (h7 i hi).1⟩, fun i hi => (h7 i (by omega)).2.1 rfl⟩
set_option maxHeartbeats 4000000 in
set_option maxRecDepth 100000 in
theorem md_ZZBreak (raw : ByteArray) (w : World) : Calls Tryz.prog 21 #[.agg #[.int .i64 0, .int .i64 0], .string raw] w (BuildX false [60, 104, 114, 32, 47, 62, 10] w) := by
  unfold BuildX
  go_enter Tryz.func21, Tryz.ntmps21
  go_wp2_with (fail)
  go_ret
  exact ⟨_, ⟨_, _, rfl⟩, printsX_of (by decide) (prints_weak (ThematicBreak_prints (ThematicBreak_by _ _ _ _))) (show NlT [60, 104, 114, 32, 47, 62, 10] from rfl), rfl, ((Below.refl _ _).alloc (Nat.le_refl _) _).alloc (by simp) _⟩
set_option maxHeartbeats 4000000 in
set_option maxRecDepth 100000 in
theorem built_break (raw : ByteArray) (lo hi : Nat) (w : World) : BuildsTo false [60, 104, 114, 32, 47, 62, 10] lo hi (blkG 9 ⟨#[]⟩ ⟨#[]⟩ 0 ⟨#[]⟩ false (.slice none 0 0) raw 0 false) w := by
  refine ⟨rfl, by simp [blkG, Value.oneCell'], ?_⟩
  intro w' _ _
  have H := Lib.hid (fun w => md_ZZBreak raw w)
  unfold BuildX at *
  unfold blkG
  go_enter Tryz.func11, Tryz.ntmps11
  go_wp2_with (go_at_call 21; refine (H.out _).mono ?_; rintro e w2 ⟨_, ⟨t, x, rfl⟩, hq, rfl, hb2⟩)
  go_ret
  exact ⟨_, ⟨_, _, rfl⟩, (printsX_sayable (fun _ => false) (fun _ => [60, 104, 114, 32, 47, 62, 10])).wide 0 _ _ _ _ _ _ hq (by simp; omega) (Nat.le_refl _), rfl, (((Below.refl _ _).alloc (Nat.le_refl _) _).alloc (by simp) _).trans (hb2.mono (by simp; omega))⟩
set_option maxHeartbeats 8000000 in
set_option maxRecDepth 100000 in
theorem built_quote (Ts : Nat → List UInt8) (n lo hi : Nat) (ks : Value) (w : World) (hr : RowBuilds (fun _ => false) Ts n lo hi ks w) : BuildsTo false ([60, 98, 108, 111, 99, 107, 113, 117, 111, 116, 101, 62, 10] ++ (sumT Ts n ++ [60, 47, 98, 108, 111, 99, 107, 113, 117, 111, 116, 101, 62, 10])) lo hi (blkG 2 ⟨#[]⟩ ⟨#[]⟩ 0 ⟨#[]⟩ false ks ⟨#[]⟩ 0 false) w := by
  have hks : ∃ a n c, ks = .slice (some ⟨a, 0, none⟩) n c := by obtain ⟨kb, c, css, rfl, _⟩ := hr; exact ⟨_, _, _, rfl⟩
  obtain ⟨ka, kn, kc, rfl⟩ := hks
  refine ⟨rfl, blkG_one _ _ _ _ _ _ _ _ _ _ _ _, ?_⟩
  intro w' hag hhw
  have hr' := hr.keep hag
  have H := Lib.hid (fun w1 (h1 : Below w'.heap.size w' w1) => list_row (fun _ => false) Ts n lo hi _ w1 (hr'.keep (fun b _ hb2 => h1.block b (by omega))) (Nat.le_trans hhw h1.size))
  clear hr hr' hag
  unfold ListedRow at H
  unfold BuildX
  unfold blkG at *
  obtain ⟨hz0, hz1⟩ := two_allocs w' (Obj.cells #[.int .i64 2, .string ⟨#[]⟩, .string ⟨#[]⟩, .int .i64 0, .string ⟨#[]⟩, .bool false, .slice none 0 0, .slice (some ⟨ka, 0, none⟩) kn kc, .int .i64 0, .int .i64 0, .string ⟨#[]⟩, .int .i64 0, .bool false, .bool false, .bool false, .slice none 0 0] 33) (Obj.cells #[.int .i64 0, .int .i64 0] 58)
  have d7 : ((w'.alloc (Obj.cells #[.int .i64 2, .string ⟨#[]⟩, .string ⟨#[]⟩, .int .i64 0, .string ⟨#[]⟩, .bool false, .slice none 0 0, .slice (some ⟨ka, 0, none⟩) kn kc, .int .i64 0, .int .i64 0, .string ⟨#[]⟩, .int .i64 0, .bool false, .bool false, .bool false, .slice none 0 0] 33)).alloc (Obj.cells #[.int .i64 0, .int .i64 0] 58)).cell? ⟨w'.heap.size, 7, none⟩ = some (.slice (some ⟨ka, 0, none⟩) kn kc) := by rw [Lib.cell_of_heap hz0]; rfl
  have p0 : ((w'.alloc (Obj.cells #[.int .i64 2, .string ⟨#[]⟩, .string ⟨#[]⟩, .int .i64 0, .string ⟨#[]⟩, .bool false, .slice none 0 0, .slice (some ⟨ka, 0, none⟩) kn kc, .int .i64 0, .int .i64 0, .string ⟨#[]⟩, .int .i64 0, .bool false, .bool false, .bool false, .slice none 0 0] 33)).alloc (Obj.cells #[.int .i64 0, .int .i64 0] 58)).cell? ⟨w'.heap.size + 1, 0, none⟩ = some (.int .i64 0) := by rw [Lib.cell_of_heap hz1]; rfl
  have p1 : ((w'.alloc (Obj.cells #[.int .i64 2, .string ⟨#[]⟩, .string ⟨#[]⟩, .int .i64 0, .string ⟨#[]⟩, .bool false, .slice none 0 0, .slice (some ⟨ka, 0, none⟩) kn kc, .int .i64 0, .int .i64 0, .string ⟨#[]⟩, .int .i64 0, .bool false, .bool false, .bool false, .slice none 0 0] 33)).alloc (Obj.cells #[.int .i64 0, .int .i64 0] 58)).cell? ⟨w'.heap.size + 1, 1, none⟩ = some (.int .i64 0) := by rw [Lib.cell_of_heap hz1]; rfl
  have bd7 : ((w'.alloc (Obj.cells #[.int .i64 2, .string ⟨#[]⟩, .string ⟨#[]⟩, .int .i64 0, .string ⟨#[]⟩, .bool false, .slice none 0 0, .slice (some ⟨ka, 0, none⟩) kn kc, .int .i64 0, .int .i64 0, .string ⟨#[]⟩, .int .i64 0, .bool false, .bool false, .bool false, .slice none 0 0] 33)).alloc (Obj.cells #[.int .i64 0, .int .i64 0] 58)).drew.cell? ⟨w'.heap.size, 7, none⟩ = _ := d7
  have bp0 : ((w'.alloc (Obj.cells #[.int .i64 2, .string ⟨#[]⟩, .string ⟨#[]⟩, .int .i64 0, .string ⟨#[]⟩, .bool false, .slice none 0 0, .slice (some ⟨ka, 0, none⟩) kn kc, .int .i64 0, .int .i64 0, .string ⟨#[]⟩, .int .i64 0, .bool false, .bool false, .bool false, .slice none 0 0] 33)).alloc (Obj.cells #[.int .i64 0, .int .i64 0] 58)).drew.cell? ⟨w'.heap.size + 1, 0, none⟩ = _ := p0
  have bp1 : ((w'.alloc (Obj.cells #[.int .i64 2, .string ⟨#[]⟩, .string ⟨#[]⟩, .int .i64 0, .string ⟨#[]⟩, .bool false, .slice none 0 0, .slice (some ⟨ka, 0, none⟩) kn kc, .int .i64 0, .int .i64 0, .string ⟨#[]⟩, .int .i64 0, .bool false, .bool false, .bool false, .slice none 0 0] 33)).alloc (Obj.cells #[.int .i64 0, .int .i64 0] 58)).drew.cell? ⟨w'.heap.size + 1, 1, none⟩ = _ := p1
  clear hz0 hz1
  go_enter Tryz.func11, Tryz.ntmps11
  go_wp2_with (fail)
  go_region_held3 (fun w3 => w3.cell? ⟨w'.heap.size, 7, none⟩ = some (.slice (some ⟨ka, 0, none⟩) kn kc) ∧ w3.cell? ⟨w'.heap.size + 1, 0, none⟩ = some (.int .i64 0) ∧ w3.cell? ⟨w'.heap.size + 1, 1, none⟩ = some (.int .i64 0)) (first | with_reducible exact ⟨d7, p0, p1⟩ | with_reducible exact ⟨bd7, bp0, bp1⟩ | with_reducible exact ⟨fd7, fp0, fp1⟩ | go_keep)
    (first | (go_at_call 15; refine (H.out _ (((Below.refl _ _).alloc (Nat.le_refl _) _).alloc (by simp) _).drew).mono ?_; rintro e w2 ⟨o, rfl, hq, hb2⟩; have hlt : w'.heap.size + 1 < ((w'.alloc (Obj.cells #[.int .i64 2, .string ⟨#[]⟩, .string ⟨#[]⟩, .int .i64 0, .string ⟨#[]⟩, .bool false, .slice none 0 0, .slice (some ⟨ka, 0, none⟩) kn kc, .int .i64 0, .int .i64 0, .string ⟨#[]⟩, .int .i64 0, .bool false, .bool false, .bool false, .slice none 0 0] 33)).alloc (Obj.cells #[.int .i64 0, .int .i64 0] 58)).drew.heap.size := (by show _ < ((w'.alloc _).alloc _).heap.size; simp); have fd7 := (hb2.cell (p := ⟨w'.heap.size, 7, none⟩) (Nat.lt_of_succ_lt hlt)).trans d7; have fp0 := (hb2.cell (p := ⟨w'.heap.size + 1, 0, none⟩) hlt).trans p0; have fp1 := (hb2.cell (p := ⟨w'.heap.size + 1, 1, none⟩) hlt).trans p1; have HQ := Lib.hid hq; have HB := Lib.hid hb2; obtain ⟨oa, oc, ovs, rfl, _⟩ := hq; clear hb2))
  all_goals go_wp2
  clear d7 p0 p1 bd7 bp0 bp1 fd7 fp0 fp1 hlt
  have hs2 := HB.out.size
  have hs3 : w'.heap.size + 1 + 1 ≤ w2.heap.size := by have : ((w'.alloc _).alloc _).heap.size ≤ w2.heap.size := hs2; simpa using this
  have hB2 : Below w'.heap.size w' w2 := (((Below.refl _ _).alloc (Nat.le_refl _) _).alloc (by simp) _).drew.trans (HB.out.mono (by show _ ≤ ((w'.alloc _).alloc _).heap.size; simp; omega))
  obtain ⟨hx, hnl⟩ := rowX_row HQ.out
  have hx2 := hx.wide (lo' := w'.heap.size) (by show _ ≤ ((w'.alloc _).alloc _).heap.size; simp; omega) (Nat.le_refl _)
  clear HQ HB hs2 hx
  refine bodyPost_ret (v := .iface 66 (.pointer (some ⟨w2.heap.size, 0, none⟩))) (by simp [results, go_sem]) rfl ⟨_, ⟨_, _, rfl⟩, printsX_of (by decide) (Quote_prints (md_Quote_by Ts n w'.heap.size _ w2.heap.size (.int .i64 0) (.int .i64 0) _ _ (heap_alloc_new w2 _) (by omega) (by simp) ((hx2.keep (fun b _ hb => heap_alloc_old w2 _ hb)).wide (Nat.le_refl _) (by simp)) hnl)) (show NlT ([60, 98, 108, 111, 99, 107, 113, 117, 111, 116, 101, 62, 10] ++ (sumT Ts n ++ [60, 47, 98, 108, 111, 99, 107, 113, 117, 111, 116, 101, 62, 10])) from nlT_app _ (nlT_app _ (show NlT [60, 47, 98, 108, 111, 99, 107, 113, 117, 111, 116, 101, 62, 10] from rfl))), rfl, hB2.alloc (by omega) _⟩
/-- the call makes an item that prints this -/
def ItemX (T : List UInt8) (w : World) (e : Ending) (w2 : World) : Prop := ∃ v, (∃ t x, v = .iface t x) ∧ Prints Any T w.heap.size w2.heap.size v w2 ∧ e = .returned v ∧ Below w.heap.size w w2
set_option maxHeartbeats 4000000 in
theorem md_ZZItem (a n c : Nat) (wd : Int) (w : World) : Calls Tryz.prog 32 #[.agg #[.int .i64 0, .int .i64 0], .slice (some ⟨a, 0, none⟩) n c, .int .i64 wd] w fun e w2 => ∃ p, e = .returned (.iface 131 (.pointer (some ⟨p, 0, none⟩))) ∧ w.heap.size ≤ p ∧ w2.heap[p]? = some (.cells #[.int .i64 0, .int .i64 0, .slice (some ⟨a, 0, none⟩) n c, .int .i64 wd] 133 (0, 0)) ∧ p < w2.heap.size ∧ Below w.heap.size w w2 := by
  go_enter Tryz.func32, Tryz.ntmps32
  go_wp2_with (fail)
  go_ret
  exact ⟨w.heap.size + 1, rfl, by omega, (two_allocs w _ _).2, by simp, ((Below.refl _ _).alloc (Nat.le_refl _) _).alloc (by simp) _⟩
set_option maxHeartbeats 8000000 in
set_option maxRecDepth 100000 in
theorem impl_item (txs : Nat → Bool) (Ts : Nat → List UInt8) (n lo hi : Nat) (ks : Value) (w' : World) (hr' : RowBuilds txs Ts n lo hi ks w') (hhw : hi ≤ w'.heap.size) :
    Calls Tryz.prog 18 #[.agg (blkG 4 ⟨#[]⟩ ⟨#[]⟩ 0 ⟨#[]⟩ false ks ⟨#[]⟩ 4 false)] w' (ItemX (itemH txs Ts n) w') := by
  have hks : (∃ a c, ks = .slice (some ⟨a, 0, none⟩) n c) ∧ 0 < n := by obtain ⟨kb, c, css, rfl, _, h, _⟩ := hr'; exact ⟨⟨_, _, rfl⟩, h⟩
  obtain ⟨⟨ka, kc, rfl⟩, hn0⟩ := hks
  have H := Lib.hid (fun w1 (h1 : Below w'.heap.size w' w1) => list_row txs Ts n lo hi _ w1 (hr'.keep (fun b _ hb2 => h1.block b (by omega))) (Nat.le_trans hhw h1.size))
  have HZ := Lib.hid (fun a n c wd w => md_ZZItem a n c wd w)
  clear hr'
  unfold ListedRow at H
  unfold ItemX
  unfold blkG at *
  have d7 : (w'.alloc (Obj.cells #[.int .i64 4, .string ⟨#[]⟩, .string ⟨#[]⟩, .int .i64 0, .string ⟨#[]⟩, .bool false, .slice none 0 0, .slice (some ⟨ka, 0, none⟩) n kc, .int .i64 0, .int .i64 0, .string ⟨#[]⟩, .int .i64 4, .bool false, .bool false, .bool false, .slice none 0 0] 33)).cell? ⟨w'.heap.size, 7, none⟩ = some (.slice (some ⟨ka, 0, none⟩) n kc) := by rw [Lib.cell_of_heap (heap_alloc_new w' _)]; rfl
  have bd7 : (w'.alloc (Obj.cells #[.int .i64 4, .string ⟨#[]⟩, .string ⟨#[]⟩, .int .i64 0, .string ⟨#[]⟩, .bool false, .slice none 0 0, .slice (some ⟨ka, 0, none⟩) n kc, .int .i64 0, .int .i64 0, .string ⟨#[]⟩, .int .i64 4, .bool false, .bool false, .bool false, .slice none 0 0] 33)).drew.cell? ⟨w'.heap.size, 7, none⟩ = _ := d7
  have d8 : (w'.alloc (Obj.cells #[.int .i64 4, .string ⟨#[]⟩, .string ⟨#[]⟩, .int .i64 0, .string ⟨#[]⟩, .bool false, .slice none 0 0, .slice (some ⟨ka, 0, none⟩) n kc, .int .i64 0, .int .i64 0, .string ⟨#[]⟩, .int .i64 4, .bool false, .bool false, .bool false, .slice none 0 0] 33)).cell? ⟨w'.heap.size, 8, none⟩ = some (.int .i64 0) := by rw [Lib.cell_of_heap (heap_alloc_new w' _)]; rfl
  have bd8 : (w'.alloc (Obj.cells #[.int .i64 4, .string ⟨#[]⟩, .string ⟨#[]⟩, .int .i64 0, .string ⟨#[]⟩, .bool false, .slice none 0 0, .slice (some ⟨ka, 0, none⟩) n kc, .int .i64 0, .int .i64 0, .string ⟨#[]⟩, .int .i64 4, .bool false, .bool false, .bool false, .slice none 0 0] 33)).drew.cell? ⟨w'.heap.size, 8, none⟩ = _ := d8
  have d9 : (w'.alloc (Obj.cells #[.int .i64 4, .string ⟨#[]⟩, .string ⟨#[]⟩, .int .i64 0, .string ⟨#[]⟩, .bool false, .slice none 0 0, .slice (some ⟨ka, 0, none⟩) n kc, .int .i64 0, .int .i64 0, .string ⟨#[]⟩, .int .i64 4, .bool false, .bool false, .bool false, .slice none 0 0] 33)).cell? ⟨w'.heap.size, 9, none⟩ = some (.int .i64 0) := by rw [Lib.cell_of_heap (heap_alloc_new w' _)]; rfl
  have bd9 : (w'.alloc (Obj.cells #[.int .i64 4, .string ⟨#[]⟩, .string ⟨#[]⟩, .int .i64 0, .string ⟨#[]⟩, .bool false, .slice none 0 0, .slice (some ⟨ka, 0, none⟩) n kc, .int .i64 0, .int .i64 0, .string ⟨#[]⟩, .int .i64 4, .bool false, .bool false, .bool false, .slice none 0 0] 33)).drew.cell? ⟨w'.heap.size, 9, none⟩ = _ := d9
  have d11 : (w'.alloc (Obj.cells #[.int .i64 4, .string ⟨#[]⟩, .string ⟨#[]⟩, .int .i64 0, .string ⟨#[]⟩, .bool false, .slice none 0 0, .slice (some ⟨ka, 0, none⟩) n kc, .int .i64 0, .int .i64 0, .string ⟨#[]⟩, .int .i64 4, .bool false, .bool false, .bool false, .slice none 0 0] 33)).cell? ⟨w'.heap.size, 11, none⟩ = some (.int .i64 4) := by rw [Lib.cell_of_heap (heap_alloc_new w' _)]; rfl
  have bd11 : (w'.alloc (Obj.cells #[.int .i64 4, .string ⟨#[]⟩, .string ⟨#[]⟩, .int .i64 0, .string ⟨#[]⟩, .bool false, .slice none 0 0, .slice (some ⟨ka, 0, none⟩) n kc, .int .i64 0, .int .i64 0, .string ⟨#[]⟩, .int .i64 4, .bool false, .bool false, .bool false, .slice none 0 0] 33)).drew.cell? ⟨w'.heap.size, 11, none⟩ = _ := d11
  go_enter Tryz.func18, Tryz.ntmps18
  go_wp2_with (fail)
  go_region_held3 (fun w3 => w3.cell? ⟨w'.heap.size, 7, none⟩ = some (.slice (some ⟨ka, 0, none⟩) n kc) ∧ w3.cell? ⟨w'.heap.size, 8, none⟩ = some (.int .i64 0) ∧ w3.cell? ⟨w'.heap.size, 9, none⟩ = some (.int .i64 0) ∧ w3.cell? ⟨w'.heap.size, 11, none⟩ = some (.int .i64 4)) (first | with_reducible exact ⟨d7, d8, d9, d11⟩ | with_reducible exact ⟨bd7, bd8, bd9, bd11⟩ | with_reducible exact ⟨gd7, gd8, gd9, gd11⟩ | with_reducible exact ⟨fd7, fd8, fd9, fd11⟩ | go_keep)
    (first
      | (go_at_call 15; refine (H.out _ ((Below.refl _ _).alloc (Nat.le_refl _) _).drew).mono ?_; rintro e w2 ⟨o, rfl, hq, hb2⟩; have hlt : w'.heap.size < (w'.alloc (Obj.cells #[.int .i64 4, .string ⟨#[]⟩, .string ⟨#[]⟩, .int .i64 0, .string ⟨#[]⟩, .bool false, .slice none 0 0, .slice (some ⟨ka, 0, none⟩) n kc, .int .i64 0, .int .i64 0, .string ⟨#[]⟩, .int .i64 4, .bool false, .bool false, .bool false, .slice none 0 0] 33)).drew.heap.size := (by show _ < (w'.alloc _).heap.size; simp); have fd7 := (hb2.cell (p := ⟨w'.heap.size, 7, none⟩) hlt).trans d7; have fd8 := (hb2.cell (p := ⟨w'.heap.size, 8, none⟩) hlt).trans d8; have fd9 := (hb2.cell (p := ⟨w'.heap.size, 9, none⟩) hlt).trans d9; have fd11 := (hb2.cell (p := ⟨w'.heap.size, 11, none⟩) hlt).trans d11; have HQ := Lib.hid hq; have HB := Lib.hid hb2; obtain ⟨oa, oc, ovs, rfl, _⟩ := hq; clear hb2)
      | (go_at_call 32; refine (HZ.out _ _ _ _ _).mono ?_; rintro e w4 ⟨p, rfl, hp1, hp2, hp3, hb4⟩; have hlt4 : w'.heap.size < w2.heap.size := Nat.lt_of_lt_of_le hlt HB.out.size; have gd7 := (hb4.cell (p := ⟨w'.heap.size, 7, none⟩) hlt4).trans fd7; have gd8 := (hb4.cell (p := ⟨w'.heap.size, 8, none⟩) hlt4).trans fd8; have gd9 := (hb4.cell (p := ⟨w'.heap.size, 9, none⟩) hlt4).trans fd9; have gd11 := (hb4.cell (p := ⟨w'.heap.size, 11, none⟩) hlt4).trans fd11; have HP2 := Lib.hid hp2; have HB4 := Lib.hid hb4; clear hp2 hb4))
  all_goals go_wp2
  have hs2 := HB.out.size
  have hs3 : w'.heap.size + 1 ≤ w2.heap.size := by have : (w'.alloc _).heap.size ≤ w2.heap.size := hs2; simpa using this
  have hB2 : Below w'.heap.size w' w2 := ((Below.refl _ _).alloc (Nat.le_refl _) _).drew.trans (HB.out.mono (by show _ ≤ (w'.alloc _).heap.size; simp))
  refine bodyPost_ret (v := .iface 131 (.pointer (some ⟨p, 0, none⟩))) (by simp [results, go_sem]) rfl ⟨_, ⟨_, _, rfl⟩, Item_prints (Item_by txs Ts n w'.heap.size _ p (.int .i64 0) (.int .i64 0) (.int .i64 4) _ _ HP2.out (by omega) hp3 ((HQ.out.keep (fun b _ hb => HB4.out.block b hb)).wide (by show _ ≤ (w'.alloc _).heap.size; simp) HB4.out.size) hn0), rfl, hB2.trans (HB4.out.mono (by omega))⟩
end Go.Proofs.YtnocllocnoodnaaGreatDoor
