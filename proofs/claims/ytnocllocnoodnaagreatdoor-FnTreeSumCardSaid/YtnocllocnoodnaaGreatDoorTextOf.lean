/- The thin package's 'text', and 'built' at headings and paragraphs. -/
import Derived.Test.YtnocllocnoodnaaGreatDoorPutsBoth
import Derived.Test.YtnocllocnoodnaaGreatDoorPrintItem
namespace Go.Proofs.YtnocllocnoodnaaGreatDoor
open Go.RowKit
/-- the cells of a block's node -/
def blkG (k : Int) (t ti : ByteArray) (nu : Int) (ch : ByteArray) (lo : Bool) (ks : Value) (mk : ByteArray) (wd : Int) (tg : Bool) : Array Value := #[.int .i64 k, .string t, .string ti, .int .i64 nu, .string ch, .bool lo, .slice none 0 0, ks, .int .i64 0, .int .i64 0, .string mk, .int .i64 wd, .bool tg, .bool false, .bool false, .slice none 0 0]
/-- the call makes a *Text that prints this -/
def TextMade (T : List UInt8) (w : World) (e : Ending) (w2 : World) : Prop := ∃ q : Nat, e = .returned (.pointer (some ⟨q, 0, none⟩)) ∧ PrintsBy Any 95 ⟨q, 0, none⟩ T w.heap.size w2.heap.size w2 ∧ Below w.heap.size w w2
set_option maxHeartbeats 4000000 in
set_option maxRecDepth 100000 in
theorem impl_text (k : Int) (t ti : ByteArray) (nu : Int) (ch : ByteArray) (lb : Bool) (mk : ByteArray) (wd : Int) (tg : Bool) (Ts : Nat → List UInt8) (n lo hi : Nat) (ks : Value) (w' : World) (hr : RowPuts Ts n lo hi ks w') (hw : hi ≤ w'.heap.size) :
    Calls Tryz.prog 19 #[.agg (blkG k t ti nu ch lb ks mk wd tg)] w' (TextMade (sumT Ts n) w') := by
  generalize hO : Obj.cells (blkG k t ti nu ch lb ks mk wd tg) 33 = O
  have H := Lib.hid (written_row Ts n lo hi ks (w'.alloc O).drew (hr.keep (fun b hb1 hb2 => heap_alloc_old w' _ (by omega))) (by show _ ≤ (w'.alloc O).heap.size; simp; omega))
  obtain ⟨kb, c, css, rfl, _⟩ := hr
  have hc0 := fun j => Lib.cell_of_heap (w := w'.alloc O) ((heap_alloc_new w' O).trans (congrArg some hO.symm)) j
  have d7 := hc0 7; have d8 := hc0 8; have d9 := hc0 9
  simp [blkG] at d7 d8 d9
  have b7 : (w'.alloc O).drew.cell? ⟨w'.heap.size, 7, none⟩ = _ := d7
  have b8 : (w'.alloc O).drew.cell? ⟨w'.heap.size, 8, none⟩ = _ := d8
  have b9 : (w'.alloc O).drew.cell? ⟨w'.heap.size, 9, none⟩ = _ := d9
  clear hc0
  subst hO
  unfold WroteRow at H
  unfold TextMade
  unfold blkG at *
  go_enter Tryz.func19, Tryz.ntmps19
  go_wp2_with (fail)
  go_region_held3 (fun w3 => w3.cell? ⟨w'.heap.size, 7, none⟩ = some (.slice (some ⟨kb, 0, none⟩) n c) ∧ w3.cell? ⟨w'.heap.size, 8, none⟩ = some (.int .i64 0) ∧ w3.cell? ⟨w'.heap.size, 9, none⟩ = some (.int .i64 0)) (first | with_reducible exact ⟨d7, d8, d9⟩ | with_reducible exact ⟨b7, b8, b9⟩ | with_reducible exact ⟨f7, f8, f9⟩ | go_keep)
    (first | (go_at_call 33; refine H.out.mono ?_; rintro e w2 ⟨o, rfl, hrp, hb2⟩; have hlt : w'.heap.size < (w'.alloc (Obj.cells #[.int .i64 k, .string t, .string ti, .int .i64 nu, .string ch, .bool lb, .slice none 0 0, .slice (some ⟨kb, 0, none⟩) n c, .int .i64 0, .int .i64 0, .string mk, .int .i64 wd, .bool tg, .bool false, .bool false, .slice none 0 0] 33)).drew.heap.size := (by show _ < (w'.alloc _).heap.size; simp); have f7 := (hb2.cell (p := ⟨w'.heap.size, 7, none⟩) hlt).trans d7; have f8 := (hb2.cell (p := ⟨w'.heap.size, 8, none⟩) hlt).trans d8; have f9 := (hb2.cell (p := ⟨w'.heap.size, 9, none⟩) hlt).trans d9; have HP := Lib.hid hrp; obtain ⟨oa, oc, ovs, rfl, _⟩ := hrp; have hs2 := hb2.size; have HB := Lib.hid hb2; clear hb2))
  all_goals go_wp2
  have hs3 : w'.heap.size + 1 ≤ w2.heap.size := by have : (w'.alloc _).heap.size ≤ w2.heap.size := hs2; simpa using this
  have hB2 : Below w'.heap.size w' w2 := (((Below.refl _ w').alloc (Nat.le_refl _) _).drew).trans (HB.out.mono (by show _ ≤ (w'.alloc _).heap.size; simp))
  refine bodyPost_ret (v := .pointer (some ⟨w2.heap.size, 0, none⟩)) (by simp [results, go_sem]) rfl ⟨w2.heap.size, rfl, md_Text_by Ts n w'.heap.size _ w2.heap.size (.int .i64 0) (.int .i64 0) (.string ⟨#[]⟩) _ _ (heap_alloc_new w2 _) (by omega) (by simp) ((HP.out.keep (fun b _ hb => heap_alloc_old w2 _ hb)).wide (by show _ ≤ (w'.alloc _).heap.size; simp) (by simp)), hB2.alloc (by omega) _⟩
end Go.Proofs.YtnocllocnoodnaaGreatDoor
