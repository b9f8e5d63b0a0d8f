/- Inlines and nodes of plain texts and of links of plain texts; 'put' at both. -/
import Derived.Test.YtbbgdcfbpgmjbaaGreatDoorWritten
import Derived.Deep.RegionHeld3
import Derived.Deep.QuietTactic
import Derived.BigQuiet
namespace Go.Proofs.YtbbgdcfbpgmjbaaGreatDoor
open Go.RowKit
/-- a plain text; a link of a plain text -/
inductive Item where
  | plain (t : ByteArray)
  | link (url text : ByteArray)
/-- the cells of a node of a link -/
def lnkCells (t : ByteArray) (kids : Value) : Array Value := #[.int .i64 27, .string t, .string ⟨#[]⟩, .int .i64 0, .string ⟨#[]⟩, .bool false, .slice none 0 0, kids, .int .i64 0, .int .i64 0, .string ⟨#[]⟩, .int .i64 0, .bool false, .bool false, .bool false, .slice none 0 0]
/-- the value is an inline of this kind, in blocks from lo to hi -/
def InlineIs (it : Item) (lo hi : Nat) (v : Value) (w : World) : Prop :=
  match it with
  | .plain t => ∃ p, lo ≤ p ∧ p < hi ∧ v = .iface 51 (.pointer (some ⟨p, 0, none⟩)) ∧ PlainIn t p w
  | .link u t => ∃ k g h, lo ≤ k ∧ k < hi ∧ lo ≤ g ∧ g < hi ∧ lo ≤ h ∧ h < hi ∧ v = .iface 69 (.pointer (some ⟨k, 0, none⟩)) ∧ LinkIn u t k g h w
/-- the cells are a node of this kind, its kids in blocks from lo to hi -/
def NodeIs (it : Item) (lo hi : Nat) (cs : Array Value) (w : World) : Prop :=
  match it with
  | .plain t => cs = nodeCells 20 t false
  | .link u t => ∃ kb cap, lo ≤ kb ∧ kb < hi ∧ cs = lnkCells u (.slice (some ⟨kb, 0, none⟩) 1 cap) ∧ RowAt 38 kb (nodeCells 20 t false).toList w
theorem PlainIn.of {t : ByteArray} {p : Nat} {w1 w2 : World} (h : PlainIn t p w1) (hb : w2.heap[p]? = w1.heap[p]?) : PlainIn t p w2 := by unfold PlainIn at *; rw [hb]; exact h
theorem RowAt.of {e : TypeId} {g : Nat} {xs : List Value} {w1 w2 : World} (h : RowAt e g xs w1) (hb : w2.heap[g]? = w1.heap[g]?) : RowAt e g xs w2 := by unfold RowAt at *; rw [hb]; exact h
theorem LinkIn.of {u t : ByteArray} {k g h : Nat} {w1 w2 : World} (x : LinkIn u t k g h w1) (h1 : w2.heap[k]? = w1.heap[k]?) (h2 : w2.heap[g]? = w1.heap[g]?) (h3 : w2.heap[h]? = w1.heap[h]?) : LinkIn u t k g h w2 :=
  ⟨by rw [h1]; exact x.link, x.kid.of h2, x.text.of h3⟩
theorem inline_sayable (items : Nat → Item) : Sayable (fun i => InlineIs (items i)) where
  keep := by
    intro i lo hi c w1 w2 h hb
    unfold InlineIs at *
    split at h
    · obtain ⟨p, h1, h2, h3, h4⟩ := h
      exact ⟨p, h1, h2, h3, h4.of (hb p h1 h2)⟩
    · obtain ⟨k, g, h, h1, h2, h3, h4, h5, h6, h7, h8⟩ := h
      exact ⟨k, g, h, h1, h2, h3, h4, h5, h6, h7, h8.of (hb k h1 h2) (hb g h3 h4) (hb h h5 h6)⟩
  wide := by
    intro i lo hi lo' hi' c w h hl hh
    unfold InlineIs at *
    split at h
    · obtain ⟨p, h1, h2, h3, h4⟩ := h
      exact ⟨p, by omega, by omega, h3, h4⟩
    · obtain ⟨k, g, h, h1, h2, h3, h4, h5, h6, h7, h8⟩ := h
      exact ⟨k, g, h, by omega, by omega, by omega, by omega, by omega, by omega, h7, h8⟩
theorem node_sayable (items : Nat → Item) : Sayable (fun i => NodeIs (items i)) where
  keep := by
    intro i lo hi c w1 w2 h hb
    unfold NodeIs at *
    split at h
    · exact h
    · obtain ⟨k, cap, h1, h2, h3, h4⟩ := h
      exact ⟨k, cap, h1, h2, h3, h4.of (hb k h1 h2)⟩
  wide := by
    intro i lo hi lo' hi' c w h hl hh
    unfold NodeIs at *
    split at h
    · exact h
    · obtain ⟨k, cap, h1, h2, h3, h4⟩ := h
      exact ⟨k, cap, by omega, by omega, h3, h4⟩
/-- the call makes an inline of this kind -/
def PutMade (it : Item) (w : World) (e : Ending) (w2 : World) : Prop := ∃ v, (∃ T x, v = .iface T x) ∧ InlineIs it w.heap.size w2.heap.size v w2 ∧ e = .returned v ∧ Below w.heap.size w w2
set_option maxHeartbeats 4000000 in
set_option maxRecDepth 100000 in
theorem impl_put_plain (t : ByteArray) (w : World) : Calls Tryz.prog 17 #[.agg (nodeCells 20 t false)] w (PutMade (.plain t) w) := by
  have H := Lib.hid (fun w => impl_written_nil w)
  unfold PutMade nodeCells
  go_enter Tryz.func17, Tryz.ntmps17
  go_wp2_with (go_at_call 11; refine (H.out _).mono ?_; rintro e w2 ⟨rfl, rfl⟩)
  exact bodyPost_ret (v := .iface 51 (.pointer (some ⟨w.heap.size + 1, 0, none⟩))) (by simp [results, go_sem]) rfl ⟨_, ⟨_, _, rfl⟩, ⟨w.heap.size + 1, by omega, by simp, rfl, by have := heap_alloc_new (w.alloc (.cells (nodeCells 20 t false) 38)) (.cells #[.string t] 54); unfold nodeCells at this; unfold PlainIn; simpa using this⟩, rfl, ((Below.refl _ _).alloc (Nat.le_refl _) _).alloc (by simp) _⟩
theorem impl_first_nil (w : World) : Calls Tryz.prog 25 #[.string ⟨#[]⟩] w fun e w' => e = .returned (.int .u8 0) ∧ w = w' := by
  go_enter Tryz.func25, Tryz.ntmps25
  go_wp2_with (fail)
  go_ret
  exact ⟨rfl, rfl⟩
theorem owns_row {w : World} {B : Nat} {e : TypeId} {sz n : Nat} {v : Value} {xs : List Value} (h : w.ownsRow B e sz v n xs) (hn : 0 < n) : ∃ g cap, v = .slice (some ⟨g, 0, none⟩) n cap ∧ B ≤ g ∧ g < w.heap.size ∧ RowAt e g xs w := by
  rcases h.2 with ⟨_, h0⟩ | ⟨g, cap, cur, hv, hb, hg, _, _, _, ht⟩
  · omega
  · exact ⟨g, cap, hv, hb, (Array.getElem?_eq_some_iff.1 hg).1, cur, hg, by rw [h.1]; exact ht⟩
/-- the kids of a link are put back -/
def KidPut (t : ByteArray) (w : World) (e : Ending) (w' : World) : Prop := ∃ g cap p, e = .returned (.slice (some ⟨g, 0, none⟩) 1 cap) ∧ w.heap.size ≤ g ∧ g < w'.heap.size ∧ w.heap.size ≤ p ∧ p < w'.heap.size ∧
  RowAt 34 g [.iface 51 (.pointer (some ⟨p, 0, none⟩))] w' ∧ PlainIn t p w' ∧ Below w.heap.size w w'
theorem impl_written_one (t : ByteArray) (kb cap : Nat) (w : World) (hrow : RowAt 38 kb (nodeCells 20 t false).toList w) :
    Calls Tryz.prog 11 #[.slice (some ⟨kb, 0, none⟩) 1 cap] w (KidPut t w) := by
  refine (impl_written (fun i => InlineIs ((fun _ => Item.plain t) i)) (inline_sayable _) [nodeCells 20 t false] kb cap w (by simpa using hrow) (by intro c hc; rw [List.mem_singleton.1 hc]; exact ⟨rfl, nodeCells_one _ _ _⟩) (by simp) ?_).mono ?_
  · intro i h w' hb
    have : i = 0 := by simpa using h
    subst this
    exact impl_put_plain t w'
  · rintro e w' ⟨vs, o, hl, rfl, ⟨hown, hq⟩, hb⟩
    match vs, hl with
    | [v], _ =>
      obtain ⟨g, cap', rfl, h1, h2, h3⟩ := owns_row hown (by simp)
      obtain ⟨lo, hi, h4, h5, ⟨p, h6, h7, h8, h9⟩, _⟩ := hq 0 (by simp)
      simp only [List.getElem_cons_zero] at h8
      subst h8
      exact ⟨g, cap', p, rfl, h1, h2, by omega, by omega, by simpa using h3, h9, hb⟩
set_option maxHeartbeats 4000000 in
set_option maxRecDepth 100000 in
theorem impl_put_link (u t : ByteArray) (kb cap : Nat) (w : World) (hrow : RowAt 38 kb (nodeCells 20 t false).toList w) :
    Calls Tryz.prog 17 #[.agg (lnkCells u (.slice (some ⟨kb, 0, none⟩) 1 cap))] w (PutMade (.link u t) w) := by
  have hrow1 : RowAt 38 kb (nodeCells 20 t false).toList (w.alloc (.cells (lnkCells u (.slice (some ⟨kb, 0, none⟩) 1 cap)) 38)) := hrow.of (heap_alloc_old w _ hrow.lt)
  have H := Lib.hid (impl_written_one t kb cap _ hrow1)
  have HF := Lib.hid (fun w => impl_first_nil w)
  clear hrow hrow1
  unfold PutMade
  unfold KidPut at H
  unfold lnkCells at *
  go_enter Tryz.func17, Tryz.ntmps17
  go_wp2_with (go_at_call 11; refine H.out.mono ?_; rintro e w2 ⟨g, cap2, p, rfl, hg1, hg2, hp1, hp2, hg3, hp3, hb2⟩; have hrow := row_kept hb2 (heap_alloc_new w _) (by simp); have hc0 := fun j => Lib.cell_of_heap hrow j; have d0 := hc0 0; have d1 := hc0 1; have d2 := hc0 2; have d7 := hc0 7; have d10 := hc0 10; have d14 := hc0 14; simp at d0 d1 d2 d7 d10 d14; have HG := Lib.hid hg3; have HP := Lib.hid hp3; have HROW := Lib.hid hrow; clear hc0 hg3 hp3 hrow)
  go_region_held3 (fun w' => w'.cell? ⟨w.heap.size, 1, none⟩ = some (.string u) ∧ w'.cell? ⟨w.heap.size, 2, none⟩ = some (.string ⟨#[]⟩) ∧ w'.cell? ⟨w.heap.size, 10, none⟩ = some (.string ⟨#[]⟩)) (first | exact ⟨d1, d2, d10⟩ | go_keep)
    (first | (go_at_call 25; refine (HF.out _).mono ?_; rintro e w3 ⟨rfl, rfl⟩))
  all_goals go_wp2
  generalize hLC : Obj.cells #[.slice (some ⟨g, 0, none⟩) 1 cap2, .string u, .string ⟨#[]⟩, .int .u8 0, .bool false] 71 = LC
  have hnew : (w2.alloc LC).drew.heap[w2.heap.size]? = some LC := heap_alloc_new w2 LC
  have hold : ∀ b, b < w2.heap.size → (w2.alloc LC).drew.heap[b]? = w2.heap[b]? := fun b hb => heap_alloc_old w2 LC hb
  have hle := hb2.size
  simp at hle hg1 hp1
  have hsz : (w2.alloc LC).drew.heap.size = w2.heap.size + 1 := by show (w2.alloc LC).heap.size = _; simp
  refine bodyPost_ret (v := .iface 69 (.pointer (some ⟨w2.heap.size, 0, none⟩))) (by simp [results, go_sem]) rfl ⟨_, ⟨_, _, rfl⟩, ⟨w2.heap.size, g, p, ?_, ?_, ?_, ?_, ?_, ?_, rfl, ⟨⟨cap2, .bool false, ?_⟩, ?_, ?_⟩⟩, rfl, ?_⟩
  all_goals try omega
  · rw [hLC]; exact hnew
  · exact HG.out.of (hold g hg2)
  · exact HP.out.of (hold p hp2)
  · refine Below.drew (Below.alloc (((Below.refl _ _).alloc (Nat.le_refl _) _).trans (hb2.mono (by simp))) (by omega) _)
end Go.Proofs.YtbbgdcfbpgmjbaaGreatDoor
