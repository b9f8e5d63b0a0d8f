/- The thin package's 'put' at the inlines that the builder makes: what the inline prints. -/
import Derived.Test.YtnocllocnoodnaaGreatDoorPrintThree
import Derived.Test.YtnocllocnoodnaaGreatDoorInlineRow
import Derived.Deep.RegionHeld3
import Derived.Deep.QuietTactic
import Derived.BigQuiet
namespace Go.Proofs.YtnocllocnoodnaaGreatDoor
open Go.RowKit
/-- the cells of an inline's node -/
def inlG (k : Int) (t : ByteArray) (ks : Value) (mk : ByteArray) : Array Value := #[.int .i64 k, .string t, .string ⟨#[]⟩, .int .i64 0, .string ⟨#[]⟩, .bool false, .slice none 0 0, ks, .int .i64 0, .int .i64 0, .string mk, .int .i64 0, .bool false, .bool false, .bool false, .slice none 0 0]
/-- the call makes an inline that prints this -/
def PutX (T : List UInt8) (w : World) (e : Ending) (w2 : World) : Prop := ∃ v, (∃ t x, v = .iface t x) ∧ Prints Any T w.heap.size w2.heap.size v w2 ∧ e = .returned v ∧ Below w.heap.size w w2
/-- of these cells 'put' makes an inline that prints the text: in any world that has the blocks from lo to hi as this one has them -/
def PutsTo (T : List UInt8) (lo hi : Nat) (cs : Array Value) (w : World) : Prop :=
  cs.size = 16 ∧ cs.all (·.oneCell') = true ∧ ∀ w', (∀ k, lo ≤ k → k < hi → w'.heap[k]? = w.heap[k]?) → hi ≤ w'.heap.size → Calls Tryz.prog 40 #[.agg cs] w' (PutX T w')
theorem PutsTo.keep {T : List UInt8} {lo hi : Nat} {cs : Array Value} {w1 w2 : World} (h : PutsTo T lo hi cs w1) (hb : ∀ b, lo ≤ b → b < hi → w2.heap[b]? = w1.heap[b]?) : PutsTo T lo hi cs w2 :=
  ⟨h.1, h.2.1, fun w' hag => h.2.2 w' (fun k h1 h2 => (hag k h1 h2).trans (hb k h1 h2))⟩
theorem PutsTo.wide {T : List UInt8} {lo hi lo' hi' : Nat} {cs : Array Value} {w : World} (h : PutsTo T lo hi cs w) (hl : lo' ≤ lo) (hh : hi ≤ hi') : PutsTo T lo' hi' cs w :=
  ⟨h.1, h.2.1, fun w' hag hw => h.2.2 w' (fun k h1 h2 => hag k (by omega) (by omega)) (by omega)⟩
theorem puts_sayable (Ts : Nat → List UInt8) : Sayable (fun i => PutsTo (Ts i)) where
  keep := fun _ _ _ _ _ _ h hb => h.keep hb
  wide := fun _ _ _ _ _ _ _ h hl hh => h.wide hl hh
/-- a slice of such nodes -/
def RowPuts (Ts : Nat → List UInt8) (n lo hi : Nat) (s : Value) (w : World) : Prop :=
  ∃ (kb c : Nat) (css : List (Array Value)), s = .slice (some ⟨kb, 0, none⟩) n c ∧ css.length = n ∧ 0 < n ∧ n ≤ 1000 ∧ lo ≤ kb ∧ kb < hi ∧ RowAt 33 kb (css.flatMap Array.toList) w ∧ ∀ i (h : i < css.length), PutsTo (Ts i) lo hi css[i] w
theorem RowPuts.keep {Ts : Nat → List UInt8} {n lo hi : Nat} {s : Value} {w1 w2 : World} (h : RowPuts Ts n lo hi s w1) (hb : ∀ b, lo ≤ b → b < hi → w2.heap[b]? = w1.heap[b]?) : RowPuts Ts n lo hi s w2 := by
  obtain ⟨kb, c, css, h1, h2, h3, h4, h5, h6, h7, h8⟩ := h
  exact ⟨kb, c, css, h1, h2, h3, h4, h5, h6, h7.of (hb kb h5 h6), fun i hi => (h8 i hi).keep hb⟩
theorem RowPuts.wide {Ts : Nat → List UInt8} {n lo hi lo' hi' : Nat} {s : Value} {w : World} (h : RowPuts Ts n lo hi s w) (hl : lo' ≤ lo) (hh : hi ≤ hi') : RowPuts Ts n lo' hi' s w := by
  obtain ⟨kb, c, css, h1, h2, h3, h4, h5, h6, h7, h8⟩ := h
  exact ⟨kb, c, css, h1, h2, h3, h4, by omega, by omega, h7, fun i hi => (h8 i hi).wide hl hh⟩
theorem RowPrints.wide {pre : List UInt8 → Prop} {e : TypeId} {Ts : Nat → List UInt8} {n lo hi lo' hi' : Nat} {s : Value} {w : World} (h : RowPrints pre e Ts n lo hi s w) (hl : lo' ≤ lo) (hh : hi ≤ hi') : RowPrints pre e Ts n lo' hi' s w := by
  obtain ⟨a, c, vs, h1, h2, h3, h4, h5, h6, h7⟩ := h
  exact ⟨a, c, vs, h1, h2, h3, by omega, by omega, h6, fun i hi => (h7 i hi).wide hl hh⟩
theorem owns_rowQ {w : World} {B : Nat} {e : TypeId} {sz n : Nat} {v : Value} {xs : List Value} (h : w.ownsRow B e sz v n xs) (hn : 0 < n) : ∃ g cap, v = .slice (some ⟨g, 0, none⟩) n cap ∧ B ≤ g ∧ g < w.heap.size ∧ RowAt e g xs w := by
  rcases h.2 with ⟨_, h0⟩ | ⟨g, cap, cur, hv, hb, hg, _, _, _, ht⟩
  · omega
  · exact ⟨g, cap, hv, hb, (Array.getElem?_eq_some_iff.1 hg).1, cur, hg, by rw [h.1]; exact ht⟩
theorem flat_one (vs : List Value) : vs.flatMap (fun v => [v]) = vs := by
  induction vs with
  | nil => rfl
  | cons v r ih => simp [List.flatMap_cons, ih]
/-- the call gives a slice of what prints this -/
def WroteRow (Ts : Nat → List UInt8) (n : Nat) (w : World) (e : Ending) (w' : World) : Prop := ∃ o, e = .returned o ∧ RowPrints Any 135 Ts n w.heap.size w'.heap.size o w' ∧ Below w.heap.size w w'
theorem made_row {pre : List UInt8 → Prop} {e : TypeId} {Ts : Nat → List UInt8} {B : Nat} {vs : List Value} {o : Value} {w : World} (h : Made (fun i => Prints pre (Ts i)) (fun v => [v]) e 1 B vs o w) (h0 : 0 < vs.length) (hn : vs.length ≤ 1000) : RowPrints pre e Ts vs.length B w.heap.size o w := by
  obtain ⟨hown, hq⟩ := h
  obtain ⟨g, cap, rfl, h1, h2, h3⟩ := owns_rowQ hown h0
  rw [flat_one] at h3
  refine ⟨g, cap, vs, rfl, rfl, hn, h1, h2, h3, ?_⟩
  intro i hi
  obtain ⟨lo, hi', h4, h5, h6, _⟩ := hq i hi
  exact h6.wide h4 h5
theorem written_row (Ts : Nat → List UInt8) (n lo hi : Nat) (s : Value) (w : World) (hr : RowPuts Ts n lo hi s w) (hw : hi ≤ w.heap.size) : Calls Tryz.prog 33 #[s] w (WroteRow Ts n w) := by
  obtain ⟨kb, c, css, rfl, rfl, h0, hn, _, _, hrow, hp⟩ := hr
  refine (impl_written (fun i => Prints Any (Ts i)) (prints_sayable _ _) css kb c w hrow ?_ hn ?_).mono ?_
  · intro c hc
    obtain ⟨i, hi, rfl⟩ := List.getElem_of_mem hc
    exact ⟨(hp i hi).1, (hp i hi).2.1⟩
  · intro i hi w' hb
    exact (hp i hi).2.2 w' (fun k _ hk => hb.block k (by omega)) (Nat.le_trans hw hb.size)
  · rintro e w' ⟨vs, o, hl, rfl, hm, hb⟩
    have := made_row hm (by omega) (by omega)
    rw [hl] at this
    exact ⟨o, rfl, this, hb⟩
set_option maxHeartbeats 4000000 in
set_option maxRecDepth 100000 in
theorem put_plain (t : ByteArray) (lo hi : Nat) (w : World) (ht : t.size ≤ 1000) : PutsTo (escP htmlK htmlE t.data.toList) lo hi (inlG 20 t (.slice none 0 0) ⟨#[]⟩) w := by
  refine ⟨rfl, by simp [inlG, Value.oneCell'], ?_⟩
  intro w' _ _
  have H := Lib.hid (fun w => impl_written_nil w)
  unfold PutX
  unfold inlG
  go_enter Tryz.func40, Tryz.ntmps40
  go_wp2_with (go_at_call 33; refine (H.out _).mono ?_; rintro e w2 ⟨rfl, rfl⟩)
  go_ret
  refine ⟨_, ⟨_, _, rfl⟩, Plain_prints (Plain_by t (w'.heap.size + 1) w'.heap.size _ _ ?_ (by omega) (by simp) ht), rfl, ((Below.refl _ _).alloc (Nat.le_refl _) _).alloc (by simp) _⟩
  have := heap_alloc_new (w'.alloc (.cells (inlG 20 t (.slice none 0 0) ⟨#[]⟩) 33)) (.cells #[.string t] 168)
  unfold inlG at this
  unfold PlainIn
  simpa using this
set_option maxHeartbeats 4000000 in
set_option maxRecDepth 100000 in
theorem put_soft (lo hi : Nat) (w : World) : PutsTo [10] lo hi (inlG 21 ⟨#[]⟩ (.slice none 0 0) ⟨#[]⟩) w := by
  refine ⟨rfl, by simp [inlG, Value.oneCell'], ?_⟩
  intro w' _ _
  have H := Lib.hid (fun w => impl_written_nil w)
  unfold PutX
  unfold inlG
  go_enter Tryz.func40, Tryz.ntmps40
  go_wp2_with (go_at_call 33; refine (H.out _).mono ?_; rintro e w2 ⟨rfl, rfl⟩)
  go_ret
  exact ⟨_, ⟨_, _, rfl⟩, SoftBreak_prints (SoftBreak_by _ _ _ _), rfl, ((Below.refl _ _).alloc (Nat.le_refl _) _).alloc (by simp) _⟩
set_option maxHeartbeats 4000000 in
set_option maxRecDepth 100000 in
theorem put_span (t : ByteArray) (lo hi : Nat) (w : World) (ht : t.size ≤ 1000) : PutsTo (codeH t) lo hi (inlG 23 t (.slice none 0 0) ⟨#[]⟩) w := by
  refine ⟨rfl, by simp [inlG, Value.oneCell'], ?_⟩
  intro w' _ _
  have H := Lib.hid (fun w => impl_written_nil w)
  unfold PutX
  unfold inlG
  go_enter Tryz.func40, Tryz.ntmps40
  go_wp2_with (go_at_call 33; refine (H.out _).mono ?_; rintro e w2 ⟨rfl, rfl⟩)
  go_ret
  refine ⟨_, ⟨_, _, rfl⟩, Code_prints (Code_by t (w'.heap.size + 1) w'.heap.size _ _ ?_ (by omega) (by simp) ht), rfl, ((Below.refl _ _).alloc (Nat.le_refl _) _).alloc (by simp) _⟩
  have := heap_alloc_new (w'.alloc (.cells (inlG 23 t (.slice none 0 0) ⟨#[]⟩) 33)) (.cells #[.string t] 146)
  unfold inlG at this
  simpa using this
set_option maxHeartbeats 4000000 in
set_option maxRecDepth 100000 in
theorem put_emph (Ts : Nat → List UInt8) (n lo hi : Nat) (mk : ByteArray) (ks : Value) (w : World) (hr : RowPuts Ts n lo hi ks w) : PutsTo ([60, 101, 109, 62] ++ (sumT Ts n ++ [60, 47, 101, 109, 62])) lo hi (inlG 24 ⟨#[]⟩ ks mk) w := by
  obtain ⟨kb, c, css, rfl, h1, h2, h3, h4, h5, h6, h7⟩ := hr
  refine ⟨rfl, by simp [inlG, Value.oneCell'], ?_⟩
  intro w' hag hhw
  have H := Lib.hid (written_row Ts n lo hi (.slice (some ⟨kb, 0, none⟩) n c) (w'.alloc (.cells (inlG 24 ⟨#[]⟩ (.slice (some ⟨kb, 0, none⟩) n c) mk) 33)) (RowPuts.keep ⟨kb, c, css, rfl, h1, h2, h3, h4, h5, h6, h7⟩ (fun b hb1 hb2 => (heap_alloc_old w' _ (by omega)).trans (hag b hb1 hb2))) (by simp; omega))
  clear h1 h2 h3 h4 h5 h6 h7 hag
  unfold WroteRow at H
  unfold PutX
  unfold inlG at *
  go_enter Tryz.func40, Tryz.ntmps40
  go_wp2_with (go_at_call 33; refine H.out.mono ?_; rintro e w2 ⟨o, rfl, hrp, hb2⟩; have hrow := row_kept hb2 (heap_alloc_new w' _) (by simp); have hc0 := fun j => Lib.cell_of_heap hrow j; have d0 := hc0 0; have d10 := hc0 10; simp at d0 d10; have HP := Lib.hid hrp; obtain ⟨oa, oc, ovs, rfl, _⟩ := hrp; have hs2 := hb2.size; simp at hs2; have HB := Lib.hid hb2; have HROW := Lib.hid hrow; clear hc0 hrow hb2)
  go_ret
  have hx := HP.out
  refine ⟨_, ⟨_, _, rfl⟩, Emph_prints (md_Emph_by Ts n w'.heap.size _ w2.heap.size (.string mk) _ _ (heap_alloc_new w2 _) (by omega) (by simp) ((hx.keep (fun b _ hb => heap_alloc_old w2 _ hb)).wide (by simp) (by simp))), rfl, ?_⟩
  exact (((Below.refl _ _).alloc (Nat.le_refl _) _).trans (HB.out.mono (by simp))).alloc (by omega) _
set_option maxHeartbeats 4000000 in
set_option maxRecDepth 100000 in
theorem put_strong (Ts : Nat → List UInt8) (n lo hi : Nat) (mk : ByteArray) (ks : Value) (w : World) (hr : RowPuts Ts n lo hi ks w) : PutsTo ([60, 115, 116, 114, 111, 110, 103, 62] ++ (sumT Ts n ++ [60, 47, 115, 116, 114, 111, 110, 103, 62])) lo hi (inlG 25 ⟨#[]⟩ ks mk) w := by
  obtain ⟨kb, c, css, rfl, h1, h2, h3, h4, h5, h6, h7⟩ := hr
  refine ⟨rfl, by simp [inlG, Value.oneCell'], ?_⟩
  intro w' hag hhw
  have H := Lib.hid (written_row Ts n lo hi (.slice (some ⟨kb, 0, none⟩) n c) (w'.alloc (.cells (inlG 25 ⟨#[]⟩ (.slice (some ⟨kb, 0, none⟩) n c) mk) 33)) (RowPuts.keep ⟨kb, c, css, rfl, h1, h2, h3, h4, h5, h6, h7⟩ (fun b hb1 hb2 => (heap_alloc_old w' _ (by omega)).trans (hag b hb1 hb2))) (by simp; omega))
  clear h1 h2 h3 h4 h5 h6 h7 hag
  unfold WroteRow at H
  unfold PutX
  unfold inlG at *
  go_enter Tryz.func40, Tryz.ntmps40
  go_wp2_with (go_at_call 33; refine H.out.mono ?_; rintro e w2 ⟨o, rfl, hrp, hb2⟩; have hrow := row_kept hb2 (heap_alloc_new w' _) (by simp); have hc0 := fun j => Lib.cell_of_heap hrow j; have d0 := hc0 0; have d10 := hc0 10; simp at d0 d10; have HP := Lib.hid hrp; obtain ⟨oa, oc, ovs, rfl, _⟩ := hrp; have hs2 := hb2.size; simp at hs2; have HB := Lib.hid hb2; have HROW := Lib.hid hrow; clear hc0 hrow hb2)
  go_ret
  have hx := HP.out
  refine ⟨_, ⟨_, _, rfl⟩, Strong_prints (md_Strong_by Ts n w'.heap.size _ w2.heap.size (.string mk) _ _ (heap_alloc_new w2 _) (by omega) (by simp) ((hx.keep (fun b _ hb => heap_alloc_old w2 _ hb)).wide (by simp) (by simp))), rfl, ?_⟩
  exact (((Below.refl _ _).alloc (Nat.le_refl _) _).trans (HB.out.mono (by simp))).alloc (by omega) _
end Go.Proofs.YtnocllocnoodnaaGreatDoor
namespace Go.Proofs.YtnocllocnoodnaaGreatDoor
open Go.RowKit
theorem impl_first_nil (w : World) : Calls Tryz.prog 30 #[.string ⟨#[]⟩] w fun e w' => e = .returned (.int .u8 0) ∧ w = w' := by
  go_enter Tryz.func30, Tryz.ntmps30
  go_wp2_with (fail)
  go_ret
  exact ⟨rfl, rfl⟩
set_option maxHeartbeats 4000000 in
set_option maxRecDepth 100000 in
theorem put_link (u : ByteArray) (Ts : Nat → List UInt8) (n lo hi : Nat) (ks : Value) (w : World) (hr : RowPuts Ts n lo hi ks w) (hu : u.size ≤ 1000) : PutsTo (aH u (sumT Ts n)) lo hi (inlG 27 u ks ⟨#[]⟩) w := by
  obtain ⟨kb, c, css, rfl, h1, h2, h3, h4, h5, h6, h7⟩ := hr
  refine ⟨rfl, by simp [inlG, Value.oneCell'], ?_⟩
  intro w' hag hhw
  have H := Lib.hid (written_row Ts n lo hi (.slice (some ⟨kb, 0, none⟩) n c) (w'.alloc (.cells (inlG 27 u (.slice (some ⟨kb, 0, none⟩) n c) ⟨#[]⟩) 33)) (RowPuts.keep ⟨kb, c, css, rfl, h1, h2, h3, h4, h5, h6, h7⟩ (fun b hb1 hb2 => (heap_alloc_old w' _ (by omega)).trans (hag b hb1 hb2))) (by simp; omega))
  have HF := Lib.hid (fun w => impl_first_nil w)
  clear h1 h2 h3 h4 h5 h6 h7 hag
  unfold WroteRow at H
  unfold PutX
  unfold inlG at *
  go_enter Tryz.func40, Tryz.ntmps40
  go_wp2_with (go_at_call 33; refine H.out.mono ?_; rintro e w2 ⟨o, rfl, hrp, hb2⟩; have hrow := row_kept hb2 (heap_alloc_new w' _) (by simp); have hc0 := fun j => Lib.cell_of_heap hrow j; have d0 := hc0 0; have d1 := hc0 1; have d2 := hc0 2; have d7 := hc0 7; have d10 := hc0 10; have d14 := hc0 14; simp at d0 d1 d2 d7 d10 d14; have HP := Lib.hid hrp; obtain ⟨oa, oc, ovs, rfl, _⟩ := hrp; have hs2 := hb2.size; simp at hs2; have HB := Lib.hid hb2; have HROW := Lib.hid hrow; clear hc0 hrow hb2)
  go_region_held3 (fun w3 => w3.cell? ⟨w'.heap.size, 1, none⟩ = some (.string u) ∧ w3.cell? ⟨w'.heap.size, 2, none⟩ = some (.string ⟨#[]⟩) ∧ w3.cell? ⟨w'.heap.size, 10, none⟩ = some (.string ⟨#[]⟩)) (first | exact ⟨d1, d2, d10⟩ | go_keep)
    (first | (go_at_call 30; refine (HF.out _).mono ?_; rintro e w3 ⟨rfl, rfl⟩))
  all_goals go_wp2
  have hx := HP.out
  generalize hLC : Obj.cells #[.slice (some ⟨oa, 0, none⟩) n oc, .string u, .string ⟨#[]⟩, .int .u8 0, .bool false] 112 = LC
  have hnew : (w2.alloc LC).drew.heap[w2.heap.size]? = some LC := heap_alloc_new w2 LC
  have hold : ∀ b, b < w2.heap.size → (w2.alloc LC).drew.heap[b]? = w2.heap[b]? := fun b hb => heap_alloc_old w2 LC hb
  have hsz : (w2.alloc LC).drew.heap.size = w2.heap.size + 1 := by show (w2.alloc LC).heap.size = _; simp
  refine bodyPost_ret (v := .iface 108 (.pointer (some ⟨w2.heap.size, 0, none⟩))) (by simp [results, go_sem]) rfl ⟨_, ⟨_, _, rfl⟩, Link_prints (Link_by u Ts n w'.heap.size _ w2.heap.size (.slice (some ⟨oa, 0, none⟩) n oc) (.int .u8 0) (.bool false) _ ?_ (by omega) ?_ ?_ hu), rfl, ?_⟩
  · rw [hLC]; exact hnew
  · rw [hsz]; omega
  · exact (hx.keep (fun b _ hb => hold b hb)).wide (by simp) (by rw [hsz]; omega)
  · exact Below.drew ((((Below.refl _ _).alloc (Nat.le_refl _) _).trans (HB.out.mono (by simp))).alloc (by omega) _)
end Go.Proofs.YtnocllocnoodnaaGreatDoor
