/- 'built' at lists: the items are put, one by one, into a field. -/
import Derived.Test.YtnocllocnoodnaaGreatDoorDoc
import Derived.Test.YtnocllocnoodnaaGreatDoorGivesAll
namespace Go.Proofs.YtnocllocnoodnaaGreatDoor
open Go.RowKit
set_option linter.unusedSimpArgs false
/-- of these cells 'item' makes an item that prints this -/
def ItemsTo (T : List UInt8) (lo hi : Nat) (cs : Array Value) (w : World) : Prop :=
  cs.size = 16 ∧ cs.all (·.oneCell') = true ∧ ∀ w', (∀ k, lo ≤ k → k < hi → w'.heap[k]? = w.heap[k]?) → hi ≤ w'.heap.size → Calls Tryz.prog 18 #[.agg cs] w' (ItemX T w')
theorem items_sayable (Ts : Nat → List UInt8) : Sayable (fun i => ItemsTo (Ts i)) where
  keep := fun _ _ _ _ _ _ h hb => ⟨h.1, h.2.1, fun w' hag => h.2.2 w' (fun k h1 h2 => (hag k h1 h2).trans (hb k h1 h2))⟩
  wide := fun _ _ _ _ _ _ _ h hl hh => ⟨h.1, h.2.1, fun w' hag hw => h.2.2 w' (fun k h1 h2 => hag k (by omega) (by omega)) (by omega)⟩
theorem items_of (txs : Nat → Bool) (Ts : Nat → List UInt8) (n lo hi : Nat) (ks : Value) (w : World) (hr : RowBuilds txs Ts n lo hi ks w) : ItemsTo (itemH txs Ts n) lo hi (blkG 4 ⟨#[]⟩ ⟨#[]⟩ 0 ⟨#[]⟩ false ks ⟨#[]⟩ 4 false) w := by
  have hks : ∃ a n c, ks = .slice (some ⟨a, 0, none⟩) n c := by obtain ⟨kb, c, css, rfl, _⟩ := hr; exact ⟨_, _, _, rfl⟩
  obtain ⟨ka, kn, kc, rfl⟩ := hks
  exact ⟨rfl, blkG_one _ _ _ _ _ _ _ _ _ _ _ _, fun w' hag hw => impl_item txs Ts n lo hi _ w' (hr.keep hag) hw⟩
theorem decode_one (c : UInt8) (hc : c.toNat < 128) (w : World) : Calls Tryz.prog 17 #[.string ⟨#[c]⟩] w fun e w' => e = .returned (.tuple #[.int .i32 c.toNat, .int .i64 1]) ∧ w' = w := by
  have h0 : (⟨#[c]⟩ : ByteArray).size = 1 := rfl
  have h1 : (⟨#[c]⟩ : ByteArray)[0]'(Nat.zero_lt_one) = c := rfl
  have hcc : ((c.toNat : Int) < 128) := by omega
  go_enter Tryz.func17, Tryz.ntmps17
  go_wp2_with (fail)
  exact bodyPost_ret (v := .tuple #[.int .i32 c.toNat, .int .i64 1]) (by simp [results, go_sem]) rfl ⟨rfl, rfl⟩
/-- the three blocks that 'built' makes for itself -/
def BlocksL (b : Nat) (c1 c2 c3 : Array Value) (w : World) : Prop := w.heap[b]? = some (.cells c1 33) ∧ w.heap[b + 1]? = some (.cells c2 58) ∧ w.heap[b + 2]? = some (.cells c3 71) ∧ b + 3 ≤ w.heap.size
theorem blocks_l (w : World) (c1 c2 c3 : Array Value) : BlocksL w.heap.size c1 c2 c3 (((w.alloc (.cells c1 33)).alloc (.cells c2 58)).alloc (.cells c3 71)) := by
  obtain ⟨h1, h2⟩ := two_allocs w (.cells c1 33) (.cells c2 58)
  refine ⟨(heap_alloc_old _ _ (by simp; omega)).trans h1, (heap_alloc_old _ _ (by simp)).trans h2, ?_, by simp⟩
  have := heap_alloc_new ((w.alloc (.cells c1 33)).alloc (.cells c2 58)) (.cells c3 71)
  simpa using this
theorem keepL {b n sz : Nat} {e : TypeId} {c1 c2 c3 : Array Value} {w wa w2 w3 : World} {o : Value} {xs : List Value} {ob : Obj} (h : BlocksL b c1 c2 c3 w) (ho : w.ownsRow (b + 3) e sz o n xs) (ha : Below w.heap.size w wa) (h2 : Below wa.heap.size wa w2) (hg : (w2.alloc ob).grownBy w3 o.ownBlock) : BlocksL b c1 c2 c3 w3 := by
  have k : ∀ j, j < b + 3 → w3.heap[j]? = w.heap[j]? := by
    intro j hj
    have h4 := h.2.2.2
    have s1 := ha.size
    have s2 := h2.size
    rw [hg.block j (by simp; omega) (by intro hh; have := (ho.lt j hh.symm).1; omega), heap_alloc_old w2 _ (by omega), h2.block j (by omega), ha.block j (by omega)]
  have s1 := ha.size
  have s2 := h2.size
  have s3 := hg.size
  have h4 := h.2.2.2
  simp at s3
  exact ⟨(k b (by omega)).trans h.1, (k (b + 1) (by omega)).trans h.2.1, (k (b + 2) (by omega)).trans h.2.2.1, by omega⟩
/-- what a round reads -/
def ReadsL (b c : Nat) (o : Value) (xs : List Value) (w : World) : Prop := w.cell? ⟨b + 1 + 1, 5, none⟩ = some o ∧ w.rangeAt c 0 xs
theorem ReadsL.keep {b c : Nat} {o : Value} {xs : List Value} {w w' : World} (h : ReadsL b c o xs w) (h2 : w'.heap[b + 1 + 1]? = w.heap[b + 1 + 1]?) (h3 : w'.heap[c]? = w.heap[c]?) : ReadsL b c o xs w' :=
  ⟨(World.cell?_of_block h2).trans h.1, fun j v hv => (World.cell?_of_block h3).trans (h.2 j v hv)⟩
/-- the list's block is made of these items -/
def ListMade (Q : Nat → Nat → Nat → Value → World → Prop) (F : Value → Array Value) (n : Nat) (w : World) (e : Ending) (w' : World) : Prop :=
  ∃ vs o, vs.length = n ∧ e = .returned (.iface 69 (.pointer (some ⟨w.heap.size + 2, 0, none⟩))) ∧ w'.heap[w.heap.size + 2]? = some (.cells (F o) 71 (0, 0)) ∧ w.heap.size + 3 ≤ w'.heap.size ∧ Made Q (fun v => [v]) 45 1 (w.heap.size + 3) vs o w' ∧ Below w.heap.size w w'

set_option maxHeartbeats 2000000 in
set_option maxRecDepth 100000 in
theorem built_bullets (Q : Nat → Nat → Nat → Value → World → Prop) (hS : Sayable Q) (ti : ByteArray) (ch : UInt8) (lb : Bool) (css : List (Array Value)) (a c : Nat) (w : World) (hch : ch.toNat < 128) (hrow : RowAt 33 a (css.flatMap Array.toList) w) (hsz : ∀ c ∈ css, c.size = 16 ∧ c.all (·.oneCell') = true) (hn : css.length ≤ 1000)
    (H : ∀ i (h : i < css.length) w', Below w.heap.size w w' → Calls Tryz.prog 18 #[.agg css[i]] w' fun e w2 => ∃ v, (∃ T x, v = .iface T x) ∧ Q i w'.heap.size w2.heap.size v w2 ∧ e = .returned v ∧ Below w'.heap.size w' w2) :
    Calls Tryz.prog 11 #[.agg #[.int .i64 3, .string ⟨#[]⟩, .string ti, .int .i64 (-1), .string ⟨#[ch]⟩, .bool lb, .slice none 0 0, .slice (some ⟨a, 0, none⟩) css.length c, .int .i64 0, .int .i64 0, .string ⟨#[]⟩, .int .i64 0, .bool false, .bool false, .bool false, .slice none 0 0]] w (ListMade Q (fun o => #[.int .i64 0, .int .i64 0, .int .i32 (ch.toNat : Int), .int .i64 0, .bool lb, o]) css.length w) := by
  obtain ⟨i0, hi, hz0, hz1, hz2⟩ := info_parts block_info
  obtain ⟨j0, hi', hz0', hz1', hz2'⟩ := info_parts node_info
  have hi16 : (Tryz.prog.info? 33).map (·.size) = some 16 := by rw [hi']; simp [hz1']
  have HI := Lib.hid hi16
  clear hi' hz0' hz1' hz2' hi16
  have H := Lib.hid H
  have HD := Lib.hid (fun w => decode_one ch hch w)
  have HSZ := Lib.hid hsz
  have HR : Hid (∀ wx, Below w.heap.size w wx → ∀ k (h : k < css.length), wx.rangeAt a (k * 16) css[k].toList) := Lib.hid (fun wx hb k h => row_range (hrow.below hrow.lt hb) (fun c hc => (hsz c hc).1) h)
  have HM0 : Hid (Made Q (fun v => [v]) 45 1 (w.heap.size + 3) [] (.slice none 0 0) (((w.alloc (.cells #[.int .i64 3, .string ⟨#[]⟩, .string ti, .int .i64 (-1), .string ⟨#[ch]⟩, .bool lb, .slice none 0 0, .slice (some ⟨a, 0, none⟩) css.length c, .int .i64 0, .int .i64 0, .string ⟨#[]⟩, .int .i64 0, .bool false, .bool false, .bool false, .slice none 0 0] 33)).alloc (.cells #[.int .i64 0, .int .i64 0] 58)).alloc (.cells #[.int .i64 0, .int .i64 0, .int .i32 (ch.toNat : Int), .int .i64 0, .bool lb, .slice none 0 0] 71))) := Lib.hid (Made.nil _ _ _ _ _ _)
  have HB0 : Hid (Below w.heap.size w (((w.alloc (.cells #[.int .i64 3, .string ⟨#[]⟩, .string ti, .int .i64 (-1), .string ⟨#[ch]⟩, .bool lb, .slice none 0 0, .slice (some ⟨a, 0, none⟩) css.length c, .int .i64 0, .int .i64 0, .string ⟨#[]⟩, .int .i64 0, .bool false, .bool false, .bool false, .slice none 0 0] 33)).alloc (.cells #[.int .i64 0, .int .i64 0] 58)).alloc (.cells #[.int .i64 0, .int .i64 0, .int .i32 (ch.toNat : Int), .int .i64 0, .bool lb, .slice none 0 0] 71))) := Lib.hid ((((Below.refl _ _).alloc (Nat.le_refl _) _).alloc (by simp) _).alloc (by simp; omega) _)
  have HH0 : Hid (BlocksL w.heap.size #[.int .i64 3, .string ⟨#[]⟩, .string ti, .int .i64 (-1), .string ⟨#[ch]⟩, .bool lb, .slice none 0 0, .slice (some ⟨a, 0, none⟩) css.length c, .int .i64 0, .int .i64 0, .string ⟨#[]⟩, .int .i64 0, .bool false, .bool false, .bool false, .slice none 0 0] #[.int .i64 0, .int .i64 0] #[.int .i64 0, .int .i64 0, .int .i32 (ch.toNat : Int), .int .i64 0, .bool lb, .slice none 0 0] (((w.alloc (.cells #[.int .i64 3, .string ⟨#[]⟩, .string ti, .int .i64 (-1), .string ⟨#[ch]⟩, .bool lb, .slice none 0 0, .slice (some ⟨a, 0, none⟩) css.length c, .int .i64 0, .int .i64 0, .string ⟨#[]⟩, .int .i64 0, .bool false, .bool false, .bool false, .slice none 0 0] 33)).alloc (.cells #[.int .i64 0, .int .i64 0] 58)).alloc (.cells #[.int .i64 0, .int .i64 0, .int .i32 (ch.toNat : Int), .int .i64 0, .bool lb, .slice none 0 0] 71))) := Lib.hid (blocks_l _ _ _ _)
  clear hrow hsz
  unfold ListMade
  go_enter Tryz.func11, Tryz.ntmps11
  go_wp2_with (go_at_call 17; refine (HD.out _).mono ?_; rintro e w2 ⟨rfl, rfl⟩)
  go_loopg [62] css.length (fun gg j wx => ∃ k vs o, k + gg = css.length ∧ j = .int .i64 k ∧ vs.length = k ∧ Hid (BlocksL w.heap.size #[.int .i64 3, .string ⟨#[]⟩, .string ti, .int .i64 (-1), .string ⟨#[ch]⟩, .bool lb, .slice none 0 0, .slice (some ⟨a, 0, none⟩) css.length c, .int .i64 0, .int .i64 0, .string ⟨#[]⟩, .int .i64 0, .bool false, .bool false, .bool false, .slice none 0 0] #[.int .i64 0, .int .i64 0] #[.int .i64 0, .int .i64 0, .int .i32 (ch.toNat : Int), .int .i64 0, .bool lb, o] wx) ∧ Hid (Made Q (fun v => [v]) 45 1 (w.heap.size + 3) vs o wx) ∧ Below w.heap.size w wx)
  case atStart => exact ⟨0, [], .slice none 0 0, by omega, rfl, rfl, HH0, HM0, HB0.out⟩
  case round =>
    obtain ⟨k, vs, o, hk, rfl, hol, HH, HM, hbel⟩ := hrel
    clear HM0 HH0 HB0
    by_cases hlt : k < css.length
    · have HRR := Lib.hid (HR.out wr hbel k hlt)
      have HC := Lib.hid (fun w' hb => H.out k hlt w' hb)
      have HS2 := Lib.hid (HSZ.out css[k] (List.getElem_mem hlt))
      have HO := Lib.hid HM.out.1
      generalize css[k] = cs at *
      obtain ⟨x0, x1, x2, x3, x4, x5, x6, x7, x8, x9, x10, x11, x12, x13, x14, x15, rfl⟩ := arr16 HS2.out.1
      go_wp2_with (first
        | (refine wpList_load_mid rfl 33 _ rfl a (k * 16) rfl [x0, x1, x2, x3, x4, x5, x6, x7, x8, x9, x10, x11, x12, x13, x14, x15] _ HRR.out Tryz.underlying33 rfl HI.out ?_)
        | (refine wpList_store_new rfl 33 16 _ _ rfl HI.out _ #[x0, x1, x2, x3, x4, x5, x6, x7, x8, x9, x10, x11, x12, x13, x14, x15] rfl rfl rfl rfl HS2.out.2 ?_))
      have hBW : Below w.heap.size w (wr.alloc (.cells #[x0, x1, x2, x3, x4, x5, x6, x7, x8, x9, x10, x11, x12, x13, x14, x15] 33)) := hbel.alloc hbel.size _
      have hBW1 : Below wr.heap.size wr (wr.alloc (.cells #[x0, x1, x2, x3, x4, x5, x6, x7, x8, x9, x10, x11, x12, x13, x14, x15] 33)) := (Below.refl _ _).alloc (Nat.le_refl _) _
      have hsz3 := HH.out.2.2.2
      have hS : ReadsL w.heap.size wr.heap.size o [x0, x1, x2, x3, x4, x5, x6, x7, x8, x9, x10, x11, x12, x13, x14, x15] (wr.alloc (.cells #[x0, x1, x2, x3, x4, x5, x6, x7, x8, x9, x10, x11, x12, x13, x14, x15] 33)).drew := ⟨Lib.cell_of_heap ((heap_alloc_old wr _ (by omega)).trans HH.out.2.2.1) 5, range_whole (heap_alloc_new wr _)⟩
      have HB := Lib.hid hBW
      have HB1 := Lib.hid hBW1
      clear hBW hBW1
      refine wp_region_B (ReadsL w.heap.size wr.heap.size o [x0, x1, x2, x3, x4, x5, x6, x7, x8, x9, x10, x11, x12, x13, x14, x15]) 11 (by kernel_rfl) ?_
      refine wpAnyB_take (i := 0) (.pointer (some ⟨w.heap.size + 1 + 1, 0, none⟩)) rfl (by kernel_rfl) (by kernel_rfl) (by kernel_rfl) (by kernel_rfl) rfl (fun _ _ _ h => h) hS (yields_in (by kernel_rfl) (fun w hSw => by obtain ⟨s5, sx⟩ := hSw; go_simp)) ?_
      simp only [Act.put, List.setIfInBounds_toArray, List.set_cons_zero, List.set_cons_succ]
      refine wpAnyB_take (i := 1) (.pointer (some ⟨w.heap.size + 1 + 1, 0, none⟩)) rfl (by kernel_rfl) (by kernel_rfl) (by kernel_rfl) (by kernel_rfl) rfl (fun _ _ _ h => h) hS (yields_in (by kernel_rfl) (fun w hSw => by obtain ⟨s5, sx⟩ := hSw; go_simp)) ?_
      simp only [Act.put, List.setIfInBounds_toArray, List.set_cons_zero, List.set_cons_succ]
      refine wpAnyB_take (i := 2) (.pointer (some ⟨w.heap.size + 1 + 1, 0, none⟩)) rfl (by kernel_rfl) (by kernel_rfl) (by kernel_rfl) (by kernel_rfl) rfl (fun _ _ _ h => h) hS (yields_in (by kernel_rfl) (fun w hSw => by obtain ⟨s5, sx⟩ := hSw; go_simp)) ?_
      simp only [Act.put, List.setIfInBounds_toArray, List.set_cons_zero, List.set_cons_succ]
      refine wpAnyB_take (i := 3) (.pointer (some ⟨w.heap.size + 1 + 1, 5, none⟩)) rfl (by kernel_rfl) (by kernel_rfl) (by kernel_rfl) (by kernel_rfl) rfl (fun _ _ _ h => h) hS (yields_in (by kernel_rfl) (fun w hSw => by obtain ⟨s5, sx⟩ := hSw; go_simp)) ?_
      simp only [Act.put, List.setIfInBounds_toArray, List.set_cons_zero, List.set_cons_succ]
      refine wpAnyB_take (i := 4) (o) rfl (by kernel_rfl) (by kernel_rfl) (by kernel_rfl) (by kernel_rfl) rfl (fun _ _ _ h => h) hS (yields_in (by kernel_rfl) (fun w hSw => by obtain ⟨s5, sx⟩ := hSw; go_simp)) ?_
      simp only [Act.put, List.setIfInBounds_toArray, List.set_cons_zero, List.set_cons_succ]
      refine wpAnyB_take (i := 5) (.agg #[x0, x1, x2, x3, x4, x5, x6, x7, x8, x9, x10, x11, x12, x13, x14, x15]) rfl (by kernel_rfl) (by kernel_rfl) (by kernel_rfl) (by kernel_rfl) rfl (fun _ _ _ h => h) hS (yieldsIf_load_mid (by kernel_rfl) 33 _ rfl wr.heap.size 0 rfl [x0, x1, x2, x3, x4, x5, x6, x7, x8, x9, x10, x11, x12, x13, x14, x15] _ (fun w h => h.2) Tryz.underlying33 rfl HI.out) ?_
      simp only [Act.put, List.setIfInBounds_toArray, List.set_cons_zero, List.set_cons_succ]

      refine wpAnyB_one (i := 6) rfl (by kernel_rfl) (by kernel_rfl) (fun K hK => ?_)
      go_simp
      go_at_call 18
      refine (HC.out _ HB.out.drew).mono ?_
      rintro e w2 ⟨_, ⟨vT, vx, rfl⟩, hq, rfl, hb2⟩
      have hs2 : wr.heap.size + 1 ≤ w2.heap.size := (by have : (wr.alloc _).heap.size ≤ w2.heap.size := hb2.size; simpa using this)
      have hS2 := hS.keep (w' := w2) (hb2.block _ (by show w.heap.size + 1 + 1 < (wr.alloc _).heap.size; simp; omega)) (hb2.block _ (by show wr.heap.size < (wr.alloc _).heap.size; simp))
      have HQ := Lib.hid hq
      have HB2 := Lib.hid hb2
      clear hq hb2 hS
      refine hK.out _ _ ⟨fun _ => hS2, ?_⟩
      clear hK K
      try simp only [Act.put, List.setIfInBounds_toArray, List.set_cons_zero, List.set_cons_succ]
      refine wpAnyB_one (i := 7) rfl (by kernel_rfl) (by kernel_rfl) (fun K hK => ?_)
      go_simp
      have hS3 := hS2.keep (w' := w2.alloc (.cells #[.iface vT vx] 45)) (heap_alloc_old w2 _ (by omega)) (heap_alloc_old w2 _ (by omega))
      refine hK.out _ _ ⟨fun _ => hS3, ?_⟩
      clear hK K
      try simp only [Act.put, List.setIfInBounds_toArray, List.set_cons_zero, List.set_cons_succ]
      refine wpAnyB_one (i := 8) rfl (by kernel_rfl) (by kernel_rfl) (fun K hK => ?_)
      refine wp_append_lies _ _ _ 60 rfl (w.heap.size + 3) 45 i0 .nilIface 1 16 Tryz.underlying60 hi hz0 hz1 hz2 rfl (by decide) _ _ _ rfl ((owns_below (owns_below HO.out HB1.out.drew) HB2.out).alloc _) ⟨w2.heap.size, 0, none⟩ 1 1 [.iface vT vx] rfl rfl (World.news_of_block (heap_alloc_new w2 _)) (fun u hu => by rw [List.mem_singleton.1 hu]; rfl) (by decide) (by unfold maxLen; omega) (by omega) (by simp; omega) (w2.heap.size + 1) (by simp) ?_
      intro g cap w3 hown hgrow hat hlt3
      have HH3 := Lib.hid (keepL HH.out HO.out HB1.out.drew HB2.out hgrow)
      have hno : ∀ b, b < w.heap.size + 3 ∨ b = wr.heap.size → some b ≠ o.ownBlock := fun b hb hh => by have := HO.out.lt b hh.symm; omega
      have hS4 := hS3.keep (w' := w3) (hgrow.block _ (by simp; omega) (hno _ (by omega))) (hgrow.block _ (by simp; omega) (hno _ (by omega)))
      have f7 : w3.cell? ⟨w.heap.size + 1 + 1, 5, none⟩ = some o := hS4.1
      have fz7 : w3.frozen? ⟨w.heap.size + 1 + 1, 5, none⟩ = false := Lib.frozen_of_heap HH3.out.2.2.1 5
      refine hK.out _ _ ⟨fun _ => hS4, ?_⟩
      clear hK K hS2 hS3
      try simp only [Act.put, List.setIfInBounds_toArray, List.set_cons_zero, List.set_cons_succ]
      refine wpAnyB_one (i := 9) rfl (by kernel_rfl) (by kernel_rfl) (fun K hK => ?_)
      go_simp
      refine hK.out _ _ ⟨fun _ => hS4, ?_⟩
      clear hK K
      try simp only [Act.put, List.setIfInBounds_toArray, List.set_cons_zero, List.set_cons_succ]
      refine wpAnyB_one (i := 10) rfl (by kernel_rfl) (by kernel_rfl) (fun K hK => ?_)
      go_simp
      refine hK.out _ _ ⟨fun _ => hS4, ?_⟩
      clear hK K
      try simp only [Act.put, List.setIfInBounds_toArray, List.set_cons_zero, List.set_cons_succ]
      refine wpAnyB_one (i := 11) rfl (by kernel_rfl) (by kernel_rfl) (fun K hK => ?_)
      go_simp
      refine hK.out _ _ ⟨fun h => absurd rfl h, ?_⟩
      clear hK K hS4
      refine wpAnyB_done (by kernel_rfl) ?_ _
      try simp only [Act.put, List.setIfInBounds_toArray, List.set_cons_zero, List.set_cons_succ]
      go_wp2_with (fail)
      go_roundg (gk - 1)
      case measure => omega
      case rel =>
        subst hol
        have hb12 : Below wr.heap.size wr w2 := HB1.out.drew.trans (HB2.out.mono HB1.out.size)
        have h1 : Q vs.length wr.heap.size w2.heap.size (.iface vT vx) w2 := hS.wide _ _ _ _ _ _ _ HQ.out HB1.out.size (Nat.le_refl _)
        have hm3 := Made.step hS HM.out hsz3 hb12 h1 hown (by omega) rfl hgrow hat
        have hb3 := grown_below hbel (own_low HO.out (Nat.le_add_right _ 3)) hbel.size hb12 hgrow
        refine ⟨vs.length + 1, vs ++ [.iface vT vx], _, by omega, by go_num, by simp, Lib.hid ⟨?_, ?_, ?_, ?_⟩, Lib.hid (made_same hS hm3 (fun b hb => heap_setCell_other w3 _ b _ (by show b ≠ w.heap.size + 1 + 1; omega)) (by simp)), hb3.setCell (by show w.heap.size ≤ w.heap.size + 1 + 1; omega) _⟩
        · exact (heap_setCell_other w3 _ _ _ (by show w.heap.size ≠ w.heap.size + 1 + 1; omega)).trans HH3.out.1
        · exact (heap_setCell_other w3 _ _ _ (by show w.heap.size + 1 ≠ w.heap.size + 1 + 1; omega)).trans HH3.out.2.1
        · exact heap_setCell_same w3 _ 5 _ _ _ HH3.out.2.2.1
        · simpa using HH3.out.2.2.2
    · have hkn : k = css.length := by omega
      subst hkn
      go_wp2_with (fail)
      refine bodyPost_ret (v := .iface 69 (.pointer (some ⟨w.heap.size + 2, 0, none⟩))) (by simp [results, go_sem]) rfl ⟨vs, o, hol, rfl, HH.out.2.2.1, HH.out.2.2.2, HM.out, hbel⟩

set_option maxHeartbeats 2000000 in
set_option maxRecDepth 100000 in
theorem built_numbers (Q : Nat → Nat → Nat → Value → World → Prop) (hS : Sayable Q) (ti : ByteArray) (ch : UInt8) (lb : Bool) (i : Nat) (css : List (Array Value)) (a c : Nat) (w : World) (hch : ch.toNat < 128) (hrow : RowAt 33 a (css.flatMap Array.toList) w) (hsz : ∀ c ∈ css, c.size = 16 ∧ c.all (·.oneCell') = true) (hn : css.length ≤ 1000)
    (H : ∀ i (h : i < css.length) w', Below w.heap.size w w' → Calls Tryz.prog 18 #[.agg css[i]] w' fun e w2 => ∃ v, (∃ T x, v = .iface T x) ∧ Q i w'.heap.size w2.heap.size v w2 ∧ e = .returned v ∧ Below w'.heap.size w' w2) :
    Calls Tryz.prog 11 #[.agg #[.int .i64 3, .string ⟨#[]⟩, .string ti, .int .i64 (i : Nat), .string ⟨#[ch]⟩, .bool lb, .slice none 0 0, .slice (some ⟨a, 0, none⟩) css.length c, .int .i64 0, .int .i64 0, .string ⟨#[]⟩, .int .i64 0, .bool false, .bool false, .bool false, .slice none 0 0]] w (ListMade Q (fun o => #[.int .i64 0, .int .i64 0, .int .i32 (ch.toNat : Int), .int .i64 (i : Nat), .bool lb, o]) css.length w) := by
  obtain ⟨i0, hi, hz0, hz1, hz2⟩ := info_parts block_info
  obtain ⟨j0, hi', hz0', hz1', hz2'⟩ := info_parts node_info
  have hi16 : (Tryz.prog.info? 33).map (·.size) = some 16 := by rw [hi']; simp [hz1']
  have HI := Lib.hid hi16
  clear hi' hz0' hz1' hz2' hi16
  have H := Lib.hid H
  have HD := Lib.hid (fun w => decode_one ch hch w)
  have HSZ := Lib.hid hsz
  have HR : Hid (∀ wx, Below w.heap.size w wx → ∀ k (h : k < css.length), wx.rangeAt a (k * 16) css[k].toList) := Lib.hid (fun wx hb k h => row_range (hrow.below hrow.lt hb) (fun c hc => (hsz c hc).1) h)
  have HM0 : Hid (Made Q (fun v => [v]) 45 1 (w.heap.size + 3) [] (.slice none 0 0) (((w.alloc (.cells #[.int .i64 3, .string ⟨#[]⟩, .string ti, .int .i64 (i : Nat), .string ⟨#[ch]⟩, .bool lb, .slice none 0 0, .slice (some ⟨a, 0, none⟩) css.length c, .int .i64 0, .int .i64 0, .string ⟨#[]⟩, .int .i64 0, .bool false, .bool false, .bool false, .slice none 0 0] 33)).alloc (.cells #[.int .i64 0, .int .i64 0] 58)).alloc (.cells #[.int .i64 0, .int .i64 0, .int .i32 (ch.toNat : Int), .int .i64 (i : Nat), .bool lb, .slice none 0 0] 71))) := Lib.hid (Made.nil _ _ _ _ _ _)
  have HB0 : Hid (Below w.heap.size w (((w.alloc (.cells #[.int .i64 3, .string ⟨#[]⟩, .string ti, .int .i64 (i : Nat), .string ⟨#[ch]⟩, .bool lb, .slice none 0 0, .slice (some ⟨a, 0, none⟩) css.length c, .int .i64 0, .int .i64 0, .string ⟨#[]⟩, .int .i64 0, .bool false, .bool false, .bool false, .slice none 0 0] 33)).alloc (.cells #[.int .i64 0, .int .i64 0] 58)).alloc (.cells #[.int .i64 0, .int .i64 0, .int .i32 (ch.toNat : Int), .int .i64 (i : Nat), .bool lb, .slice none 0 0] 71))) := Lib.hid ((((Below.refl _ _).alloc (Nat.le_refl _) _).alloc (by simp) _).alloc (by simp; omega) _)
  have HH0 : Hid (BlocksL w.heap.size #[.int .i64 3, .string ⟨#[]⟩, .string ti, .int .i64 (i : Nat), .string ⟨#[ch]⟩, .bool lb, .slice none 0 0, .slice (some ⟨a, 0, none⟩) css.length c, .int .i64 0, .int .i64 0, .string ⟨#[]⟩, .int .i64 0, .bool false, .bool false, .bool false, .slice none 0 0] #[.int .i64 0, .int .i64 0] #[.int .i64 0, .int .i64 0, .int .i32 (ch.toNat : Int), .int .i64 (i : Nat), .bool lb, .slice none 0 0] (((w.alloc (.cells #[.int .i64 3, .string ⟨#[]⟩, .string ti, .int .i64 (i : Nat), .string ⟨#[ch]⟩, .bool lb, .slice none 0 0, .slice (some ⟨a, 0, none⟩) css.length c, .int .i64 0, .int .i64 0, .string ⟨#[]⟩, .int .i64 0, .bool false, .bool false, .bool false, .slice none 0 0] 33)).alloc (.cells #[.int .i64 0, .int .i64 0] 58)).alloc (.cells #[.int .i64 0, .int .i64 0, .int .i32 (ch.toNat : Int), .int .i64 (i : Nat), .bool lb, .slice none 0 0] 71))) := Lib.hid (blocks_l _ _ _ _)
  clear hrow hsz
  unfold ListMade
  go_enter Tryz.func11, Tryz.ntmps11
  go_wp2_with (go_at_call 17; refine (HD.out _).mono ?_; rintro e w2 ⟨rfl, rfl⟩)
  go_loopg [62] css.length (fun gg j wx => ∃ k vs o, k + gg = css.length ∧ j = .int .i64 k ∧ vs.length = k ∧ Hid (BlocksL w.heap.size #[.int .i64 3, .string ⟨#[]⟩, .string ti, .int .i64 (i : Nat), .string ⟨#[ch]⟩, .bool lb, .slice none 0 0, .slice (some ⟨a, 0, none⟩) css.length c, .int .i64 0, .int .i64 0, .string ⟨#[]⟩, .int .i64 0, .bool false, .bool false, .bool false, .slice none 0 0] #[.int .i64 0, .int .i64 0] #[.int .i64 0, .int .i64 0, .int .i32 (ch.toNat : Int), .int .i64 (i : Nat), .bool lb, o] wx) ∧ Hid (Made Q (fun v => [v]) 45 1 (w.heap.size + 3) vs o wx) ∧ Below w.heap.size w wx)
  case atStart => exact ⟨0, [], .slice none 0 0, by omega, rfl, rfl, HH0, HM0, HB0.out⟩
  case round =>
    obtain ⟨k, vs, o, hk, rfl, hol, HH, HM, hbel⟩ := hrel
    clear HM0 HH0 HB0
    by_cases hlt : k < css.length
    · have HRR := Lib.hid (HR.out wr hbel k hlt)
      have HC := Lib.hid (fun w' hb => H.out k hlt w' hb)
      have HS2 := Lib.hid (HSZ.out css[k] (List.getElem_mem hlt))
      have HO := Lib.hid HM.out.1
      generalize css[k] = cs at *
      obtain ⟨x0, x1, x2, x3, x4, x5, x6, x7, x8, x9, x10, x11, x12, x13, x14, x15, rfl⟩ := arr16 HS2.out.1
      go_wp2_with (first
        | (refine wpList_load_mid rfl 33 _ rfl a (k * 16) rfl [x0, x1, x2, x3, x4, x5, x6, x7, x8, x9, x10, x11, x12, x13, x14, x15] _ HRR.out Tryz.underlying33 rfl HI.out ?_)
        | (refine wpList_store_new rfl 33 16 _ _ rfl HI.out _ #[x0, x1, x2, x3, x4, x5, x6, x7, x8, x9, x10, x11, x12, x13, x14, x15] rfl rfl rfl rfl HS2.out.2 ?_))
      have hBW : Below w.heap.size w (wr.alloc (.cells #[x0, x1, x2, x3, x4, x5, x6, x7, x8, x9, x10, x11, x12, x13, x14, x15] 33)) := hbel.alloc hbel.size _
      have hBW1 : Below wr.heap.size wr (wr.alloc (.cells #[x0, x1, x2, x3, x4, x5, x6, x7, x8, x9, x10, x11, x12, x13, x14, x15] 33)) := (Below.refl _ _).alloc (Nat.le_refl _) _
      have hsz3 := HH.out.2.2.2
      have hS : ReadsL w.heap.size wr.heap.size o [x0, x1, x2, x3, x4, x5, x6, x7, x8, x9, x10, x11, x12, x13, x14, x15] (wr.alloc (.cells #[x0, x1, x2, x3, x4, x5, x6, x7, x8, x9, x10, x11, x12, x13, x14, x15] 33)).drew := ⟨Lib.cell_of_heap ((heap_alloc_old wr _ (by omega)).trans HH.out.2.2.1) 5, range_whole (heap_alloc_new wr _)⟩
      have HB := Lib.hid hBW
      have HB1 := Lib.hid hBW1
      clear hBW hBW1
      refine wp_region_B (ReadsL w.heap.size wr.heap.size o [x0, x1, x2, x3, x4, x5, x6, x7, x8, x9, x10, x11, x12, x13, x14, x15]) 11 (by kernel_rfl) ?_
      refine wpAnyB_take (i := 0) (.pointer (some ⟨w.heap.size + 1 + 1, 0, none⟩)) rfl (by kernel_rfl) (by kernel_rfl) (by kernel_rfl) (by kernel_rfl) rfl (fun _ _ _ h => h) hS (yields_in (by kernel_rfl) (fun w hSw => by obtain ⟨s5, sx⟩ := hSw; go_simp)) ?_
      simp only [Act.put, List.setIfInBounds_toArray, List.set_cons_zero, List.set_cons_succ]
      refine wpAnyB_take (i := 1) (.pointer (some ⟨w.heap.size + 1 + 1, 0, none⟩)) rfl (by kernel_rfl) (by kernel_rfl) (by kernel_rfl) (by kernel_rfl) rfl (fun _ _ _ h => h) hS (yields_in (by kernel_rfl) (fun w hSw => by obtain ⟨s5, sx⟩ := hSw; go_simp)) ?_
      simp only [Act.put, List.setIfInBounds_toArray, List.set_cons_zero, List.set_cons_succ]
      refine wpAnyB_take (i := 2) (.pointer (some ⟨w.heap.size + 1 + 1, 0, none⟩)) rfl (by kernel_rfl) (by kernel_rfl) (by kernel_rfl) (by kernel_rfl) rfl (fun _ _ _ h => h) hS (yields_in (by kernel_rfl) (fun w hSw => by obtain ⟨s5, sx⟩ := hSw; go_simp)) ?_
      simp only [Act.put, List.setIfInBounds_toArray, List.set_cons_zero, List.set_cons_succ]
      refine wpAnyB_take (i := 3) (.pointer (some ⟨w.heap.size + 1 + 1, 5, none⟩)) rfl (by kernel_rfl) (by kernel_rfl) (by kernel_rfl) (by kernel_rfl) rfl (fun _ _ _ h => h) hS (yields_in (by kernel_rfl) (fun w hSw => by obtain ⟨s5, sx⟩ := hSw; go_simp)) ?_
      simp only [Act.put, List.setIfInBounds_toArray, List.set_cons_zero, List.set_cons_succ]
      refine wpAnyB_take (i := 4) (o) rfl (by kernel_rfl) (by kernel_rfl) (by kernel_rfl) (by kernel_rfl) rfl (fun _ _ _ h => h) hS (yields_in (by kernel_rfl) (fun w hSw => by obtain ⟨s5, sx⟩ := hSw; go_simp)) ?_
      simp only [Act.put, List.setIfInBounds_toArray, List.set_cons_zero, List.set_cons_succ]
      refine wpAnyB_take (i := 5) (.agg #[x0, x1, x2, x3, x4, x5, x6, x7, x8, x9, x10, x11, x12, x13, x14, x15]) rfl (by kernel_rfl) (by kernel_rfl) (by kernel_rfl) (by kernel_rfl) rfl (fun _ _ _ h => h) hS (yieldsIf_load_mid (by kernel_rfl) 33 _ rfl wr.heap.size 0 rfl [x0, x1, x2, x3, x4, x5, x6, x7, x8, x9, x10, x11, x12, x13, x14, x15] _ (fun w h => h.2) Tryz.underlying33 rfl HI.out) ?_
      simp only [Act.put, List.setIfInBounds_toArray, List.set_cons_zero, List.set_cons_succ]

      refine wpAnyB_one (i := 6) rfl (by kernel_rfl) (by kernel_rfl) (fun K hK => ?_)
      go_simp
      go_at_call 18
      refine (HC.out _ HB.out.drew).mono ?_
      rintro e w2 ⟨_, ⟨vT, vx, rfl⟩, hq, rfl, hb2⟩
      have hs2 : wr.heap.size + 1 ≤ w2.heap.size := (by have : (wr.alloc _).heap.size ≤ w2.heap.size := hb2.size; simpa using this)
      have hS2 := hS.keep (w' := w2) (hb2.block _ (by show w.heap.size + 1 + 1 < (wr.alloc _).heap.size; simp; omega)) (hb2.block _ (by show wr.heap.size < (wr.alloc _).heap.size; simp))
      have HQ := Lib.hid hq
      have HB2 := Lib.hid hb2
      clear hq hb2 hS
      refine hK.out _ _ ⟨fun _ => hS2, ?_⟩
      clear hK K
      try simp only [Act.put, List.setIfInBounds_toArray, List.set_cons_zero, List.set_cons_succ]
      refine wpAnyB_one (i := 7) rfl (by kernel_rfl) (by kernel_rfl) (fun K hK => ?_)
      go_simp
      have hS3 := hS2.keep (w' := w2.alloc (.cells #[.iface vT vx] 45)) (heap_alloc_old w2 _ (by omega)) (heap_alloc_old w2 _ (by omega))
      refine hK.out _ _ ⟨fun _ => hS3, ?_⟩
      clear hK K
      try simp only [Act.put, List.setIfInBounds_toArray, List.set_cons_zero, List.set_cons_succ]
      refine wpAnyB_one (i := 8) rfl (by kernel_rfl) (by kernel_rfl) (fun K hK => ?_)
      refine wp_append_lies _ _ _ 60 rfl (w.heap.size + 3) 45 i0 .nilIface 1 16 Tryz.underlying60 hi hz0 hz1 hz2 rfl (by decide) _ _ _ rfl ((owns_below (owns_below HO.out HB1.out.drew) HB2.out).alloc _) ⟨w2.heap.size, 0, none⟩ 1 1 [.iface vT vx] rfl rfl (World.news_of_block (heap_alloc_new w2 _)) (fun u hu => by rw [List.mem_singleton.1 hu]; rfl) (by decide) (by unfold maxLen; omega) (by omega) (by simp; omega) (w2.heap.size + 1) (by simp) ?_
      intro g cap w3 hown hgrow hat hlt3
      have HH3 := Lib.hid (keepL HH.out HO.out HB1.out.drew HB2.out hgrow)
      have hno : ∀ b, b < w.heap.size + 3 ∨ b = wr.heap.size → some b ≠ o.ownBlock := fun b hb hh => by have := HO.out.lt b hh.symm; omega
      have hS4 := hS3.keep (w' := w3) (hgrow.block _ (by simp; omega) (hno _ (by omega))) (hgrow.block _ (by simp; omega) (hno _ (by omega)))
      have f7 : w3.cell? ⟨w.heap.size + 1 + 1, 5, none⟩ = some o := hS4.1
      have fz7 : w3.frozen? ⟨w.heap.size + 1 + 1, 5, none⟩ = false := Lib.frozen_of_heap HH3.out.2.2.1 5
      refine hK.out _ _ ⟨fun _ => hS4, ?_⟩
      clear hK K hS2 hS3
      try simp only [Act.put, List.setIfInBounds_toArray, List.set_cons_zero, List.set_cons_succ]
      refine wpAnyB_one (i := 9) rfl (by kernel_rfl) (by kernel_rfl) (fun K hK => ?_)
      go_simp
      refine hK.out _ _ ⟨fun _ => hS4, ?_⟩
      clear hK K
      try simp only [Act.put, List.setIfInBounds_toArray, List.set_cons_zero, List.set_cons_succ]
      refine wpAnyB_one (i := 10) rfl (by kernel_rfl) (by kernel_rfl) (fun K hK => ?_)
      go_simp
      refine hK.out _ _ ⟨fun _ => hS4, ?_⟩
      clear hK K
      try simp only [Act.put, List.setIfInBounds_toArray, List.set_cons_zero, List.set_cons_succ]
      refine wpAnyB_one (i := 11) rfl (by kernel_rfl) (by kernel_rfl) (fun K hK => ?_)
      go_simp
      refine hK.out _ _ ⟨fun h => absurd rfl h, ?_⟩
      clear hK K hS4
      refine wpAnyB_done (by kernel_rfl) ?_ _
      try simp only [Act.put, List.setIfInBounds_toArray, List.set_cons_zero, List.set_cons_succ]
      go_wp2_with (fail)
      go_roundg (gk - 1)
      case measure => omega
      case rel =>
        subst hol
        have hb12 : Below wr.heap.size wr w2 := HB1.out.drew.trans (HB2.out.mono HB1.out.size)
        have h1 : Q vs.length wr.heap.size w2.heap.size (.iface vT vx) w2 := hS.wide _ _ _ _ _ _ _ HQ.out HB1.out.size (Nat.le_refl _)
        have hm3 := Made.step hS HM.out hsz3 hb12 h1 hown (by omega) rfl hgrow hat
        have hb3 := grown_below hbel (own_low HO.out (Nat.le_add_right _ 3)) hbel.size hb12 hgrow
        refine ⟨vs.length + 1, vs ++ [.iface vT vx], _, by omega, by go_num, by simp, Lib.hid ⟨?_, ?_, ?_, ?_⟩, Lib.hid (made_same hS hm3 (fun b hb => heap_setCell_other w3 _ b _ (by show b ≠ w.heap.size + 1 + 1; omega)) (by simp)), hb3.setCell (by show w.heap.size ≤ w.heap.size + 1 + 1; omega) _⟩
        · exact (heap_setCell_other w3 _ _ _ (by show w.heap.size ≠ w.heap.size + 1 + 1; omega)).trans HH3.out.1
        · exact (heap_setCell_other w3 _ _ _ (by show w.heap.size + 1 ≠ w.heap.size + 1 + 1; omega)).trans HH3.out.2.1
        · exact heap_setCell_same w3 _ 5 _ _ _ HH3.out.2.2.1
        · simpa using HH3.out.2.2.2
    · have hkn : k = css.length := by omega
      subst hkn
      go_wp2_with (fail)
      refine bodyPost_ret (v := .iface 69 (.pointer (some ⟨w.heap.size + 2, 0, none⟩))) (by simp [results, go_sem]) rfl ⟨vs, o, hol, rfl, HH.out.2.2.1, HH.out.2.2.2, HM.out, hbel⟩

theorem list_nlX (Ts : Nat → List UInt8) (n lo hi p i : Nat) (bul : Int) (m1 m2 m3 s : Value) (w : World) (hp : w.heap[p]? = some (.cells #[m1, m2, .int .i32 bul, .int .i64 i, m3, s] 71 (0, 0))) (hlo : lo ≤ p) (hhi : p < hi) (hr : RowPrints Any 45 Ts n lo hi s w) (hi6 : i < 100) :
    PrintsX false (listH (decide (bul = 46 ∨ bul = 41)) i (sumT Ts n)) lo hi (.iface 69 (.pointer (some ⟨p, 0, none⟩))) w :=
  printsX_of (by decide) (prints_weak (List_prints (List_by Ts n lo hi p i bul m1 m2 m3 s w hp hlo hhi hr hi6))) (listH_nl _ _ _)
/-- a slice of nodes of items -/
def RowItems (Ts : Nat → List UInt8) (n lo hi : Nat) (s : Value) (w : World) : Prop :=
  ∃ (kb c : Nat) (css : List (Array Value)), s = .slice (some ⟨kb, 0, none⟩) n c ∧ css.length = n ∧ 0 < n ∧ n ≤ 1000 ∧ lo ≤ kb ∧ kb < hi ∧ RowAt 33 kb (css.flatMap Array.toList) w ∧ ∀ i (h : i < css.length), ItemsTo (Ts i) lo hi css[i] w
theorem RowItems.keep {Ts : Nat → List UInt8} {n lo hi : Nat} {s : Value} {w1 w2 : World} (h : RowItems Ts n lo hi s w1) (hb : ∀ b, lo ≤ b → b < hi → w2.heap[b]? = w1.heap[b]?) : RowItems Ts n lo hi s w2 := by
  obtain ⟨kb, c, css, h1, h2, h3, h4, h5, h6, h7, h8⟩ := h
  exact ⟨kb, c, css, h1, h2, h3, h4, h5, h6, h7.of (hb kb h5 h6), fun i hi => (items_sayable Ts).keep i _ _ _ _ _ (h8 i hi) hb⟩
theorem built_list (Ts : Nat → List UInt8) (n lo hi i : Nat) (ti : ByteArray) (ch : UInt8) (lb : Bool) (nu : Int) (hnu : nu = -1 ∧ i = 0 ∨ nu = (i : Nat)) (hi100 : i < 100) (hch : ch.toNat < 128) (ks : Value) (w : World) (hr : RowItems Ts n lo hi ks w) :
    BuildsTo false (listH (decide ((ch.toNat : Int) = 46 ∨ (ch.toNat : Int) = 41)) i (sumT Ts n)) lo hi (blkG 3 ⟨#[]⟩ ti nu ⟨#[ch]⟩ lb ks ⟨#[]⟩ 0 false) w := by
  have hks : ∃ a n c, ks = .slice (some ⟨a, 0, none⟩) n c := by obtain ⟨kb, c, css, rfl, _⟩ := hr; exact ⟨_, _, _, rfl⟩
  obtain ⟨ka, kn, kc, rfl⟩ := hks
  refine ⟨rfl, blkG_one _ _ _ _ _ _ _ _ _ _ _ _, ?_⟩
  intro w' hag hhw
  obtain ⟨kb, c, css, hks, hl, h0, h1000, g1, g2, g3, g4⟩ := hr.keep hag
  simp at hks
  obtain ⟨rfl, rfl, rfl⟩ := hks
  have key : ∀ (nu : Int), (Calls Tryz.prog 11 #[.agg (blkG 3 ⟨#[]⟩ ti nu ⟨#[ch]⟩ lb (.slice (some ⟨ka, 0, none⟩) css.length kc) ⟨#[]⟩ 0 false)] w' (ListMade (fun i => Prints Any (Ts i)) (fun o => #[.int .i64 0, .int .i64 0, .int .i32 (ch.toNat : Int), .int .i64 (i : Nat), .bool lb, o]) css.length w')) →
      Calls Tryz.prog 11 #[.agg (blkG 3 ⟨#[]⟩ ti nu ⟨#[ch]⟩ lb (.slice (some ⟨ka, 0, none⟩) kn kc) ⟨#[]⟩ 0 false)] w' (BuildX false (listH (decide ((ch.toNat : Int) = 46 ∨ (ch.toNat : Int) = 41)) i (sumT Ts kn)) w') := by
    intro nu h
    rw [hl] at h
    refine h.mono ?_
    rintro e w2 ⟨vs, o, hv, rfl, k1, k2, hm, hb⟩
    have hrp := made_row hm (by omega) (by omega)
    rw [hv] at hrp
    exact ⟨_, ⟨_, _, rfl⟩, list_nlX Ts kn w'.heap.size w2.heap.size _ i _ _ _ _ o w2 k1 (by omega) (by omega) (hrp.wide (by omega) (Nat.le_refl _)) hi100, rfl, hb⟩
  have hsz : ∀ c ∈ css, c.size = 16 ∧ c.all (·.oneCell') = true := fun c hc => by obtain ⟨i, hi, rfl⟩ := List.getElem_of_mem hc; exact ⟨(g4 i hi).1, (g4 i hi).2.1⟩
  have hc : ∀ i (h : i < css.length) w1, Below w'.heap.size w' w1 → Calls Tryz.prog 18 #[.agg css[i]] w1 fun e w2 => ∃ v, (∃ T x, v = .iface T x) ∧ Prints Any (Ts i) w1.heap.size w2.heap.size v w2 ∧ e = .returned v ∧ Below w1.heap.size w1 w2 := fun i h w1 hb => (g4 i h).2.2 w1 (fun k _ hk => hb.block k (by omega)) (Nat.le_trans hhw hb.size)
  rcases hnu with ⟨rfl, rfl⟩ | rfl
  · exact key _ (built_bullets (fun i => Prints Any (Ts i)) (prints_sayable _ _) ti ch lb css ka kc w' hch g3 hsz (by omega) hc)
  · exact key _ (built_numbers (fun i => Prints Any (Ts i)) (prints_sayable _ _) ti ch lb i css ka kc w' hch g3 hsz (by omega) hc)
end Go.Proofs.YtnocllocnoodnaaGreatDoor
