/- The thin package's 'list' at any list of nodes of which 'built' makes blocks. -/
import Derived.Test.YtnocllocnoodnaaGreatDoorInlineRow
namespace Go.Proofs.YtnocllocnoodnaaGreatDoor
open Go.RowKit
theorem block_info : (Tryz.prog.info? 45).map (fun i => (i.zero, i.size, i.bytes)) = some (some .nilIface, 1, 16) := by kernel_rfl
/-- the nodes are turned to blocks -/
def BlocksMade (Q : Nat → Nat → Nat → Value → World → Prop) (n : Nat) (w : World) (e : Ending) (w' : World) : Prop :=
  ∃ vs o, vs.length = n ∧ e = .returned o ∧ Made Q (fun v => [v]) 45 1 w.heap.size vs o w' ∧ Below w.heap.size w w'
theorem impl_list_nil (w : World) : Calls Tryz.prog 15 #[.slice none 0 0] w fun e w' => e = .returned (.slice none 0 0) ∧ w' = w := by
  go_enter Tryz.func15, Tryz.ntmps15
  go_wp2_with (fail)
  go_loopg [3, 8] 0 (fun gg o j wx => o = .slice none 0 0 ∧ j = .int .i64 0 ∧ wx = w)
  case atStart => exact ⟨rfl, rfl, rfl⟩
  case round =>
    obtain ⟨rfl, rfl, rfl⟩ := hrel
    go_wp2_with (fail)
    go_ret
    exact ⟨rfl, rfl⟩
set_option maxHeartbeats 4000000 in
set_option maxRecDepth 100000 in
theorem impl_list (Q : Nat → Nat → Nat → Value → World → Prop) (hS : Sayable Q) (css : List (Array Value)) (a c : Nat) (w : World) (hrow : RowAt 33 a (css.flatMap Array.toList) w) (hsz : ∀ c ∈ css, c.size = 16 ∧ c.all (·.oneCell') = true) (hn : css.length ≤ 1000)
    (H : ∀ i (h : i < css.length) w', Below w.heap.size w w' → Calls Tryz.prog 11 #[.agg css[i]] w' fun e w2 => ∃ v, (∃ T x, v = .iface T x) ∧ Q i w'.heap.size w2.heap.size v w2 ∧ e = .returned v ∧ Below w'.heap.size w' w2) :
    Calls Tryz.prog 15 #[.slice (some ⟨a, 0, none⟩) css.length c] w (BlocksMade Q css.length w) := by
  obtain ⟨i0, hi, hz0, hz1, hz2⟩ := info_parts block_info
  obtain ⟨j0, hi', hz0', hz1', hz2'⟩ := info_parts node_info
  have hi16 : (Tryz.prog.info? 33).map (·.size) = some 16 := by rw [hi']; simp [hz1']
  have HI := Lib.hid hi16
  clear hi' hz0' hz1' hz2' hi16
  have H := Lib.hid H
  have HSZ := Lib.hid hsz
  have HR : Hid (∀ wx, Below w.heap.size w wx → ∀ k (h : k < css.length), wx.rangeAt a (k * 16) css[k].toList) := Lib.hid (fun wx hb k h => row_range (hrow.below hrow.lt hb) (fun c hc => (hsz c hc).1) h)
  have HM0 := Lib.hid (Made.nil Q (fun v => [v]) 45 1 w.heap.size w)
  clear hrow hsz
  unfold BlocksMade
  go_enter Tryz.func15, Tryz.ntmps15
  go_wp2_with (fail)
  go_loopg [3, 8] css.length (fun gg o j wx => ∃ k vs, k + gg = css.length ∧ j = .int .i64 k ∧ vs.length = k ∧ Hid (Made Q (fun v => [v]) 45 1 w.heap.size vs o wx) ∧ Below w.heap.size w wx)
  case atStart => exact ⟨0, [], by omega, rfl, rfl, HM0, Below.refl _ _⟩
  case round =>
    obtain ⟨k, vs, hk, rfl, hcl, HM, hbel⟩ := hrel
    clear HM0
    have hsz := hbel.size
    by_cases hlt : k < css.length
    · have HRR := Lib.hid (HR.out wr hbel k hlt)
      have HC := Lib.hid (fun w' hb => H.out k hlt w' hb)
      have HO := Lib.hid HM.out.1
      have HS2 := Lib.hid (HSZ.out css[k] (List.getElem_mem hlt))
      generalize css[k] = cs at *
      obtain ⟨x0, x1, x2, x3, x4, x5, x6, x7, x8, x9, x10, x11, x12, x13, x14, x15, rfl⟩ := arr16 HS2.out.1
      go_wp2_with (first
        | (refine wpList_load_mid rfl 33 _ rfl a (k * 16) rfl [x0, x1, x2, x3, x4, x5, x6, x7, x8, x9, x10, x11, x12, x13, x14, x15] _ HRR.out Tryz.underlying33 rfl HI.out ?_)
        | (refine wpList_store_node rfl _ _ rfl _ #[x0, x1, x2, x3, x4, x5, x6, x7, x8, x9, x10, x11, x12, x13, x14, x15] rfl rfl rfl rfl HS2.out.2 ?_; have hb1 : Below wr.heap.size wr (wr.alloc (.cells #[x0, x1, x2, x3, x4, x5, x6, x7, x8, x9, x10, x11, x12, x13, x14, x15] 33)) := (Below.refl _ _).alloc (Nat.le_refl _) _; have HB1 := Lib.hid hb1; clear hb1)
        | (go_at_call 11; refine (HC.out _ (hbel.trans (HB1.out.mono hsz))).mono ?_; rintro e w2 ⟨_, ⟨vT, vx, rfl⟩, hq, rfl, hb2⟩; have HQ := Lib.hid hq; have HO2 := Lib.hid (owns_below (owns_below HO.out HB1.out) hb2); have HB2 := Lib.hid hb2; clear hq hb2)
        | (at_builtin; refine wpList_append_lies _ rfl _ _ 60 rfl w.heap.size 45 i0 .nilIface 1 16 Tryz.underlying60 hi hz0 hz1 hz2 rfl (by decide) _ _ _ rfl (HO2.out.alloc _) ⟨w2.heap.size, 0, none⟩ 1 1 [.iface vT vx] rfl rfl (World.news_of_block (heap_alloc_new w2 _)) (fun u hu => by rw [List.mem_singleton.1 hu]; rfl) (by decide) (by unfold maxLen; omega) (by omega) (by have := HB2.out.size; simp at this ⊢; omega) (w2.heap.size + 1) (by simp) ?_; intro g cap w3 hown hgrow hat hlt3))
      go_roundg (gk - 1)
      case measure => omega
      case rel =>
        subst hcl
        have hb12 : Below wr.heap.size wr w2 := HB1.out.trans (HB2.out.mono HB1.out.size)
        have h1 : Q vs.length wr.heap.size w2.heap.size (.iface vT vx) w2 := hS.wide _ _ _ _ _ _ _ HQ.out HB1.out.size (Nat.le_refl _)
        exact ⟨vs.length + 1, vs ++ [.iface vT vx], by omega, by go_num, by simp, Lib.hid (Made.step hS HM.out hsz hb12 h1 hown (by omega) rfl hgrow hat), grown_below hbel HO.out hsz hb12 hgrow⟩
    · go_wp2_with (fail)
      go_ret
      exact ⟨vs, _, by omega, rfl, HM.out, hbel⟩
end Go.Proofs.YtnocllocnoodnaaGreatDoor
