/- The thin package's 'inlines' at any list of inlines of which 'inline' makes nodes. -/
import Derived.Test.YtbbgdcfbpgmjbaaGreatDoorMade
import Derived.Deep.LoopGhost
namespace Go.Proofs.YtbbgdcfbpgmjbaaGreatDoor
open Go.RowKit
theorem node_info : (Tryz.prog.info? 38).map (fun i => (i.zero, i.size, i.bytes)) = some (some (nodeOf 0 ⟨#[]⟩ false), 16, 192) := by kernel_rfl
theorem arr16 {cs : Array Value} (h : cs.size = 16) : ∃ x0 x1 x2 x3 x4 x5 x6 x7 x8 x9 x10 x11 x12 x13 x14 x15, cs = #[x0, x1, x2, x3, x4, x5, x6, x7, x8, x9, x10, x11, x12, x13, x14, x15] := by
  obtain ⟨l⟩ := cs
  match l, h with
  | [x0, x1, x2, x3, x4, x5, x6, x7, x8, x9, x10, x11, x12, x13, x14, x15], _ => exact ⟨_, _, _, _, _, _, _, _, _, _, _, _, _, _, _, _, rfl⟩
/-- the inlines are turned to nodes -/
def NodesMade (Q : Nat → Nat → Nat → Array Value → World → Prop) (n : Nat) (w : World) (e : Ending) (w' : World) : Prop :=
  ∃ css o, css.length = n ∧ e = .returned o ∧ Made Q Array.toList 38 16 w.heap.size css o w' ∧ Below w.heap.size w w'
set_option maxHeartbeats 4000000 in
set_option maxRecDepth 100000 in
theorem impl_inlines (Q : Nat → Nat → Nat → Array Value → World → Prop) (hS : Sayable Q) (vs : List Value) (a c : Nat) (w : World) (hrow : RowAt 34 a vs w) (hn : vs.length ≤ 1000)
    (H : ∀ i (h : i < vs.length) w', Below w.heap.size w w' → Calls Tryz.prog 13 #[vs[i]] w' fun e w2 => ∃ cs, cs.size = 16 ∧ cs.all (·.oneCell') = true ∧ Q i w'.heap.size w2.heap.size cs w2 ∧ e = .returned (.agg cs) ∧ Below w'.heap.size w' w2) :
    Calls Tryz.prog 8 #[.slice (some ⟨a, 0, none⟩) vs.length c] w (NodesMade Q vs.length w) := by
  obtain ⟨i0, hi, hz0, hz1, hz2⟩ := info_parts node_info
  have H := Lib.hid H
  have HR : Hid (∀ wx, Below w.heap.size w wx → ∀ k (h : k < vs.length), wx.cell? ⟨a, k, none⟩ = some vs[k]) := Lib.hid (fun wx hb k h => (hrow.below hrow.lt hb).cell k h)
  have HM0 := Lib.hid (Made.nil Q Array.toList 38 16 w.heap.size w)
  clear hrow
  unfold NodesMade
  go_enter Tryz.func8, Tryz.ntmps8
  go_wp2_with (fail)
  go_loopg [3, 8] vs.length (fun gg o j wx => ∃ k css, k + gg = vs.length ∧ j = .int .i64 k ∧ css.length = k ∧ Hid (Made Q Array.toList 38 16 w.heap.size css o wx) ∧ Below w.heap.size w wx)
  case atStart => exact ⟨0, [], by omega, rfl, rfl, HM0, Below.refl _ _⟩
  case round =>
    obtain ⟨k, css, hk, rfl, hcl, HM, hbel⟩ := hrel
    clear HM0
    have hsz := hbel.size
    by_cases hlt : k < vs.length
    · have hc := HR.out wr hbel k hlt
      have HC := Lib.hid (H.out k hlt wr hbel)
      have HO := Lib.hid HM.out.1
      generalize hv : vs[k] = v at *
      go_wp2_with (first
        | (go_at_call 13; refine HC.out.mono ?_; rintro e w2 ⟨cs, hcs, hcs1, hq, rfl, hb2⟩; obtain ⟨x0, x1, x2, x3, x4, x5, x6, x7, x8, x9, x10, x11, x12, x13, x14, x15, rfl⟩ := arr16 hcs; have HQ := Lib.hid hq; have HCS := Lib.hid hcs1; have HO2 := Lib.hid (owns_below HO.out hb2); clear hcs hcs1 hq)
        | (at_builtin; refine wpList_append_lies _ rfl _ _ 23 rfl w.heap.size 38 i0 (nodeOf 0 ⟨#[]⟩ false) 16 192 Tryz.underlying23 hi hz0 hz1 hz2 rfl (by decide) _ _ _ rfl (HO2.out.alloc _) ⟨w2.heap.size, 0, none⟩ 1 1 [x0, x1, x2, x3, x4, x5, x6, x7, x8, x9, x10, x11, x12, x13, x14, x15] rfl rfl (World.news_of_block (heap_alloc_new w2 _)) (fun u hu => (Array.all_eq_true_iff_forall_mem.1 HCS.out) u (by simpa using hu)) (by decide) (by unfold maxLen; omega) (by omega) (by have := hb2.size; simp; omega) (w2.heap.size + 1) (by simp) ?_; intro g cap w3 hown hgrow hat hlt3))
      go_roundg (gk - 1)
      case measure => omega
      case rel =>
        subst hcl
        have h1 : Q css.length wr.heap.size w2.heap.size #[x0, x1, x2, x3, x4, x5, x6, x7, x8, x9, x10, x11, x12, x13, x14, x15] w2 := HQ.out
        exact ⟨css.length + 1, css ++ [#[x0, x1, x2, x3, x4, x5, x6, x7, x8, x9, x10, x11, x12, x13, x14, x15]], by omega, by go_num, by simp, Lib.hid (Made.step hS HM.out hsz hb2 h1 hown (by omega) rfl hgrow hat), grown_below hbel HO.out hsz hb2 hgrow⟩
    · go_wp2_with (fail)
      go_ret
      exact ⟨css, _, by omega, rfl, HM.out, hbel⟩
end Go.Proofs.YtbbgdcfbpgmjbaaGreatDoor
