/- The thin package's 'inlines' at any list of inlines of which 'inline' makes nodes. -/
import Derived.Test.YtnocllocnoodnaaGreatDoorNodeMade
import Derived.Deep.LoopGhost
import Derived.Deep.MidRow
namespace Go.Proofs.YtnocllocnoodnaaGreatDoor
open Go.RowKit
theorem node_info : (Tryz.prog.info? 33).map (fun i => (i.zero, i.size, i.bytes)) = some (some (nodeOf 0 ⟨#[]⟩ false), 16, 192) := by kernel_rfl
theorem arr16 {cs : Array Value} (h : cs.size = 16) : ∃ x0 x1 x2 x3 x4 x5 x6 x7 x8 x9 x10 x11 x12 x13 x14 x15, cs = #[x0, x1, x2, x3, x4, x5, x6, x7, x8, x9, x10, x11, x12, x13, x14, x15] := by
  obtain ⟨l⟩ := cs
  match l, h with
  | [x0, x1, x2, x3, x4, x5, x6, x7, x8, x9, x10, x11, x12, x13, x14, x15], _ => exact ⟨_, _, _, _, _, _, _, _, _, _, _, _, _, _, _, _, rfl⟩
/-- the inlines are turned to nodes -/
def NodesMade (Q : Nat → Nat → Nat → Array Value → World → Prop) (n : Nat) (w : World) (e : Ending) (w' : World) : Prop :=
  ∃ css o, css.length = n ∧ e = .returned o ∧ Made Q Array.toList 33 16 w.heap.size css o w' ∧ Below w.heap.size w w'
end Go.Proofs.YtnocllocnoodnaaGreatDoor
namespace Go.Proofs.YtnocllocnoodnaaGreatDoor
open Go.RowKit
theorem flat_get : ∀ (css : List (Array Value)) (k j : Nat) (h : k < css.length), (∀ c ∈ css, c.size = 16) → j < 16 → (css.flatMap Array.toList)[k * 16 + j]? = css[k].toList[j]?
  | [], _, _, h, _, _ => absurd h (Nat.not_lt_zero _)
  | c :: r, 0, j, _, hs, hj => by
    have h1 : c.toList.length = 16 := by simpa using hs c (by simp)
    simp only [List.flatMap_cons, List.getElem_cons_zero]
    rw [List.getElem?_append_left (by omega)]; simp
  | c :: r, k + 1, j, h, hs, hj => by
    have h1 : c.toList.length = 16 := by simpa using hs c (by simp)
    simp only [List.flatMap_cons, List.getElem_cons_succ]
    rw [List.getElem?_append_right (by omega), show (k + 1) * 16 + j - c.toList.length = k * 16 + j by omega]
    exact flat_get r k j (by simpa using h) (fun c hc => hs c (by simp [hc])) hj
theorem flat_len : ∀ (css : List (Array Value)), (∀ c ∈ css, c.size = 16) → (css.flatMap Array.toList).length = css.length * 16
  | [], _ => rfl
  | c :: r, hs => by
    have h1 : c.toList.length = 16 := by simpa using hs c (by simp)
    simp only [List.flatMap_cons, List.length_append, List.length_cons, flat_len r (fun c hc => hs c (by simp [hc])), h1]
    omega
theorem row_range {e : TypeId} {a k : Nat} {css : List (Array Value)} {w : World} (h : RowAt e a (css.flatMap Array.toList) w) (hs : ∀ c ∈ css, c.size = 16) (hk : k < css.length) : w.rangeAt a (k * 16) css[k].toList := by
  intro j v hv
  have hj : j < 16 := by
    have := (List.getElem?_eq_some_iff.1 hv).1
    have h2 := hs css[k] (List.getElem_mem hk)
    simp at this; omega
  have hl := flat_len css hs
  rw [h.cell (k * 16 + j) (by omega)]
  have := flat_get css k j hk hs hj
  rw [List.getElem?_eq_getElem (by omega)] at this
  rw [this]; exact hv
theorem inline_info : (Tryz.prog.info? 135).map (fun i => (i.zero, i.size, i.bytes)) = some (some .nilIface, 1, 16) := by kernel_rfl
theorem row_alloc (w : World) (old cs : Array Value) (t : TypeId) : (w.alloc (.cells old t)).setRow w.heap.size cs = w.alloc (.cells cs t) := by
  unfold World.setRow
  have hp : ∀ (h : Array Obj) (f : Obj → Obj) (x : Obj), (h.push x).modify h.size f = h.push (f x) := by
    intro h f x
    apply Array.ext
    · simp
    · intro i h1 h2
      simp only [Array.size_modify, Array.size_push] at h1
      rw [Array.getElem_modify]
      by_cases hi : h.size = i
      · subst hi; simp
      · rw [if_neg hi, Array.getElem_push_lt (by omega), Array.getElem_push_lt (by omega)]
  show ({ w.alloc (.cells old t) with heap := (w.heap.push (.cells old t (0, 0))).modify w.heap.size _ } : World) = _
  rw [hp]
  rfl
/-- a store of a node into a variable just made -/
theorem wpList_store_node {ops : Array Oper} {rest : List Oper} {op : Oper} {a : Act} {w : World} {Q : Exit → Act → World → Prop} (hgd : op.guard = none) (x y : Operand) (ho : op.op = .store 33 x y)
    (old cells : Array Value) (hold : old.size = 16) (hx : a.eval x = .pointer (some ⟨w.heap.size, 0, none⟩)) (hy : a.eval y = .agg cells)
    (hs : cells.size = 16) (h1 : cells.all (·.oneCell') = true)
    (h : wpList Tryz.prog ops Q rest (a.put op.dst undef) (w.alloc (.cells cells 33))) : wpList Tryz.prog ops Q (op :: rest) a (w.alloc (.cells old 33)) := by
  have hst := store_node cells hs h1 (w.alloc (.cells old 33)) w.heap.size old (heap_alloc_new w _) hold
  rw [row_alloc] at hst
  obtain ⟨j0, hi, hz0, hz1, hz2⟩ := info_parts node_info
  refine wpList_plain hgd fun _ hK => ?_
  unfold Oper.wp execOp
  have hv : (storeVar 33 ⟨w.heap.size, 0, none⟩ (.agg cells)).run Tryz.prog (w.alloc (.cells old 33)) = .ok () (w.alloc (.cells cells 33)) := by
    simp [storeVar, sizeOf, typeInfo, hi, Value.cells, hs, hz1, hst]
  simp only [ho, hx, hy, Instr.storeAt, Instr.sureAddr, Sem.run_bind, Sem.run_pure, Result.andThen_ok, hv]
  exact hK _ _ h
/-- the nodes are turned to inlines -/
def InlinesMade (Q : Nat → Nat → Nat → Value → World → Prop) (n : Nat) (w : World) (e : Ending) (w' : World) : Prop :=
  ∃ vs o, vs.length = n ∧ e = .returned o ∧ Made Q (fun v => [v]) 135 1 w.heap.size vs o w' ∧ Below w.heap.size w w'
theorem impl_written_nil (w : World) : Calls Tryz.prog 33 #[.slice none 0 0] w fun e w' => e = .returned (.slice none 0 0) ∧ w' = w := by
  go_enter Tryz.func33, Tryz.ntmps33
  go_wp2_with (fail)
  go_loopg [3, 8] 0 (fun gg o j wx => o = .slice none 0 0 ∧ j = .int .i64 0 ∧ wx = w)
  case atStart => exact ⟨rfl, rfl, rfl⟩
  case round =>
    obtain ⟨rfl, rfl, rfl⟩ := hrel
    go_wp2_with (fail)
    go_ret
    exact ⟨rfl, rfl⟩
set_option maxHeartbeats 4000000 in
set_option maxRecDepth 100000 in
theorem impl_written (Q : Nat → Nat → Nat → Value → World → Prop) (hS : Sayable Q) (css : List (Array Value)) (a c : Nat) (w : World) (hrow : RowAt 33 a (css.flatMap Array.toList) w) (hsz : ∀ c ∈ css, c.size = 16 ∧ c.all (·.oneCell') = true) (hn : css.length ≤ 1000)
    (H : ∀ i (h : i < css.length) w', Below w.heap.size w w' → Calls Tryz.prog 40 #[.agg css[i]] w' fun e w2 => ∃ v, (∃ T x, v = .iface T x) ∧ Q i w'.heap.size w2.heap.size v w2 ∧ e = .returned v ∧ Below w'.heap.size w' w2) :
    Calls Tryz.prog 33 #[.slice (some ⟨a, 0, none⟩) css.length c] w (InlinesMade Q css.length w) := by
  obtain ⟨i0, hi, hz0, hz1, hz2⟩ := info_parts inline_info
  obtain ⟨j0, hi', hz0', hz1', hz2'⟩ := info_parts node_info
  have hi16 : (Tryz.prog.info? 33).map (·.size) = some 16 := by rw [hi']; simp [hz1']
  have HI := Lib.hid hi16
  clear hi' hz0' hz1' hz2' hi16
  have H := Lib.hid H
  have HSZ := Lib.hid hsz
  have HR : Hid (∀ wx, Below w.heap.size w wx → ∀ k (h : k < css.length), wx.rangeAt a (k * 16) css[k].toList) := Lib.hid (fun wx hb k h => row_range (hrow.below hrow.lt hb) (fun c hc => (hsz c hc).1) h)
  have HM0 := Lib.hid (Made.nil Q (fun v => [v]) 135 1 w.heap.size w)
  clear hrow hsz
  unfold InlinesMade
  go_enter Tryz.func33, Tryz.ntmps33
  go_wp2_with (fail)
  go_loopg [3, 8] css.length (fun gg o j wx => ∃ k vs, k + gg = css.length ∧ j = .int .i64 k ∧ vs.length = k ∧ Hid (Made Q (fun v => [v]) 135 1 w.heap.size vs o wx) ∧ Below w.heap.size w wx)
  case atStart => exact ⟨0, [], by omega, rfl, rfl, HM0, Below.refl _ _⟩
  case round =>
    obtain ⟨k, vs, hk, rfl, hcl, HM, hbel⟩ := hrel
    clear HM0
    have hsz := hbel.size
    by_cases hlt : k < css.length
    · have HRR := Lib.hid (HR.out wr hbel k hlt)
      have HC := Lib.hid (fun w' hb => H.out k hlt w' hb)
      have HO := Lib.hid HM.out.1
      have HS2 := Lib.hid (HSZ.out css[k] (List.getElem_mem hlt))
      generalize css[k] = cs at *
      obtain ⟨x0, x1, x2, x3, x4, x5, x6, x7, x8, x9, x10, x11, x12, x13, x14, x15, rfl⟩ := arr16 HS2.out.1
      go_wp2_with (first
        | (refine wpList_load_mid rfl 33 _ rfl a (k * 16) rfl [x0, x1, x2, x3, x4, x5, x6, x7, x8, x9, x10, x11, x12, x13, x14, x15] _ HRR.out Tryz.underlying33 rfl HI.out ?_)
        | (refine wpList_store_node rfl _ _ rfl _ #[x0, x1, x2, x3, x4, x5, x6, x7, x8, x9, x10, x11, x12, x13, x14, x15] rfl rfl rfl rfl HS2.out.2 ?_; have hb1 : Below wr.heap.size wr (wr.alloc (.cells #[x0, x1, x2, x3, x4, x5, x6, x7, x8, x9, x10, x11, x12, x13, x14, x15] 33)) := (Below.refl _ _).alloc (Nat.le_refl _) _; have HB1 := Lib.hid hb1; clear hb1)
        | (go_at_call 40; refine (HC.out _ (hbel.trans (HB1.out.mono hsz))).mono ?_; rintro e w2 ⟨_, ⟨vT, vx, rfl⟩, hq, rfl, hb2⟩; have HQ := Lib.hid hq; have HO2 := Lib.hid (owns_below (owns_below HO.out HB1.out) hb2); have HB2 := Lib.hid hb2; clear hq hb2)
        | (at_builtin; refine wpList_append_lies _ rfl _ _ 110 rfl w.heap.size 135 i0 .nilIface 1 16 Tryz.underlying110 hi hz0 hz1 hz2 rfl (by decide) _ _ _ rfl (HO2.out.alloc _) ⟨w2.heap.size, 0, none⟩ 1 1 [.iface vT vx] rfl rfl (World.news_of_block (heap_alloc_new w2 _)) (fun u hu => by rw [List.mem_singleton.1 hu]; rfl) (by decide) (by unfold maxLen; omega) (by omega) (by have := HB2.out.size; simp at this ⊢; omega) (w2.heap.size + 1) (by simp) ?_; intro g cap w3 hown hgrow hat hlt3))
      go_roundg (gk - 1)
      case measure => omega
      case rel =>
        subst hcl
        have hb12 : Below wr.heap.size wr w2 := HB1.out.trans (HB2.out.mono HB1.out.size)
        have h1 : Q vs.length wr.heap.size w2.heap.size (.iface vT vx) w2 := hS.wide _ _ _ _ _ _ _ HQ.out HB1.out.size (Nat.le_refl _)
        exact ⟨vs.length + 1, vs ++ [.iface vT vx], by omega, by go_num, by simp, Lib.hid (Made.step hS HM.out hsz hb12 h1 hown (by omega) rfl hgrow hat), grown_below hbel HO.out hsz hb12 hgrow⟩
    · go_wp2_with (fail)
      go_ret
      exact ⟨vs, _, by omega, rfl, HM.out, hbel⟩
end Go.Proofs.YtnocllocnoodnaaGreatDoor
