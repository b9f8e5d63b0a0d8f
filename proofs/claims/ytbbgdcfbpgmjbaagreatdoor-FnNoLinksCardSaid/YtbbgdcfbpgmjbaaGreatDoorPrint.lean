/- HTML of inlines: plain texts and links, written into a buffer of the call's own. -/
import Derived.Test.YtbbgdcfbpgmjbaaGreatDoorPut
import Derived.Lib.BufferOld
import Derived.Lib.BufferKept
import Derived.Deep.RegionWith
namespace Go.Proofs.YtbbgdcfbpgmjbaaGreatDoor
open Go.RowKit
theorem Buf.lt {B b : Nat} {l : List UInt8} {w : World} (h : Buf B b l w) : b < w.heap.size := Lib.IsBuffer.lt h
theorem Buf.alloc {B b : Nat} {l : List UInt8} {w : World} (h : Buf B b l w) (o : Obj) : Buf B b l (w.alloc o) := Lib.IsBuffer.alloc h o
theorem Buf.old {B b : Nat} {l : List UInt8} {w w' : World} (h : Buf B b l w) (hb : Below w.heap.size w w') : Buf B b l w' := Lib.IsBuffer.old h hb
theorem Kept.below {b : Nat} {a w w' : World} (h : Kept b a w) (hb : Below w.heap.size w w') : Kept b a w' := Lib.OthersKept.below h hb
theorem html_count : htmlK.length ≤ 1000 := by decide
/-- a plain text lies in block g -/
def PlainIn (t : ByteArray) (g : Nat) (w : World) : Prop := w.heap[g]? = some (.cells #[.string t] 54 (0, 0))
theorem PlainIn.kept {t : ByteArray} {g b : Nat} {w w' : World} (h : PlainIn t g w) (hg : g ≠ b) (hk : Kept b w w') : PlainIn t g w' :=
  hk g _ h (fun e => hg (Option.some.inj e)) (by intro c fz e; injection e with _ h2 _; exact absurd h2 (by decide))
theorem PlainIn.lt {t : ByteArray} {g : Nat} {w : World} (h : PlainIn t g w) : g < w.heap.size := by
  rcases Nat.lt_or_ge g w.heap.size with h' | h'
  · exact h'
  · unfold PlainIn at h; rw [Array.getElem?_eq_none h'] at h; cases h
/-- the call writes these bytes behind those that the buffer holds -/
def Wrote (B b : Nat) (l m : List UInt8) (w : World) (e : Ending) (w' : World) : Prop := e = .returned (.tuple #[]) ∧ Buf B b (l ++ m) w' ∧ Below B w w' ∧ Kept b w w'
theorem md_Plain_PrintHTML (t : ByteArray) (B b g : Nat) (l : List UInt8) (w : World) (hb : Buf B b l w) (hBw : B ≤ w.heap.size) (hg : PlainIn t g w) (hl : l.length ≤ 1000000) (ht : t.size ≤ 100000) :
    Calls Tryz.prog 57 #[.pointer (some ⟨g, 0, none⟩), .pointer (some ⟨b, 0, none⟩)] w (Wrote B b l (escP htmlK htmlE t.data.toList) w) := by
  have hc : w.cell? ⟨g, 0, none⟩ = some (.string t) := by rw [Lib.cell_of_heap hg]; rfl
  have hgl := hg.lt
  have hc1 : (w.alloc (.cells (pairCells htmlK htmlE) 9)).cell? ⟨g, 0, none⟩ = some (.string t) := by rw [World.cell?_alloc_lt _ _ _ hgl]; exact hc
  have HM := Lib.hid (fun w => md_htmlEscaper w)
  have HW := Lib.hid (md_zzPairs_WriteString htmlK htmlE html_count (fun c _ => Nat.le_trans (htmlE_len c) (by decide)) B b w.heap.size l t (w.alloc (.cells (pairCells htmlK htmlE) 9)).drew (hb.alloc _) (by show B ≤ (w.alloc _).heap.size; simp; omega) (heap_alloc_new w _) (Nat.ne_of_gt hb.lt) hl (by omega))
  have HA : Hid (Below B w (w.alloc (.cells (pairCells htmlK htmlE) 9)).drew ∧ Kept b w (w.alloc (.cells (pairCells htmlK htmlE) 9)).drew) := Lib.hid ⟨((Below.refl _ _).alloc hBw _).drew, Kept.below (Lib.OthersKept.refl _ _ _) (((Below.refl _ _).alloc (Nat.le_refl _) _).drew)⟩
  unfold PairsMade at HM
  unfold Wrote
  clear hg hb
  generalize htmlK = K at *
  generalize htmlE = E at *
  generalize escP K E t.data.toList = M at *
  go_enter Tryz.func57, Tryz.ntmps57
  go_wp2_with (fail)
  go_region_with (first
    | (go_at_call 60; refine (HM.out _).mono ?_; rintro e w1 ⟨rfl, rfl⟩)
    | (go_at_call 61; refine HW.out.mono ?_; rintro e w2 ⟨rfl, hb2, hl2, hk2⟩))
  all_goals (go_wp2; go_end0; exact ⟨rfl, hb2, HA.out.1.trans hl2, HA.out.2.trans hk2⟩)
end Go.Proofs.YtbbgdcfbpgmjbaaGreatDoor
